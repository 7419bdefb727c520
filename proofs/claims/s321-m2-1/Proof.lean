import JvmDerived
import JvmDerived.Pilot.@@N@@Statement
import JvmDerived.Pilot.@@N@@Code
set_option linter.unusedVariables false
set_option linter.unusedSimpArgs false
namespace Jvm.RoadKit
open Sem ClassFile Op Lib Jvm.Stand Jvm.Free Jvm.LawKit
section New
variable {p : Program} {l : Launch} {e : Env} {R : Room} {s : State} {m : MethodId} {args : Array Value} {below : List Frame} {meth : Method} {c : Code} {T : State} {locs : List Loc} {cells slots : Nat}
theorem retI (X : Stand p l e R s m args below meth c T locs cells slots) (hx : p.tables.exec = Jvm.exec) {pc : Nat} {Ls : Array Slot} {z : Int32} {rest : List Value} (hret : meth.sig.returnType = some .int) (hd : decode c.code pc = .ok (.ireturn, 1)) {fs : List Frame}
    (hl : ∀ (f : JFrame) (acts : List Action), f.method = m → f.locked = none → f.entered = [] → (doReturn e (T.setTop f) acts (some (.int z))).1 = T.setFrames fs) : Steps p.tables e below (T.setTop (mkF m pc Ls (.int z :: rest))) (T.setFrames fs) := by
  have hm' : T.vm.method? m = some meth := X.method'
  have hn : narrow .int (.int z) = .int z := rfl
  show Steps p.tables e below (T.setTop { method := m, pc := pc, locals := Ls, stack := _ :: rest, locked := none }) _
  jvm_step X.here [X.here.top, hx, hd, hm', hret, hn]
  first | (intro acts; rw [hl _ acts rfl rfl rfl]) | rw [hl _ _ rfl rfl rfl]
  exact Steps.refl _
end New
end Jvm.RoadKit
namespace Jvm.Pilot.@@N@@
open Jvm Jvm.ClassFile Sem Op Lib Jvm.Free Jvm.Stand Jvm.LawKit Jvm.RoadKit Bundle Jvm.Pilot.@@N@@.Jvm.D
theorem own_dloadN {tb : Tables} [Ours tb] {e : Env} {below : List Frame} {T target : State} {m : MethodId} {c : Code} {g : JFrame} (h : At T m c below) (hx : tb.exec = Jvm.exec) (hg : g.method = m) {k : Fin 4} {v : UInt64} (hd : decode c.code g.pc = .ok (.dload_n k, 1)) (hl : g.locals[k.val]? = some (.val (.double v)))
    (hr : Steps tb e below (T.setTop { g with pc := g.pc + 1, stack := .double v :: g.stack }) target) : Steps tb e below (T.setTop g) target := by
  subst hg
  jvm_step h [h.top, hx, hd, hl]
  exact hr
theorem own_dload {tb : Tables} [Ours tb] {e : Env} {below : List Frame} {T target : State} {m : MethodId} {c : Code} {g : JFrame} (h : At T m c below) (hx : tb.exec = Jvm.exec) (hg : g.method = m) {k : Nat} {v : UInt64} (hd : decode c.code g.pc = .ok (.dload k, 2)) (hl : g.locals[k]? = some (.val (.double v)))
    (hr : Steps tb e below (T.setTop { g with pc := g.pc + 2, stack := .double v :: g.stack }) target) : Steps tb e below (T.setTop g) target := by
  subst hg
  jvm_step h [h.top, hx, hd, hl]
  exact hr
theorem own_i2d {tb : Tables} [Ours tb] {e : Env} {below : List Frame} {T target : State} {m : MethodId} {c : Code} {g : JFrame} (h : At T m c below) (hx : tb.exec = Jvm.exec) (hg : g.method = m) {x : Int32} {rest : List Value} (hd : decode c.code g.pc = .ok (.i2d, 1)) (hs : g.stack = .int x :: rest)
    (hr : Steps tb e below (T.setTop { g with pc := g.pc + 1, stack := .double (FP.i2d x) :: rest }) target) : Steps tb e below (T.setTop g) target := by
  subst hg
  jvm_step h [h.top, hx, hd, hs]
  exact hr
theorem own_dcmp {tb : Tables} [Ours tb] {e : Env} {below : List Frame} {T target : State} {m : MethodId} {c : Code} {g : JFrame} (h : At T m c below) (hx : tb.exec = Jvm.exec) (hg : g.method = m) {op : CmpOp} {x y : UInt64} {rest : List Value} (hd : decode c.code g.pc = .ok (.dcmp op, 1)) (hs : g.stack = .double y :: .double x :: rest)
    (hr : Steps tb e below (T.setTop { g with pc := g.pc + 1, stack := .int (cmpValue (FP.dcmp x y) op) :: rest }) target) : Steps tb e below (T.setTop g) target := by
  subst hg
  jvm_step h [h.top, hx, hd, hs]
  exact hr
theorem own_dconst1 {tb : Tables} [Ours tb] {e : Env} {below : List Frame} {T target : State} {m : MethodId} {c : Code} {g : JFrame} (h : At T m c below) (hx : tb.exec = Jvm.exec) (hg : g.method = m) (hd : decode c.code g.pc = .ok (.dconst 1, 1))
    (hr : Steps tb e below (T.setTop { g with pc := g.pc + 1, stack := .double FP.dconst1 :: g.stack }) target) : Steps tb e below (T.setTop g) target := by
  subst hg
  jvm_step h [h.top, hx, hd]
  exact hr
theorem own_stD {p : Program} {l : Launch} {e : Env} {R : Room} {s : State} {m : MethodId} {args : Array Value} {below : List Frame} {meth : Method} {c : Code} {T : State} {locs : List Loc} {cells slots : Nat} {Z : State} {h : Heap}
    (X : Stand p l e R s m args below meth c T locs cells slots) (hx : p.tables.exec = Jvm.exec) (hZ : Z.Warmed39 s.vm) (eT : T.heap = h) {a : Addr} {cl : Cell} (A : Arr Z h a cl .double) {j : Int32} {x : UInt64} (hj : ¬ (j < 0 ∨ cl.slots.size ≤ j.toNatClampNeg)) {g : JFrame} (hg : g.method = m) {rest : List Value} (hs : g.stack = .double x :: .int j :: .ref a :: rest) (hd : decode c.code g.pc = .ok (.dastore, 1)) :
    ∃ T' h', Stand p l e R s m args below meth c T' (locs ++ [⟨a, j.toNatClampNeg⟩]) cells slots ∧ T'.heap = h' ∧ Wr h h' a j.toNatClampNeg (.double x) ∧ ∀ target, Steps p.tables e below (T'.setTop { g with pc := g.pc + 1, stack := rest }) target → Steps p.tables e below (T.setTop g) target := by
  obtain ⟨X', st⟩ := X.dastore hx (by rw [eT]; exact A.1) (State.isArrayOf_alike hZ.alike A.2.1) A.2.2 hj hg hs hd
  exact ⟨_, _, X', rfl, ⟨cl, A.1, A.plain, Nat.lt_of_not_le fun q => hj (Or.inr q), by rw [← eT]; rfl⟩, st⟩
/-- an array of n places, the j-th holds f j -/
def Arf (Z : State) (h : Heap) (a : Addr) (k : ClassId) (ty : FieldType) (n : Nat) (f : Nat → Value) : Prop := ∃ c : Cell, Arr Z h a c ty ∧ c.cls = k ∧ c.slots.size = n ∧ n < 2 ^ 31 ∧ (∀ j, j < n → c.slots[j]? = some (f j)) ∧ ∀ j, j < n → fits ty (f j) = true
def upd (f : Nat → Value) (i : Nat) (v : Value) : Nat → Value := fun j => if j = i then v else f j
section Arfs
variable {Z : State} {h h' : Heap} {a b : Addr} {k : ClassId} {ty : FieldType} {n i : Nat} {f : Nat → Value} {v : Value} {sl : Nat} {ws : List Addr} {c : Cell} {j : Int32}
theorem Arf.lt (F : Arf Z h a k ty n f) : a < h.size := by obtain ⟨c, A, -⟩ := F; exact A.lt
theorem Arf.ext (F : Arf Z h a k ty n f) (E : Ext h h') : Arf Z h' a k ty n f := by obtain ⟨c, A, r⟩ := F; exact ⟨c, A.ext E, r⟩
theorem Arf.other (F : Arf Z h b k ty n f) (W : Wr h h' a sl v) (q : b ≠ a) : Arf Z h' b k ty n f := by obtain ⟨c, A, r⟩ := F; exact ⟨c, A.other W q, r⟩
theorem Arf.keep (F : Arf Z h a k ty n f) (K : Keep h h' ws) (q : a ∉ ws) : Arf Z h' a k ty n f := by obtain ⟨c, A, r⟩ := F; exact ⟨c, ⟨K.2.1 a c A.1 q, A.2⟩, r⟩
theorem Arf.new {z : Int32} (A : Arr Z h a (newA k ty z) ty) (q : ¬ z < 0) (hz : z.toNatClampNeg = n) : Arf Z h a k ty n (fun _ => defaultValue ty) := ⟨_, A, rfl, by rw [sz_new, hz], by rw [← hz]; exact (back32 q).2, fun i hi => by
  rw [← hz] at hi; simp [newA, hi], fun _ _ => by cases ty <;> rfl⟩
theorem Arf.eq {g : Nat → Value} (F : Arf Z h a k ty n f) (e : ∀ j, j < n → f j = g j) : Arf Z h a k ty n g := by obtain ⟨c, A, r1, r2, r3, H, G⟩ := F; exact ⟨c, A, r1, r2, r3, fun j hj => by rw [← e j hj]; exact H j hj, fun j hj => by rw [← e j hj]; exact G j hj⟩
theorem own_inb (S : c.slots.size = n) (ix : ¬ j < 0 ∧ j.toNatClampNeg = i) (hi : i < n) : ¬ (j < 0 ∨ c.slots.size ≤ j.toNatClampNeg) := by rw [S, ix.2]; exact fun q => q.elim ix.1 (Nat.not_le.mpr hi)
theorem own_hat (H : ∀ j, j < n → c.slots[j]? = some (f j)) (ix : ¬ j < 0 ∧ j.toNatClampNeg = i) (hi : i < n) (hv : f i = v) : c.slots[j.toNatClampNeg]? = some v := by rw [ix.2, H _ hi, hv]
theorem own_set (A : Arr Z h a c ty) (q : c.cls = k) (S : c.slots.size = n) (B : n < 2 ^ 31) (H : ∀ j, j < n → c.slots[j]? = some (f j)) (G : ∀ j, j < n → fits ty (f j) = true) (hv : fits ty v = true) (ix : ¬ j < 0 ∧ j.toNatClampNeg = i) (W : Wr h h' a j.toNatClampNeg v) : Arf Z h' a k ty n (upd f i v) := by
  refine ⟨_, A.same W, q, by rw [sz_set]; exact S, B, fun x hx => ?_, fun x hx => ?_⟩
  · rw [ix.2]
    by_cases u : x = i
    · subst u; simp [Cell.setSlot, S, hx, upd]
    · simp only [Cell.setSlot, upd, if_neg u]
      rw [Array.getElem?_setIfInBounds_ne (Ne.symm u)]; exact H x hx
  · unfold upd
    split
    · exact hv
    · exact G x hx
theorem own_ix {k : Nat} (hk : k < 2 ^ 31) : ¬ k.toInt32 < 0 ∧ k.toInt32.toNatClampNeg = k := by
  have e := len_toInt hk
  refine ⟨?_, ?_⟩
  · rw [Int32.lt_iff_toInt_lt, e]; show ¬ (k : Int) < 0; omega
  · simp only [Int32.toNatClampNeg, e]; rfl
end Arfs
theorem pd_0 : parseMethodDescriptor "(II)I" = some ⟨[.int, .int], some .int⟩ := by decide +kernel
theorem pd_1 : parseMethodDescriptor "(I)V" = some ⟨[.int], none⟩ := by decide +kernel
theorem pd_2 : parseMethodDescriptor "(Ljava/lang/Object;)Ljava/lang/Object;" = some ⟨[(.object "java/lang/Object")], some (.object "java/lang/Object")⟩ := by decide +kernel
theorem pd_3 : parseMethodDescriptor "(Lcom/example/xml_element_search/xmlelementsearch/ElementScores;)V" = some ⟨[(.object "com/example/xml_element_search/xmlelementsearch/ElementScores")], none⟩ := by decide +kernel
theorem pd_4 : parseMethodDescriptor "(J)Z" = some ⟨[.long], some .boolean⟩ := by decide +kernel
theorem pd_5 : parseMethodDescriptor "(JIJJJ)I" = some ⟨[.long, .int, .long, .long, .long], some .int⟩ := by decide +kernel
theorem pd_6 : parseMethodDescriptor "()D" = some ⟨[], some .double⟩ := by decide +kernel
theorem pd_7 : parseMethodDescriptor "(JJ)J" = some ⟨[.long, .long], some .long⟩ := by decide +kernel
theorem pd_8 : parseMethodDescriptor "(IJJJJ)J" = some ⟨[.int, .long, .long, .long, .long], some .long⟩ := by decide +kernel
theorem pd_9 : parseMethodDescriptor "()V" = some ⟨[], none⟩ := by decide +kernel
theorem pd_10 : parseMethodDescriptor "(JD)V" = some ⟨[.long, .double], none⟩ := by decide +kernel
theorem d1_0 : decode jdk_29_method_70_code 0 = .ok (.lload_n 0, 1) := by decide +kernel
theorem d1_1 : decode jdk_29_method_70_code 1 = .ok (.lload_n 2, 1) := by decide +kernel
theorem d1_2 : decode jdk_29_method_70_code 2 = .ok (.lcmp, 1) := by decide +kernel
theorem d1_3 : decode jdk_29_method_70_code 3 = .ok (.ifCond .gt 7, 3) := by decide +kernel
theorem d1_6 : decode jdk_29_method_70_code 6 = .ok (.lload_n 0, 1) := by decide +kernel
theorem d1_7 : decode jdk_29_method_70_code 7 = .ok (.goto 4, 3) := by decide +kernel
theorem d1_10 : decode jdk_29_method_70_code 10 = .ok (.lload_n 2, 1) := by decide +kernel
theorem d1_11 : decode jdk_29_method_70_code 11 = .ok (.lreturn, 1) := by decide +kernel
theorem ef_own_min (m : MethodId) (x0 : Int64) (x1 : Int64) : entryFrame m #[(.long x0), (.long x1)] 4 = mkF m 0 #[.val (.long x0), .second, .val (.long x1), .second] [] := by first | (simp [entryFrame, mkF, argsToLocals, Value.category]; done) | rfl
def Q_own_min (Z : State) (p0 : Int64) (p1 : Int64)  (h0 : Heap) (n0 : Nat) (v : Option Value) (h : Heap) (L : List Loc) : Prop := v = some (.long (if p1 < p0 then p1 else p0)) ∧ Fr n0 L ∧ h = h0
set_option maxRecDepth 65536 in
set_option maxHeartbeats 40000000 in
theorem own_min (l : Launch) (Z : State) (a0 : Array Value) (hw : ∀ d ∈ tables_1, d.before a0 Z = true) (ws : List Jvm.Cond) (p0 : Int64) (p1 : Int64)  (h0 : Heap) (n0 : Nat) (Z0 : n0 ≤ h0.size)  :
    MetFree l (⟨"java/lang/Math", "min", "(JJ)J"⟩ : MethodName) (head1 (Jvm.Cond.code (⟨"java/lang/Math", "min", "(JJ)J"⟩ : MethodName) jdk_29_method_70_code 4 (some .long) :: ws) ({ frames := 0, cells := 0, slots := 0, locals := 0 } : Room)) (fun a U => a = #[(.long p0), (.long p1)] ∧ Z.Warmed39 U.vm ∧ U.heap = h0) (fun _ _ _ _ _ => True) (fun _ U o U' => ∃ v L, o = .returned v ∧ Q_own_min Z p0 p1  h0 n0 v U'.heap L ∧ FrameEnd U o U' L ({ frames := 0, cells := 0, slots := 0, locals := 0 } : Room).cells ({ frames := 0, cells := 0, slots := 0, locals := 0 } : Room).slots) := by
  refine MetFree.of_bodySF (by decide +kernel) hisR ?_
  intro p e s m args below meth c s₁ Bd hml0 hP hK
  obtain ⟨rfl, hZ, hh⟩ := hP
  have hx := Bd.exec
  have hby := Bd.bytes
  have hml : c.maxLocals = 4 := hml0
  have hown : s.vm.findClass "java/lang/Math" = some m.cls := findClass_of_methodNamed Bd.named
  have hnm := (name_of_methodNamed Bd.named Bd.method).1
  have X0 : Stand p l e ({ frames := 0, cells := 0, slots := 0, locals := 0 } : Room) s m #[(.long p0), (.long p1)] below meth c s₁ [] 0 0 := Stand.of_body Bd
  have e0 : s₁.heap = h0 := by rw [← hh, Bd.state]; rfl
  have N0 := Fr.nil n0
  have pre0 : ∀ t, Steps p.tables e below (s₁.setTop (mkF m 0 #[.val (.long p0), .second, .val (.long p1), .second] [])) t → Steps p.tables e below (s₁.setTop (entryFrame m #[(.long p0), (.long p1)] 4)) t := fun t k => castTop (ef_own_min m (p0) (p1)) k
  by_cases hq : p1 < p0
  · obtain ⟨fs, hr, hrun, hended, hW, hsame⟩ := X0.leave (v := some (.long p1)) (fun h => by rw [Bd.returns] at h; cases h)
    refine ⟨_, _, pre0 _ ?_, hrun, hended, _, _, rfl, ?_, ⟨_, rfl⟩, hW, hsame.mono (by decide) (by decide)⟩
    · show Steps p.tables e below (s₁.setTop (mkF m 0 #[.val (.long p0), .second, .val (.long p1), .second] [])) _
      refine XT.lloadN X0.here hx rfl (hb hby d1_0) rfl ?_
      show Steps p.tables e below (s₁.setTop (mkF m 1 #[.val (.long p0), .second, .val (.long p1), .second] [(.long p0)])) _
      refine XT.lloadN X0.here hx rfl (hb hby d1_1) rfl ?_
      show Steps p.tables e below (s₁.setTop (mkF m 2 #[.val (.long p0), .second, .val (.long p1), .second] [(.long p1), (.long p0)])) _
      refine XT.lcmp X0.here hx rfl (hb hby d1_2) rfl ?_
      show Steps p.tables e below (s₁.setTop (mkF m 3 #[.val (.long p0), .second, .val (.long p1), .second] [(.int (XT.cmpL p0 p1))])) _
      refine XS.ifYes X0.here hx rfl (pc0 := 3) (pc' := 10) rfl (hb hby d1_3) rfl (XT.ll_gt_t hq) (by decide) (by decide) ?_
      show Steps p.tables e below (s₁.setTop (mkF m 10 #[.val (.long p0), .second, .val (.long p1), .second] [])) _
      refine XT.lloadN X0.here hx rfl (hb hby d1_10) rfl ?_
      show Steps p.tables e below (s₁.setTop (mkF m 11 #[.val (.long p0), .second, .val (.long p1), .second] [(.long p1)])) _
      exact retOut X0 hx (t := .long) Bd.returns rfl (Or.inr (Or.inl ⟨rfl, rfl, _, rfl⟩)) (hb hby d1_11) hr
    · show Q_own_min Z p0 p1  h0 n0 _ s₁.heap _
      rw [e0]
      exact ⟨by rw [if_pos hq], N0, rfl⟩
  · obtain ⟨fs, hr, hrun, hended, hW, hsame⟩ := X0.leave (v := some (.long p0)) (fun h => by rw [Bd.returns] at h; cases h)
    refine ⟨_, _, pre0 _ ?_, hrun, hended, _, _, rfl, ?_, ⟨_, rfl⟩, hW, hsame.mono (by decide) (by decide)⟩
    · show Steps p.tables e below (s₁.setTop (mkF m 0 #[.val (.long p0), .second, .val (.long p1), .second] [])) _
      refine XT.lloadN X0.here hx rfl (hb hby d1_0) rfl ?_
      show Steps p.tables e below (s₁.setTop (mkF m 1 #[.val (.long p0), .second, .val (.long p1), .second] [(.long p0)])) _
      refine XT.lloadN X0.here hx rfl (hb hby d1_1) rfl ?_
      show Steps p.tables e below (s₁.setTop (mkF m 2 #[.val (.long p0), .second, .val (.long p1), .second] [(.long p1), (.long p0)])) _
      refine XT.lcmp X0.here hx rfl (hb hby d1_2) rfl ?_
      show Steps p.tables e below (s₁.setTop (mkF m 3 #[.val (.long p0), .second, .val (.long p1), .second] [(.int (XT.cmpL p0 p1))])) _
      refine XS.ifNo X0.here hx rfl (hb hby d1_3) rfl (XT.ll_gt_f hq) ?_
      show Steps p.tables e below (s₁.setTop (mkF m 6 #[.val (.long p0), .second, .val (.long p1), .second] [])) _
      refine XT.lloadN X0.here hx rfl (hb hby d1_6) rfl ?_
      show Steps p.tables e below (s₁.setTop (mkF m 7 #[.val (.long p0), .second, .val (.long p1), .second] [(.long p0)])) _
      refine XS.goto X0.here hx rfl (pc0 := 7) (pc' := 11) rfl (hb hby d1_7) (by decide) (by decide) ?_
      show Steps p.tables e below (s₁.setTop (mkF m 11 #[.val (.long p0), .second, .val (.long p1), .second] [(.long p0)])) _
      exact retOut X0 hx (t := .long) Bd.returns rfl (Or.inr (Or.inl ⟨rfl, rfl, _, rfl⟩)) (hb hby d1_11) hr
    · show Q_own_min Z p0 p1  h0 n0 _ s₁.heap _
      rw [e0]
      exact ⟨by rw [if_neg hq], N0, rfl⟩
theorem d2_0 : decode jdk_29_method_66_code 0 = .ok (.lload_n 0, 1) := by decide +kernel
theorem d2_1 : decode jdk_29_method_66_code 1 = .ok (.lload_n 2, 1) := by decide +kernel
theorem d2_2 : decode jdk_29_method_66_code 2 = .ok (.lcmp, 1) := by decide +kernel
theorem d2_3 : decode jdk_29_method_66_code 3 = .ok (.ifCond .lt 7, 3) := by decide +kernel
theorem d2_6 : decode jdk_29_method_66_code 6 = .ok (.lload_n 0, 1) := by decide +kernel
theorem d2_7 : decode jdk_29_method_66_code 7 = .ok (.goto 4, 3) := by decide +kernel
theorem d2_10 : decode jdk_29_method_66_code 10 = .ok (.lload_n 2, 1) := by decide +kernel
theorem d2_11 : decode jdk_29_method_66_code 11 = .ok (.lreturn, 1) := by decide +kernel
theorem ef_own_max (m : MethodId) (x0 : Int64) (x1 : Int64) : entryFrame m #[(.long x0), (.long x1)] 4 = mkF m 0 #[.val (.long x0), .second, .val (.long x1), .second] [] := by first | (simp [entryFrame, mkF, argsToLocals, Value.category]; done) | rfl
def Q_own_max (Z : State) (p0 : Int64) (p1 : Int64)  (h0 : Heap) (n0 : Nat) (v : Option Value) (h : Heap) (L : List Loc) : Prop := v = some (.long (if p0 < p1 then p1 else p0)) ∧ Fr n0 L ∧ h = h0
set_option maxRecDepth 65536 in
set_option maxHeartbeats 40000000 in
theorem own_max (l : Launch) (Z : State) (a0 : Array Value) (hw : ∀ d ∈ tables_1, d.before a0 Z = true) (ws : List Jvm.Cond) (p0 : Int64) (p1 : Int64)  (h0 : Heap) (n0 : Nat) (Z0 : n0 ≤ h0.size)  :
    MetFree l (⟨"java/lang/Math", "max", "(JJ)J"⟩ : MethodName) (head1 (Jvm.Cond.code (⟨"java/lang/Math", "max", "(JJ)J"⟩ : MethodName) jdk_29_method_66_code 4 (some .long) :: ws) ({ frames := 0, cells := 0, slots := 0, locals := 0 } : Room)) (fun a U => a = #[(.long p0), (.long p1)] ∧ Z.Warmed39 U.vm ∧ U.heap = h0) (fun _ _ _ _ _ => True) (fun _ U o U' => ∃ v L, o = .returned v ∧ Q_own_max Z p0 p1  h0 n0 v U'.heap L ∧ FrameEnd U o U' L ({ frames := 0, cells := 0, slots := 0, locals := 0 } : Room).cells ({ frames := 0, cells := 0, slots := 0, locals := 0 } : Room).slots) := by
  refine MetFree.of_bodySF (by decide +kernel) hisR ?_
  intro p e s m args below meth c s₁ Bd hml0 hP hK
  obtain ⟨rfl, hZ, hh⟩ := hP
  have hx := Bd.exec
  have hby := Bd.bytes
  have hml : c.maxLocals = 4 := hml0
  have hown : s.vm.findClass "java/lang/Math" = some m.cls := findClass_of_methodNamed Bd.named
  have hnm := (name_of_methodNamed Bd.named Bd.method).1
  have X0 : Stand p l e ({ frames := 0, cells := 0, slots := 0, locals := 0 } : Room) s m #[(.long p0), (.long p1)] below meth c s₁ [] 0 0 := Stand.of_body Bd
  have e0 : s₁.heap = h0 := by rw [← hh, Bd.state]; rfl
  have N0 := Fr.nil n0
  have pre0 : ∀ t, Steps p.tables e below (s₁.setTop (mkF m 0 #[.val (.long p0), .second, .val (.long p1), .second] [])) t → Steps p.tables e below (s₁.setTop (entryFrame m #[(.long p0), (.long p1)] 4)) t := fun t k => castTop (ef_own_max m (p0) (p1)) k
  by_cases hq : p0 < p1
  · obtain ⟨fs, hr, hrun, hended, hW, hsame⟩ := X0.leave (v := some (.long p1)) (fun h => by rw [Bd.returns] at h; cases h)
    refine ⟨_, _, pre0 _ ?_, hrun, hended, _, _, rfl, ?_, ⟨_, rfl⟩, hW, hsame.mono (by decide) (by decide)⟩
    · show Steps p.tables e below (s₁.setTop (mkF m 0 #[.val (.long p0), .second, .val (.long p1), .second] [])) _
      refine XT.lloadN X0.here hx rfl (hb hby d2_0) rfl ?_
      show Steps p.tables e below (s₁.setTop (mkF m 1 #[.val (.long p0), .second, .val (.long p1), .second] [(.long p0)])) _
      refine XT.lloadN X0.here hx rfl (hb hby d2_1) rfl ?_
      show Steps p.tables e below (s₁.setTop (mkF m 2 #[.val (.long p0), .second, .val (.long p1), .second] [(.long p1), (.long p0)])) _
      refine XT.lcmp X0.here hx rfl (hb hby d2_2) rfl ?_
      show Steps p.tables e below (s₁.setTop (mkF m 3 #[.val (.long p0), .second, .val (.long p1), .second] [(.int (XT.cmpL p0 p1))])) _
      refine XS.ifYes X0.here hx rfl (pc0 := 3) (pc' := 10) rfl (hb hby d2_3) rfl (XT.ll_lt_t hq) (by decide) (by decide) ?_
      show Steps p.tables e below (s₁.setTop (mkF m 10 #[.val (.long p0), .second, .val (.long p1), .second] [])) _
      refine XT.lloadN X0.here hx rfl (hb hby d2_10) rfl ?_
      show Steps p.tables e below (s₁.setTop (mkF m 11 #[.val (.long p0), .second, .val (.long p1), .second] [(.long p1)])) _
      exact retOut X0 hx (t := .long) Bd.returns rfl (Or.inr (Or.inl ⟨rfl, rfl, _, rfl⟩)) (hb hby d2_11) hr
    · show Q_own_max Z p0 p1  h0 n0 _ s₁.heap _
      rw [e0]
      exact ⟨by rw [if_pos hq], N0, rfl⟩
  · obtain ⟨fs, hr, hrun, hended, hW, hsame⟩ := X0.leave (v := some (.long p0)) (fun h => by rw [Bd.returns] at h; cases h)
    refine ⟨_, _, pre0 _ ?_, hrun, hended, _, _, rfl, ?_, ⟨_, rfl⟩, hW, hsame.mono (by decide) (by decide)⟩
    · show Steps p.tables e below (s₁.setTop (mkF m 0 #[.val (.long p0), .second, .val (.long p1), .second] [])) _
      refine XT.lloadN X0.here hx rfl (hb hby d2_0) rfl ?_
      show Steps p.tables e below (s₁.setTop (mkF m 1 #[.val (.long p0), .second, .val (.long p1), .second] [(.long p0)])) _
      refine XT.lloadN X0.here hx rfl (hb hby d2_1) rfl ?_
      show Steps p.tables e below (s₁.setTop (mkF m 2 #[.val (.long p0), .second, .val (.long p1), .second] [(.long p1), (.long p0)])) _
      refine XT.lcmp X0.here hx rfl (hb hby d2_2) rfl ?_
      show Steps p.tables e below (s₁.setTop (mkF m 3 #[.val (.long p0), .second, .val (.long p1), .second] [(.int (XT.cmpL p0 p1))])) _
      refine XS.ifNo X0.here hx rfl (hb hby d2_3) rfl (XT.ll_lt_f hq) ?_
      show Steps p.tables e below (s₁.setTop (mkF m 6 #[.val (.long p0), .second, .val (.long p1), .second] [])) _
      refine XT.lloadN X0.here hx rfl (hb hby d2_6) rfl ?_
      show Steps p.tables e below (s₁.setTop (mkF m 7 #[.val (.long p0), .second, .val (.long p1), .second] [(.long p0)])) _
      refine XS.goto X0.here hx rfl (pc0 := 7) (pc' := 11) rfl (hb hby d2_7) (by decide) (by decide) ?_
      show Steps p.tables e below (s₁.setTop (mkF m 11 #[.val (.long p0), .second, .val (.long p1), .second] [(.long p0)])) _
      exact retOut X0 hx (t := .long) Bd.returns rfl (Or.inr (Or.inl ⟨rfl, rfl, _, rfl⟩)) (hb hby d2_11) hr
    · show Q_own_max Z p0 p1  h0 n0 _ s₁.heap _
      rw [e0]
      exact ⟨by rw [if_neg hq], N0, rfl⟩
theorem d7_0 : decode jdk_29_method_65_code 0 = .ok (.iload_n 0, 1) := by decide +kernel
theorem d7_1 : decode jdk_29_method_65_code 1 = .ok (.iload_n 1, 1) := by decide +kernel
theorem d7_2 : decode jdk_29_method_65_code 2 = .ok (.if_icmp .lt 7, 3) := by decide +kernel
theorem d7_5 : decode jdk_29_method_65_code 5 = .ok (.iload_n 0, 1) := by decide +kernel
theorem d7_6 : decode jdk_29_method_65_code 6 = .ok (.goto 4, 3) := by decide +kernel
theorem d7_9 : decode jdk_29_method_65_code 9 = .ok (.iload_n 1, 1) := by decide +kernel
theorem d7_10 : decode jdk_29_method_65_code 10 = .ok (.ireturn, 1) := by decide +kernel
theorem ef_own_maxI (m : MethodId) (x0 : Int32) (x1 : Int32) : entryFrame m #[(.int x0), (.int x1)] 2 = mkF m 0 #[.val (.int x0), .val (.int x1)] [] := by first | (simp [entryFrame, mkF, argsToLocals, Value.category]; done) | rfl
def Q_own_maxI (Z : State) (p0 : Int32) (p1 : Int32)  (h0 : Heap) (n0 : Nat) (v : Option Value) (h : Heap) (L : List Loc) : Prop := v = some (.int (if p0 < p1 then p1 else p0)) ∧ Fr n0 L ∧ h = h0
set_option maxRecDepth 65536 in
set_option maxHeartbeats 40000000 in
theorem own_maxI (l : Launch) (Z : State) (a0 : Array Value) (hw : ∀ d ∈ tables_1, d.before a0 Z = true) (ws : List Jvm.Cond) (p0 : Int32) (p1 : Int32)  (h0 : Heap) (n0 : Nat) (Z0 : n0 ≤ h0.size)  :
    MetFree l (⟨"java/lang/Math", "max", "(II)I"⟩ : MethodName) (head1 (Jvm.Cond.code (⟨"java/lang/Math", "max", "(II)I"⟩ : MethodName) jdk_29_method_65_code 2 (some .int) :: ws) ({ frames := 0, cells := 0, slots := 0, locals := 0 } : Room)) (fun a U => a = #[(.int p0), (.int p1)] ∧ Z.Warmed39 U.vm ∧ U.heap = h0) (fun _ _ _ _ _ => True) (fun _ U o U' => ∃ v L, o = .returned v ∧ Q_own_maxI Z p0 p1  h0 n0 v U'.heap L ∧ FrameEnd U o U' L ({ frames := 0, cells := 0, slots := 0, locals := 0 } : Room).cells ({ frames := 0, cells := 0, slots := 0, locals := 0 } : Room).slots) := by
  refine MetFree.of_bodySF (by decide +kernel) hisR ?_
  intro p e s m args below meth c s₁ Bd hml0 hP hK
  obtain ⟨rfl, hZ, hh⟩ := hP
  have hx := Bd.exec
  have hby := Bd.bytes
  have hml : c.maxLocals = 2 := hml0
  have hown : s.vm.findClass "java/lang/Math" = some m.cls := findClass_of_methodNamed Bd.named
  have hnm := (name_of_methodNamed Bd.named Bd.method).1
  have X0 : Stand p l e ({ frames := 0, cells := 0, slots := 0, locals := 0 } : Room) s m #[(.int p0), (.int p1)] below meth c s₁ [] 0 0 := Stand.of_body Bd
  have e0 : s₁.heap = h0 := by rw [← hh, Bd.state]; rfl
  have N0 := Fr.nil n0
  have pre0 : ∀ t, Steps p.tables e below (s₁.setTop (mkF m 0 #[.val (.int p0), .val (.int p1)] [])) t → Steps p.tables e below (s₁.setTop (entryFrame m #[(.int p0), (.int p1)] 2)) t := fun t k => castTop (ef_own_maxI m (p0) (p1)) k
  by_cases hq : p0 < p1
  · obtain ⟨fs, hr, hrun, hended, hW, hsame⟩ := X0.leave (v := some (.int p1)) (fun h => by rw [Bd.returns] at h; cases h)
    refine ⟨_, _, pre0 _ ?_, hrun, hended, _, _, rfl, ?_, ⟨_, rfl⟩, hW, hsame.mono (by decide) (by decide)⟩
    · show Steps p.tables e below (s₁.setTop (mkF m 0 #[.val (.int p0), .val (.int p1)] [])) _
      refine XS.iloadN X0.here hx rfl (hb hby d7_0) rfl ?_
      show Steps p.tables e below (s₁.setTop (mkF m 1 #[.val (.int p0), .val (.int p1)] [(.int p0)])) _
      refine XS.iloadN X0.here hx rfl (hb hby d7_1) rfl ?_
      show Steps p.tables e below (s₁.setTop (mkF m 2 #[.val (.int p0), .val (.int p1)] [(.int p1), (.int p0)])) _
      refine XS.icmpYes X0.here hx rfl (pc0 := 2) (pc' := 9) rfl (hb hby d7_2) rfl (XT.ii_lt_t hq) (by decide) (by decide) ?_
      show Steps p.tables e below (s₁.setTop (mkF m 9 #[.val (.int p0), .val (.int p1)] [])) _
      refine XS.iloadN X0.here hx rfl (hb hby d7_9) rfl ?_
      show Steps p.tables e below (s₁.setTop (mkF m 10 #[.val (.int p0), .val (.int p1)] [(.int p1)])) _
      exact retI X0 hx Bd.returns (hb hby d7_10) hr
    · show Q_own_maxI Z p0 p1  h0 n0 _ s₁.heap _
      rw [e0]
      exact ⟨by rw [if_pos hq], N0, rfl⟩
  · obtain ⟨fs, hr, hrun, hended, hW, hsame⟩ := X0.leave (v := some (.int p0)) (fun h => by rw [Bd.returns] at h; cases h)
    refine ⟨_, _, pre0 _ ?_, hrun, hended, _, _, rfl, ?_, ⟨_, rfl⟩, hW, hsame.mono (by decide) (by decide)⟩
    · show Steps p.tables e below (s₁.setTop (mkF m 0 #[.val (.int p0), .val (.int p1)] [])) _
      refine XS.iloadN X0.here hx rfl (hb hby d7_0) rfl ?_
      show Steps p.tables e below (s₁.setTop (mkF m 1 #[.val (.int p0), .val (.int p1)] [(.int p0)])) _
      refine XS.iloadN X0.here hx rfl (hb hby d7_1) rfl ?_
      show Steps p.tables e below (s₁.setTop (mkF m 2 #[.val (.int p0), .val (.int p1)] [(.int p1), (.int p0)])) _
      refine XS.icmpNo X0.here hx rfl (hb hby d7_2) rfl (XT.ii_lt_f hq) ?_
      show Steps p.tables e below (s₁.setTop (mkF m 5 #[.val (.int p0), .val (.int p1)] [])) _
      refine XS.iloadN X0.here hx rfl (hb hby d7_5) rfl ?_
      show Steps p.tables e below (s₁.setTop (mkF m 6 #[.val (.int p0), .val (.int p1)] [(.int p0)])) _
      refine XS.goto X0.here hx rfl (pc0 := 6) (pc' := 10) rfl (hb hby d7_6) (by decide) (by decide) ?_
      show Steps p.tables e below (s₁.setTop (mkF m 10 #[.val (.int p0), .val (.int p1)] [(.int p0)])) _
      exact retI X0 hx Bd.returns (hb hby d7_10) hr
    · show Q_own_maxI Z p0 p1  h0 n0 _ s₁.heap _
      rw [e0]
      exact ⟨by rw [if_neg hq], N0, rfl⟩
def own_base (p0 : Int32) (q0 q1 q2 q3 : Int64) : Int64 := if p0 = 0 then q0 else if p0 = (1 : Int32) then q1 else if p0 = (2 : Int32) then q2 else q3
theorem d3_0 : decode method_2_code 0 = .ok (.iload_n 0, 1) := by decide +kernel
theorem d3_1 : decode method_2_code 1 = .ok (.ifCond .ne 5, 3) := by decide +kernel
theorem d3_4 : decode method_2_code 4 = .ok (.lload_n 1, 1) := by decide +kernel
theorem d3_5 : decode method_2_code 5 = .ok (.lreturn, 1) := by decide +kernel
theorem d3_6 : decode method_2_code 6 = .ok (.iload_n 0, 1) := by decide +kernel
theorem d3_7 : decode method_2_code 7 = .ok (.iconst 1, 1) := by decide +kernel
theorem d3_8 : decode method_2_code 8 = .ok (.if_icmp .ne 5, 3) := by decide +kernel
theorem d3_11 : decode method_2_code 11 = .ok (.lload_n 3, 1) := by decide +kernel
theorem d3_12 : decode method_2_code 12 = .ok (.lreturn, 1) := by decide +kernel
theorem d3_13 : decode method_2_code 13 = .ok (.iload_n 0, 1) := by decide +kernel
theorem d3_14 : decode method_2_code 14 = .ok (.iconst 2, 1) := by decide +kernel
theorem d3_15 : decode method_2_code 15 = .ok (.if_icmp .ne 6, 3) := by decide +kernel
theorem d3_18 : decode method_2_code 18 = .ok (.lload 5, 2) := by decide +kernel
theorem d3_20 : decode method_2_code 20 = .ok (.lreturn, 1) := by decide +kernel
theorem d3_21 : decode method_2_code 21 = .ok (.lload 7, 2) := by decide +kernel
theorem d3_23 : decode method_2_code 23 = .ok (.lreturn, 1) := by decide +kernel
theorem pn_own_bas : plainName "com/example/xml_element_search/xmlelementsearch/ElementScoresHoldsPinLaw" = true := by first | (simp [plainName, overriddenIn]; done) | decide +kernel
theorem ef_own_bas (m : MethodId) (x0 : Int32) (x1 : Int64) (x2 : Int64) (x3 : Int64) (x4 : Int64) : entryFrame m #[(.int x0), (.long x1), (.long x2), (.long x3), (.long x4)] 9 = mkF m 0 #[.val (.int x0), .val (.long x1), .second, .val (.long x2), .second, .val (.long x3), .second, .val (.long x4), .second] [] := by first | (simp [entryFrame, mkF, argsToLocals, Value.category]; done) | rfl
def Q_own_bas (Z : State) (p0 : Int32) (q0 : Int64) (q1 : Int64) (q2 : Int64) (q3 : Int64)  (h0 : Heap) (n0 : Nat) (v : Option Value) (h : Heap) (L : List Loc) : Prop := v = some (.long (own_base p0 q0 q1 q2 q3)) ∧ Fr n0 L ∧ h = h0
set_option maxRecDepth 65536 in
set_option maxHeartbeats 40000000 in
theorem own_bas (l : Launch) (Z : State) (a0 : Array Value) (hw : ∀ d ∈ tables_1, d.before a0 Z = true) (ws : List Jvm.Cond) (p0 : Int32) (q0 : Int64) (q1 : Int64) (q2 : Int64) (q3 : Int64)  (h0 : Heap) (n0 : Nat) (Z0 : n0 ≤ h0.size)  :
    MetFree l (⟨"com/example/xml_element_search/xmlelementsearch/ElementScoresHoldsPinLaw", "base", "(IJJJJ)J"⟩ : MethodName) (head1 (Jvm.Cond.code (⟨"com/example/xml_element_search/xmlelementsearch/ElementScoresHoldsPinLaw", "base", "(IJJJJ)J"⟩ : MethodName) method_2_code 9 (some .long) :: ws) ({ frames := 0, cells := 0, slots := 0, locals := 0 } : Room)) (fun a U => a = #[(.int p0), (.long q0), (.long q1), (.long q2), (.long q3)] ∧ Z.Warmed39 U.vm ∧ U.heap = h0) (fun _ _ _ _ _ => True) (fun _ U o U' => ∃ v L, o = .returned v ∧ Q_own_bas Z p0 q0 q1 q2 q3  h0 n0 v U'.heap L ∧ FrameEnd U o U' L ({ frames := 0, cells := 0, slots := 0, locals := 0 } : Room).cells ({ frames := 0, cells := 0, slots := 0, locals := 0 } : Room).slots) := by
  refine MetFree.of_bodySF (plainFor_of_name pn_own_bas) hisR ?_
  intro p e s m args below meth c s₁ Bd hml0 hP hK
  obtain ⟨rfl, hZ, hh⟩ := hP
  have hx := Bd.exec
  have hby := Bd.bytes
  have hml : c.maxLocals = 9 := hml0
  have hown : s.vm.findClass "com/example/xml_element_search/xmlelementsearch/ElementScoresHoldsPinLaw" = some m.cls := findClass_of_methodNamed Bd.named
  have hnm := (name_of_methodNamed Bd.named Bd.method).1
  have X0 : Stand p l e ({ frames := 0, cells := 0, slots := 0, locals := 0 } : Room) s m #[(.int p0), (.long q0), (.long q1), (.long q2), (.long q3)] below meth c s₁ [] 0 0 := Stand.of_body Bd
  have e0 : s₁.heap = h0 := by rw [← hh, Bd.state]; rfl
  have N0 := Fr.nil n0
  have pre0 : ∀ t, Steps p.tables e below (s₁.setTop (mkF m 0 #[.val (.int p0), .val (.long q0), .second, .val (.long q1), .second, .val (.long q2), .second, .val (.long q3), .second] [])) t → Steps p.tables e below (s₁.setTop (entryFrame m #[(.int p0), (.long q0), (.long q1), (.long q2), (.long q3)] 9)) t := fun t k => castTop (ef_own_bas m (p0) (q0) (q1) (q2) (q3)) k
  by_cases hp1 : p0 = 0
  · obtain ⟨fs, hr, hrun, hended, hW, hsame⟩ := X0.leave (v := some (.long q0)) (fun h => by rw [Bd.returns] at h; cases h)
    refine ⟨_, _, pre0 _ ?_, hrun, hended, _, _, rfl, ?_, ⟨_, rfl⟩, hW, hsame.mono (by decide) (by decide)⟩
    · show Steps p.tables e below (s₁.setTop (mkF m 0 #[.val (.int p0), .val (.long q0), .second, .val (.long q1), .second, .val (.long q2), .second, .val (.long q3), .second] [])) _
      refine XS.iloadN X0.here hx rfl (hb hby d3_0) rfl ?_
      show Steps p.tables e below (s₁.setTop (mkF m 1 #[.val (.int p0), .val (.long q0), .second, .val (.long q1), .second, .val (.long q2), .second, .val (.long q3), .second] [(.int p0)])) _
      refine XS.ifNo X0.here hx rfl (hb hby d3_1) rfl (XT.i0_ne_f hp1) ?_
      show Steps p.tables e below (s₁.setTop (mkF m 4 #[.val (.int p0), .val (.long q0), .second, .val (.long q1), .second, .val (.long q2), .second, .val (.long q3), .second] [])) _
      refine XT.lloadN X0.here hx rfl (hb hby d3_4) rfl ?_
      show Steps p.tables e below (s₁.setTop (mkF m 5 #[.val (.int p0), .val (.long q0), .second, .val (.long q1), .second, .val (.long q2), .second, .val (.long q3), .second] [(.long q0)])) _
      exact retOut X0 hx (t := .long) Bd.returns rfl (Or.inr (Or.inl ⟨rfl, rfl, _, rfl⟩)) (hb hby d3_5) hr
    · show Q_own_bas Z p0 q0 q1 q2 q3  h0 n0 _ s₁.heap _
      rw [e0]
      exact ⟨by unfold own_base; rw [if_pos hp1], N0, rfl⟩
  · by_cases hp2 : p0 = (1 : Int32)
    · obtain ⟨fs, hr, hrun, hended, hW, hsame⟩ := X0.leave (v := some (.long q1)) (fun h => by rw [Bd.returns] at h; cases h)
      refine ⟨_, _, pre0 _ ?_, hrun, hended, _, _, rfl, ?_, ⟨_, rfl⟩, hW, hsame.mono (by decide) (by decide)⟩
      · show Steps p.tables e below (s₁.setTop (mkF m 0 #[.val (.int p0), .val (.long q0), .second, .val (.long q1), .second, .val (.long q2), .second, .val (.long q3), .second] [])) _
        refine XS.iloadN X0.here hx rfl (hb hby d3_0) rfl ?_
        show Steps p.tables e below (s₁.setTop (mkF m 1 #[.val (.int p0), .val (.long q0), .second, .val (.long q1), .second, .val (.long q2), .second, .val (.long q3), .second] [(.int p0)])) _
        refine XS.ifYes X0.here hx rfl (pc0 := 1) (pc' := 6) rfl (hb hby d3_1) rfl (XT.i0_ne_t hp1) (by decide) (by decide) ?_
        show Steps p.tables e below (s₁.setTop (mkF m 6 #[.val (.int p0), .val (.long q0), .second, .val (.long q1), .second, .val (.long q2), .second, .val (.long q3), .second] [])) _
        refine XS.iloadN X0.here hx rfl (hb hby d3_6) rfl ?_
        show Steps p.tables e below (s₁.setTop (mkF m 7 #[.val (.int p0), .val (.long q0), .second, .val (.long q1), .second, .val (.long q2), .second, .val (.long q3), .second] [(.int p0)])) _
        refine XS.iconst X0.here hx rfl (hb hby d3_7) ?_
        show Steps p.tables e below (s₁.setTop (mkF m 8 #[.val (.int p0), .val (.long q0), .second, .val (.long q1), .second, .val (.long q2), .second, .val (.long q3), .second] [(.int (1 : Int32)), (.int p0)])) _
        refine XS.icmpNo X0.here hx rfl (hb hby d3_8) rfl (XT.ii_ne_f hp2) ?_
        show Steps p.tables e below (s₁.setTop (mkF m 11 #[.val (.int p0), .val (.long q0), .second, .val (.long q1), .second, .val (.long q2), .second, .val (.long q3), .second] [])) _
        refine XT.lloadN X0.here hx rfl (hb hby d3_11) rfl ?_
        show Steps p.tables e below (s₁.setTop (mkF m 12 #[.val (.int p0), .val (.long q0), .second, .val (.long q1), .second, .val (.long q2), .second, .val (.long q3), .second] [(.long q1)])) _
        exact retOut X0 hx (t := .long) Bd.returns rfl (Or.inr (Or.inl ⟨rfl, rfl, _, rfl⟩)) (hb hby d3_12) hr
      · show Q_own_bas Z p0 q0 q1 q2 q3  h0 n0 _ s₁.heap _
        rw [e0]
        exact ⟨by unfold own_base; rw [if_neg hp1, if_pos hp2], N0, rfl⟩
    · by_cases hp3 : p0 = (2 : Int32)
      · obtain ⟨fs, hr, hrun, hended, hW, hsame⟩ := X0.leave (v := some (.long q2)) (fun h => by rw [Bd.returns] at h; cases h)
        refine ⟨_, _, pre0 _ ?_, hrun, hended, _, _, rfl, ?_, ⟨_, rfl⟩, hW, hsame.mono (by decide) (by decide)⟩
        · show Steps p.tables e below (s₁.setTop (mkF m 0 #[.val (.int p0), .val (.long q0), .second, .val (.long q1), .second, .val (.long q2), .second, .val (.long q3), .second] [])) _
          refine XS.iloadN X0.here hx rfl (hb hby d3_0) rfl ?_
          show Steps p.tables e below (s₁.setTop (mkF m 1 #[.val (.int p0), .val (.long q0), .second, .val (.long q1), .second, .val (.long q2), .second, .val (.long q3), .second] [(.int p0)])) _
          refine XS.ifYes X0.here hx rfl (pc0 := 1) (pc' := 6) rfl (hb hby d3_1) rfl (XT.i0_ne_t hp1) (by decide) (by decide) ?_
          show Steps p.tables e below (s₁.setTop (mkF m 6 #[.val (.int p0), .val (.long q0), .second, .val (.long q1), .second, .val (.long q2), .second, .val (.long q3), .second] [])) _
          refine XS.iloadN X0.here hx rfl (hb hby d3_6) rfl ?_
          show Steps p.tables e below (s₁.setTop (mkF m 7 #[.val (.int p0), .val (.long q0), .second, .val (.long q1), .second, .val (.long q2), .second, .val (.long q3), .second] [(.int p0)])) _
          refine XS.iconst X0.here hx rfl (hb hby d3_7) ?_
          show Steps p.tables e below (s₁.setTop (mkF m 8 #[.val (.int p0), .val (.long q0), .second, .val (.long q1), .second, .val (.long q2), .second, .val (.long q3), .second] [(.int (1 : Int32)), (.int p0)])) _
          refine XS.icmpYes X0.here hx rfl (pc0 := 8) (pc' := 13) rfl (hb hby d3_8) rfl (XT.ii_ne_t hp2) (by decide) (by decide) ?_
          show Steps p.tables e below (s₁.setTop (mkF m 13 #[.val (.int p0), .val (.long q0), .second, .val (.long q1), .second, .val (.long q2), .second, .val (.long q3), .second] [])) _
          refine XS.iloadN X0.here hx rfl (hb hby d3_13) rfl ?_
          show Steps p.tables e below (s₁.setTop (mkF m 14 #[.val (.int p0), .val (.long q0), .second, .val (.long q1), .second, .val (.long q2), .second, .val (.long q3), .second] [(.int p0)])) _
          refine XS.iconst X0.here hx rfl (hb hby d3_14) ?_
          show Steps p.tables e below (s₁.setTop (mkF m 15 #[.val (.int p0), .val (.long q0), .second, .val (.long q1), .second, .val (.long q2), .second, .val (.long q3), .second] [(.int (2 : Int32)), (.int p0)])) _
          refine XS.icmpNo X0.here hx rfl (hb hby d3_15) rfl (XT.ii_ne_f hp3) ?_
          show Steps p.tables e below (s₁.setTop (mkF m 18 #[.val (.int p0), .val (.long q0), .second, .val (.long q1), .second, .val (.long q2), .second, .val (.long q3), .second] [])) _
          refine XT.lload X0.here hx rfl (hb hby d3_18) rfl ?_
          show Steps p.tables e below (s₁.setTop (mkF m 20 #[.val (.int p0), .val (.long q0), .second, .val (.long q1), .second, .val (.long q2), .second, .val (.long q3), .second] [(.long q2)])) _
          exact retOut X0 hx (t := .long) Bd.returns rfl (Or.inr (Or.inl ⟨rfl, rfl, _, rfl⟩)) (hb hby d3_20) hr
        · show Q_own_bas Z p0 q0 q1 q2 q3  h0 n0 _ s₁.heap _
          rw [e0]
          exact ⟨by unfold own_base; rw [if_neg hp1, if_neg hp2, if_pos hp3], N0, rfl⟩
      · obtain ⟨fs, hr, hrun, hended, hW, hsame⟩ := X0.leave (v := some (.long q3)) (fun h => by rw [Bd.returns] at h; cases h)
        refine ⟨_, _, pre0 _ ?_, hrun, hended, _, _, rfl, ?_, ⟨_, rfl⟩, hW, hsame.mono (by decide) (by decide)⟩
        · show Steps p.tables e below (s₁.setTop (mkF m 0 #[.val (.int p0), .val (.long q0), .second, .val (.long q1), .second, .val (.long q2), .second, .val (.long q3), .second] [])) _
          refine XS.iloadN X0.here hx rfl (hb hby d3_0) rfl ?_
          show Steps p.tables e below (s₁.setTop (mkF m 1 #[.val (.int p0), .val (.long q0), .second, .val (.long q1), .second, .val (.long q2), .second, .val (.long q3), .second] [(.int p0)])) _
          refine XS.ifYes X0.here hx rfl (pc0 := 1) (pc' := 6) rfl (hb hby d3_1) rfl (XT.i0_ne_t hp1) (by decide) (by decide) ?_
          show Steps p.tables e below (s₁.setTop (mkF m 6 #[.val (.int p0), .val (.long q0), .second, .val (.long q1), .second, .val (.long q2), .second, .val (.long q3), .second] [])) _
          refine XS.iloadN X0.here hx rfl (hb hby d3_6) rfl ?_
          show Steps p.tables e below (s₁.setTop (mkF m 7 #[.val (.int p0), .val (.long q0), .second, .val (.long q1), .second, .val (.long q2), .second, .val (.long q3), .second] [(.int p0)])) _
          refine XS.iconst X0.here hx rfl (hb hby d3_7) ?_
          show Steps p.tables e below (s₁.setTop (mkF m 8 #[.val (.int p0), .val (.long q0), .second, .val (.long q1), .second, .val (.long q2), .second, .val (.long q3), .second] [(.int (1 : Int32)), (.int p0)])) _
          refine XS.icmpYes X0.here hx rfl (pc0 := 8) (pc' := 13) rfl (hb hby d3_8) rfl (XT.ii_ne_t hp2) (by decide) (by decide) ?_
          show Steps p.tables e below (s₁.setTop (mkF m 13 #[.val (.int p0), .val (.long q0), .second, .val (.long q1), .second, .val (.long q2), .second, .val (.long q3), .second] [])) _
          refine XS.iloadN X0.here hx rfl (hb hby d3_13) rfl ?_
          show Steps p.tables e below (s₁.setTop (mkF m 14 #[.val (.int p0), .val (.long q0), .second, .val (.long q1), .second, .val (.long q2), .second, .val (.long q3), .second] [(.int p0)])) _
          refine XS.iconst X0.here hx rfl (hb hby d3_14) ?_
          show Steps p.tables e below (s₁.setTop (mkF m 15 #[.val (.int p0), .val (.long q0), .second, .val (.long q1), .second, .val (.long q2), .second, .val (.long q3), .second] [(.int (2 : Int32)), (.int p0)])) _
          refine XS.icmpYes X0.here hx rfl (pc0 := 15) (pc' := 21) rfl (hb hby d3_15) rfl (XT.ii_ne_t hp3) (by decide) (by decide) ?_
          show Steps p.tables e below (s₁.setTop (mkF m 21 #[.val (.int p0), .val (.long q0), .second, .val (.long q1), .second, .val (.long q2), .second, .val (.long q3), .second] [])) _
          refine XT.lload X0.here hx rfl (hb hby d3_21) rfl ?_
          show Steps p.tables e below (s₁.setTop (mkF m 23 #[.val (.int p0), .val (.long q0), .second, .val (.long q1), .second, .val (.long q2), .second, .val (.long q3), .second] [(.long q3)])) _
          exact retOut X0 hx (t := .long) Bd.returns rfl (Or.inr (Or.inl ⟨rfl, rfl, _, rfl⟩)) (hb hby d3_23) hr
        · show Q_own_bas Z p0 q0 q1 q2 q3  h0 n0 _ s₁.heap _
          rw [e0]
          exact ⟨by unfold own_base; rw [if_neg hp1, if_neg hp2, if_neg hp3], N0, rfl⟩
def own_idx (q : Int64) (n : Int32) (a b d : Int64) : Int32 := if (0 < n ∧ q = a) then 0 else if ((1 : Int32) < n ∧ q = b) then 1 else if ((2 : Int32) < n ∧ q = d) then 2 else -1
theorem d12_0 : decode method_3_code 0 = .ok (.iload_n 2, 1) := by decide +kernel
theorem d12_1 : decode method_3_code 1 = .ok (.ifCond .le 11, 3) := by decide +kernel
theorem d12_4 : decode method_3_code 4 = .ok (.lload_n 0, 1) := by decide +kernel
theorem d12_5 : decode method_3_code 5 = .ok (.lload_n 3, 1) := by decide +kernel
theorem d12_6 : decode method_3_code 6 = .ok (.lcmp, 1) := by decide +kernel
theorem d12_7 : decode method_3_code 7 = .ok (.ifCond .ne 5, 3) := by decide +kernel
theorem d12_10 : decode method_3_code 10 = .ok (.iconst 0, 1) := by decide +kernel
theorem d12_11 : decode method_3_code 11 = .ok (.ireturn, 1) := by decide +kernel
theorem d12_12 : decode method_3_code 12 = .ok (.iload_n 2, 1) := by decide +kernel
theorem d12_13 : decode method_3_code 13 = .ok (.iconst 1, 1) := by decide +kernel
theorem d12_14 : decode method_3_code 14 = .ok (.if_icmp .le 12, 3) := by decide +kernel
theorem d12_17 : decode method_3_code 17 = .ok (.lload_n 0, 1) := by decide +kernel
theorem d12_18 : decode method_3_code 18 = .ok (.lload 5, 2) := by decide +kernel
theorem d12_20 : decode method_3_code 20 = .ok (.lcmp, 1) := by decide +kernel
theorem d12_21 : decode method_3_code 21 = .ok (.ifCond .ne 5, 3) := by decide +kernel
theorem d12_24 : decode method_3_code 24 = .ok (.iconst 1, 1) := by decide +kernel
theorem d12_25 : decode method_3_code 25 = .ok (.ireturn, 1) := by decide +kernel
theorem d12_26 : decode method_3_code 26 = .ok (.iload_n 2, 1) := by decide +kernel
theorem d12_27 : decode method_3_code 27 = .ok (.iconst 2, 1) := by decide +kernel
theorem d12_28 : decode method_3_code 28 = .ok (.if_icmp .le 12, 3) := by decide +kernel
theorem d12_31 : decode method_3_code 31 = .ok (.lload_n 0, 1) := by decide +kernel
theorem d12_32 : decode method_3_code 32 = .ok (.lload 7, 2) := by decide +kernel
theorem d12_34 : decode method_3_code 34 = .ok (.lcmp, 1) := by decide +kernel
theorem d12_35 : decode method_3_code 35 = .ok (.ifCond .ne 5, 3) := by decide +kernel
theorem d12_38 : decode method_3_code 38 = .ok (.iconst 2, 1) := by decide +kernel
theorem d12_39 : decode method_3_code 39 = .ok (.ireturn, 1) := by decide +kernel
theorem d12_40 : decode method_3_code 40 = .ok (.iconst (-1), 1) := by decide +kernel
theorem d12_41 : decode method_3_code 41 = .ok (.ireturn, 1) := by decide +kernel
theorem pn_own_ixm : plainName "com/example/xml_element_search/xmlelementsearch/ElementScoresHoldsPinLaw" = true := by first | (simp [plainName, overriddenIn]; done) | decide +kernel
theorem ef_own_ixm (m : MethodId) (x0 : Int64) (x1 : Int32) (x2 : Int64) (x3 : Int64) (x4 : Int64) : entryFrame m #[(.long x0), (.int x1), (.long x2), (.long x3), (.long x4)] 9 = mkF m 0 #[.val (.long x0), .second, .val (.int x1), .val (.long x2), .second, .val (.long x3), .second, .val (.long x4), .second] [] := by first | (simp [entryFrame, mkF, argsToLocals, Value.category]; done) | rfl
def Q_own_ixm (Z : State) (vq : Int64) (vn : Int32) (va : Int64) (vb : Int64) (vd : Int64)  (h0 : Heap) (n0 : Nat) (v : Option Value) (h : Heap) (L : List Loc) : Prop := v = some (.int (own_idx vq vn va vb vd)) ∧ Fr n0 L ∧ h = h0
set_option maxRecDepth 65536 in
set_option maxHeartbeats 40000000 in
theorem own_ixm (l : Launch) (Z : State) (a0 : Array Value) (hw : ∀ d ∈ tables_1, d.before a0 Z = true) (ws : List Jvm.Cond) (vq : Int64) (vn : Int32) (va : Int64) (vb : Int64) (vd : Int64)  (h0 : Heap) (n0 : Nat) (Z0 : n0 ≤ h0.size)  :
    MetFree l (⟨"com/example/xml_element_search/xmlelementsearch/ElementScoresHoldsPinLaw", "idx", "(JIJJJ)I"⟩ : MethodName) (head1 (Jvm.Cond.code (⟨"com/example/xml_element_search/xmlelementsearch/ElementScoresHoldsPinLaw", "idx", "(JIJJJ)I"⟩ : MethodName) method_3_code 9 (some .int) :: ws) ({ frames := 0, cells := 0, slots := 0, locals := 0 } : Room)) (fun a U => a = #[(.long vq), (.int vn), (.long va), (.long vb), (.long vd)] ∧ Z.Warmed39 U.vm ∧ U.heap = h0) (fun _ _ _ _ _ => True) (fun _ U o U' => ∃ v L, o = .returned v ∧ Q_own_ixm Z vq vn va vb vd  h0 n0 v U'.heap L ∧ FrameEnd U o U' L ({ frames := 0, cells := 0, slots := 0, locals := 0 } : Room).cells ({ frames := 0, cells := 0, slots := 0, locals := 0 } : Room).slots) := by
  refine MetFree.of_bodySF (plainFor_of_name pn_own_ixm) hisR ?_
  intro p e s m args below meth c s₁ Bd hml0 hP hK
  obtain ⟨rfl, hZ, hh⟩ := hP
  have hx := Bd.exec
  have hby := Bd.bytes
  have hml : c.maxLocals = 9 := hml0
  have hown : s.vm.findClass "com/example/xml_element_search/xmlelementsearch/ElementScoresHoldsPinLaw" = some m.cls := findClass_of_methodNamed Bd.named
  have hnm := (name_of_methodNamed Bd.named Bd.method).1
  have X0 : Stand p l e ({ frames := 0, cells := 0, slots := 0, locals := 0 } : Room) s m #[(.long vq), (.int vn), (.long va), (.long vb), (.long vd)] below meth c s₁ [] 0 0 := Stand.of_body Bd
  have e0 : s₁.heap = h0 := by rw [← hh, Bd.state]; rfl
  have N0 := Fr.nil n0
  have pre0 : ∀ t, Steps p.tables e below (s₁.setTop (mkF m 0 #[.val (.long vq), .second, .val (.int vn), .val (.long va), .second, .val (.long vb), .second, .val (.long vd), .second] [])) t → Steps p.tables e below (s₁.setTop (entryFrame m #[(.long vq), (.int vn), (.long va), (.long vb), (.long vd)] 9)) t := fun t k => castTop (ef_own_ixm m (vq) (vn) (va) (vb) (vd)) k
  by_cases hn0 : 0 < vn
  · by_cases hea : vq = va
    · obtain ⟨fs, hr, hrun, hended, hW, hsame⟩ := X0.leave (v := some (.int (0 : Int32))) (fun h => by rw [Bd.returns] at h; cases h)
      refine ⟨_, _, pre0 _ ?_, hrun, hended, _, _, rfl, ?_, ⟨_, rfl⟩, hW, hsame.mono (by decide) (by decide)⟩
      · show Steps p.tables e below (s₁.setTop (mkF m 0 #[.val (.long vq), .second, .val (.int vn), .val (.long va), .second, .val (.long vb), .second, .val (.long vd), .second] [])) _
        refine XS.iloadN X0.here hx rfl (hb hby d12_0) rfl ?_
        show Steps p.tables e below (s₁.setTop (mkF m 1 #[.val (.long vq), .second, .val (.int vn), .val (.long va), .second, .val (.long vb), .second, .val (.long vd), .second] [(.int vn)])) _
        refine XS.ifNo X0.here hx rfl (hb hby d12_1) rfl (XT.i0_le_f hn0) ?_
        show Steps p.tables e below (s₁.setTop (mkF m 4 #[.val (.long vq), .second, .val (.int vn), .val (.long va), .second, .val (.long vb), .second, .val (.long vd), .second] [])) _
        refine XT.lloadN X0.here hx rfl (hb hby d12_4) rfl ?_
        show Steps p.tables e below (s₁.setTop (mkF m 5 #[.val (.long vq), .second, .val (.int vn), .val (.long va), .second, .val (.long vb), .second, .val (.long vd), .second] [(.long vq)])) _
        refine XT.lloadN X0.here hx rfl (hb hby d12_5) rfl ?_
        show Steps p.tables e below (s₁.setTop (mkF m 6 #[.val (.long vq), .second, .val (.int vn), .val (.long va), .second, .val (.long vb), .second, .val (.long vd), .second] [(.long va), (.long vq)])) _
        refine XT.lcmp X0.here hx rfl (hb hby d12_6) rfl ?_
        show Steps p.tables e below (s₁.setTop (mkF m 7 #[.val (.long vq), .second, .val (.int vn), .val (.long va), .second, .val (.long vb), .second, .val (.long vd), .second] [(.int (XT.cmpL vq va))])) _
        refine XS.ifNo X0.here hx rfl (hb hby d12_7) rfl (XT.ll_ne_f hea) ?_
        show Steps p.tables e below (s₁.setTop (mkF m 10 #[.val (.long vq), .second, .val (.int vn), .val (.long va), .second, .val (.long vb), .second, .val (.long vd), .second] [])) _
        refine XS.iconst X0.here hx rfl (hb hby d12_10) ?_
        show Steps p.tables e below (s₁.setTop (mkF m 11 #[.val (.long vq), .second, .val (.int vn), .val (.long va), .second, .val (.long vb), .second, .val (.long vd), .second] [(.int (0 : Int32))])) _
        exact retI X0 hx Bd.returns (hb hby d12_11) hr
      · show Q_own_ixm Z vq vn va vb vd  h0 n0 _ s₁.heap _
        rw [e0]
        exact ⟨by unfold own_idx; rw [if_pos ⟨hn0, hea⟩], N0, rfl⟩
    · by_cases hn1 : (1 : Int32) < vn
      · by_cases heb : vq = vb
        · obtain ⟨fs, hr, hrun, hended, hW, hsame⟩ := X0.leave (v := some (.int (1 : Int32))) (fun h => by rw [Bd.returns] at h; cases h)
          refine ⟨_, _, pre0 _ ?_, hrun, hended, _, _, rfl, ?_, ⟨_, rfl⟩, hW, hsame.mono (by decide) (by decide)⟩
          · show Steps p.tables e below (s₁.setTop (mkF m 0 #[.val (.long vq), .second, .val (.int vn), .val (.long va), .second, .val (.long vb), .second, .val (.long vd), .second] [])) _
            refine XS.iloadN X0.here hx rfl (hb hby d12_0) rfl ?_
            show Steps p.tables e below (s₁.setTop (mkF m 1 #[.val (.long vq), .second, .val (.int vn), .val (.long va), .second, .val (.long vb), .second, .val (.long vd), .second] [(.int vn)])) _
            refine XS.ifNo X0.here hx rfl (hb hby d12_1) rfl (XT.i0_le_f hn0) ?_
            show Steps p.tables e below (s₁.setTop (mkF m 4 #[.val (.long vq), .second, .val (.int vn), .val (.long va), .second, .val (.long vb), .second, .val (.long vd), .second] [])) _
            refine XT.lloadN X0.here hx rfl (hb hby d12_4) rfl ?_
            show Steps p.tables e below (s₁.setTop (mkF m 5 #[.val (.long vq), .second, .val (.int vn), .val (.long va), .second, .val (.long vb), .second, .val (.long vd), .second] [(.long vq)])) _
            refine XT.lloadN X0.here hx rfl (hb hby d12_5) rfl ?_
            show Steps p.tables e below (s₁.setTop (mkF m 6 #[.val (.long vq), .second, .val (.int vn), .val (.long va), .second, .val (.long vb), .second, .val (.long vd), .second] [(.long va), (.long vq)])) _
            refine XT.lcmp X0.here hx rfl (hb hby d12_6) rfl ?_
            show Steps p.tables e below (s₁.setTop (mkF m 7 #[.val (.long vq), .second, .val (.int vn), .val (.long va), .second, .val (.long vb), .second, .val (.long vd), .second] [(.int (XT.cmpL vq va))])) _
            refine XS.ifYes X0.here hx rfl (pc0 := 7) (pc' := 12) rfl (hb hby d12_7) rfl (XT.ll_ne_t hea) (by decide) (by decide) ?_
            show Steps p.tables e below (s₁.setTop (mkF m 12 #[.val (.long vq), .second, .val (.int vn), .val (.long va), .second, .val (.long vb), .second, .val (.long vd), .second] [])) _
            refine XS.iloadN X0.here hx rfl (hb hby d12_12) rfl ?_
            show Steps p.tables e below (s₁.setTop (mkF m 13 #[.val (.long vq), .second, .val (.int vn), .val (.long va), .second, .val (.long vb), .second, .val (.long vd), .second] [(.int vn)])) _
            refine XS.iconst X0.here hx rfl (hb hby d12_13) ?_
            show Steps p.tables e below (s₁.setTop (mkF m 14 #[.val (.long vq), .second, .val (.int vn), .val (.long va), .second, .val (.long vb), .second, .val (.long vd), .second] [(.int (1 : Int32)), (.int vn)])) _
            refine XS.icmpNo X0.here hx rfl (hb hby d12_14) rfl (XT.ii_le_f hn1) ?_
            show Steps p.tables e below (s₁.setTop (mkF m 17 #[.val (.long vq), .second, .val (.int vn), .val (.long va), .second, .val (.long vb), .second, .val (.long vd), .second] [])) _
            refine XT.lloadN X0.here hx rfl (hb hby d12_17) rfl ?_
            show Steps p.tables e below (s₁.setTop (mkF m 18 #[.val (.long vq), .second, .val (.int vn), .val (.long va), .second, .val (.long vb), .second, .val (.long vd), .second] [(.long vq)])) _
            refine XT.lload X0.here hx rfl (hb hby d12_18) rfl ?_
            show Steps p.tables e below (s₁.setTop (mkF m 20 #[.val (.long vq), .second, .val (.int vn), .val (.long va), .second, .val (.long vb), .second, .val (.long vd), .second] [(.long vb), (.long vq)])) _
            refine XT.lcmp X0.here hx rfl (hb hby d12_20) rfl ?_
            show Steps p.tables e below (s₁.setTop (mkF m 21 #[.val (.long vq), .second, .val (.int vn), .val (.long va), .second, .val (.long vb), .second, .val (.long vd), .second] [(.int (XT.cmpL vq vb))])) _
            refine XS.ifNo X0.here hx rfl (hb hby d12_21) rfl (XT.ll_ne_f heb) ?_
            show Steps p.tables e below (s₁.setTop (mkF m 24 #[.val (.long vq), .second, .val (.int vn), .val (.long va), .second, .val (.long vb), .second, .val (.long vd), .second] [])) _
            refine XS.iconst X0.here hx rfl (hb hby d12_24) ?_
            show Steps p.tables e below (s₁.setTop (mkF m 25 #[.val (.long vq), .second, .val (.int vn), .val (.long va), .second, .val (.long vb), .second, .val (.long vd), .second] [(.int (1 : Int32))])) _
            exact retI X0 hx Bd.returns (hb hby d12_25) hr
          · show Q_own_ixm Z vq vn va vb vd  h0 n0 _ s₁.heap _
            rw [e0]
            exact ⟨by unfold own_idx; rw [if_neg (fun z => hea z.2), if_pos ⟨hn1, heb⟩], N0, rfl⟩
        · by_cases hn2 : (2 : Int32) < vn
          · by_cases hed : vq = vd
            · obtain ⟨fs, hr, hrun, hended, hW, hsame⟩ := X0.leave (v := some (.int (2 : Int32))) (fun h => by rw [Bd.returns] at h; cases h)
              refine ⟨_, _, pre0 _ ?_, hrun, hended, _, _, rfl, ?_, ⟨_, rfl⟩, hW, hsame.mono (by decide) (by decide)⟩
              · show Steps p.tables e below (s₁.setTop (mkF m 0 #[.val (.long vq), .second, .val (.int vn), .val (.long va), .second, .val (.long vb), .second, .val (.long vd), .second] [])) _
                refine XS.iloadN X0.here hx rfl (hb hby d12_0) rfl ?_
                show Steps p.tables e below (s₁.setTop (mkF m 1 #[.val (.long vq), .second, .val (.int vn), .val (.long va), .second, .val (.long vb), .second, .val (.long vd), .second] [(.int vn)])) _
                refine XS.ifNo X0.here hx rfl (hb hby d12_1) rfl (XT.i0_le_f hn0) ?_
                show Steps p.tables e below (s₁.setTop (mkF m 4 #[.val (.long vq), .second, .val (.int vn), .val (.long va), .second, .val (.long vb), .second, .val (.long vd), .second] [])) _
                refine XT.lloadN X0.here hx rfl (hb hby d12_4) rfl ?_
                show Steps p.tables e below (s₁.setTop (mkF m 5 #[.val (.long vq), .second, .val (.int vn), .val (.long va), .second, .val (.long vb), .second, .val (.long vd), .second] [(.long vq)])) _
                refine XT.lloadN X0.here hx rfl (hb hby d12_5) rfl ?_
                show Steps p.tables e below (s₁.setTop (mkF m 6 #[.val (.long vq), .second, .val (.int vn), .val (.long va), .second, .val (.long vb), .second, .val (.long vd), .second] [(.long va), (.long vq)])) _
                refine XT.lcmp X0.here hx rfl (hb hby d12_6) rfl ?_
                show Steps p.tables e below (s₁.setTop (mkF m 7 #[.val (.long vq), .second, .val (.int vn), .val (.long va), .second, .val (.long vb), .second, .val (.long vd), .second] [(.int (XT.cmpL vq va))])) _
                refine XS.ifYes X0.here hx rfl (pc0 := 7) (pc' := 12) rfl (hb hby d12_7) rfl (XT.ll_ne_t hea) (by decide) (by decide) ?_
                show Steps p.tables e below (s₁.setTop (mkF m 12 #[.val (.long vq), .second, .val (.int vn), .val (.long va), .second, .val (.long vb), .second, .val (.long vd), .second] [])) _
                refine XS.iloadN X0.here hx rfl (hb hby d12_12) rfl ?_
                show Steps p.tables e below (s₁.setTop (mkF m 13 #[.val (.long vq), .second, .val (.int vn), .val (.long va), .second, .val (.long vb), .second, .val (.long vd), .second] [(.int vn)])) _
                refine XS.iconst X0.here hx rfl (hb hby d12_13) ?_
                show Steps p.tables e below (s₁.setTop (mkF m 14 #[.val (.long vq), .second, .val (.int vn), .val (.long va), .second, .val (.long vb), .second, .val (.long vd), .second] [(.int (1 : Int32)), (.int vn)])) _
                refine XS.icmpNo X0.here hx rfl (hb hby d12_14) rfl (XT.ii_le_f hn1) ?_
                show Steps p.tables e below (s₁.setTop (mkF m 17 #[.val (.long vq), .second, .val (.int vn), .val (.long va), .second, .val (.long vb), .second, .val (.long vd), .second] [])) _
                refine XT.lloadN X0.here hx rfl (hb hby d12_17) rfl ?_
                show Steps p.tables e below (s₁.setTop (mkF m 18 #[.val (.long vq), .second, .val (.int vn), .val (.long va), .second, .val (.long vb), .second, .val (.long vd), .second] [(.long vq)])) _
                refine XT.lload X0.here hx rfl (hb hby d12_18) rfl ?_
                show Steps p.tables e below (s₁.setTop (mkF m 20 #[.val (.long vq), .second, .val (.int vn), .val (.long va), .second, .val (.long vb), .second, .val (.long vd), .second] [(.long vb), (.long vq)])) _
                refine XT.lcmp X0.here hx rfl (hb hby d12_20) rfl ?_
                show Steps p.tables e below (s₁.setTop (mkF m 21 #[.val (.long vq), .second, .val (.int vn), .val (.long va), .second, .val (.long vb), .second, .val (.long vd), .second] [(.int (XT.cmpL vq vb))])) _
                refine XS.ifYes X0.here hx rfl (pc0 := 21) (pc' := 26) rfl (hb hby d12_21) rfl (XT.ll_ne_t heb) (by decide) (by decide) ?_
                show Steps p.tables e below (s₁.setTop (mkF m 26 #[.val (.long vq), .second, .val (.int vn), .val (.long va), .second, .val (.long vb), .second, .val (.long vd), .second] [])) _
                refine XS.iloadN X0.here hx rfl (hb hby d12_26) rfl ?_
                show Steps p.tables e below (s₁.setTop (mkF m 27 #[.val (.long vq), .second, .val (.int vn), .val (.long va), .second, .val (.long vb), .second, .val (.long vd), .second] [(.int vn)])) _
                refine XS.iconst X0.here hx rfl (hb hby d12_27) ?_
                show Steps p.tables e below (s₁.setTop (mkF m 28 #[.val (.long vq), .second, .val (.int vn), .val (.long va), .second, .val (.long vb), .second, .val (.long vd), .second] [(.int (2 : Int32)), (.int vn)])) _
                refine XS.icmpNo X0.here hx rfl (hb hby d12_28) rfl (XT.ii_le_f hn2) ?_
                show Steps p.tables e below (s₁.setTop (mkF m 31 #[.val (.long vq), .second, .val (.int vn), .val (.long va), .second, .val (.long vb), .second, .val (.long vd), .second] [])) _
                refine XT.lloadN X0.here hx rfl (hb hby d12_31) rfl ?_
                show Steps p.tables e below (s₁.setTop (mkF m 32 #[.val (.long vq), .second, .val (.int vn), .val (.long va), .second, .val (.long vb), .second, .val (.long vd), .second] [(.long vq)])) _
                refine XT.lload X0.here hx rfl (hb hby d12_32) rfl ?_
                show Steps p.tables e below (s₁.setTop (mkF m 34 #[.val (.long vq), .second, .val (.int vn), .val (.long va), .second, .val (.long vb), .second, .val (.long vd), .second] [(.long vd), (.long vq)])) _
                refine XT.lcmp X0.here hx rfl (hb hby d12_34) rfl ?_
                show Steps p.tables e below (s₁.setTop (mkF m 35 #[.val (.long vq), .second, .val (.int vn), .val (.long va), .second, .val (.long vb), .second, .val (.long vd), .second] [(.int (XT.cmpL vq vd))])) _
                refine XS.ifNo X0.here hx rfl (hb hby d12_35) rfl (XT.ll_ne_f hed) ?_
                show Steps p.tables e below (s₁.setTop (mkF m 38 #[.val (.long vq), .second, .val (.int vn), .val (.long va), .second, .val (.long vb), .second, .val (.long vd), .second] [])) _
                refine XS.iconst X0.here hx rfl (hb hby d12_38) ?_
                show Steps p.tables e below (s₁.setTop (mkF m 39 #[.val (.long vq), .second, .val (.int vn), .val (.long va), .second, .val (.long vb), .second, .val (.long vd), .second] [(.int (2 : Int32))])) _
                exact retI X0 hx Bd.returns (hb hby d12_39) hr
              · show Q_own_ixm Z vq vn va vb vd  h0 n0 _ s₁.heap _
                rw [e0]
                exact ⟨by unfold own_idx; rw [if_neg (fun z => hea z.2), if_neg (fun z => heb z.2), if_pos ⟨hn2, hed⟩], N0, rfl⟩
            · obtain ⟨fs, hr, hrun, hended, hW, hsame⟩ := X0.leave (v := some (.int (-1 : Int32))) (fun h => by rw [Bd.returns] at h; cases h)
              refine ⟨_, _, pre0 _ ?_, hrun, hended, _, _, rfl, ?_, ⟨_, rfl⟩, hW, hsame.mono (by decide) (by decide)⟩
              · show Steps p.tables e below (s₁.setTop (mkF m 0 #[.val (.long vq), .second, .val (.int vn), .val (.long va), .second, .val (.long vb), .second, .val (.long vd), .second] [])) _
                refine XS.iloadN X0.here hx rfl (hb hby d12_0) rfl ?_
                show Steps p.tables e below (s₁.setTop (mkF m 1 #[.val (.long vq), .second, .val (.int vn), .val (.long va), .second, .val (.long vb), .second, .val (.long vd), .second] [(.int vn)])) _
                refine XS.ifNo X0.here hx rfl (hb hby d12_1) rfl (XT.i0_le_f hn0) ?_
                show Steps p.tables e below (s₁.setTop (mkF m 4 #[.val (.long vq), .second, .val (.int vn), .val (.long va), .second, .val (.long vb), .second, .val (.long vd), .second] [])) _
                refine XT.lloadN X0.here hx rfl (hb hby d12_4) rfl ?_
                show Steps p.tables e below (s₁.setTop (mkF m 5 #[.val (.long vq), .second, .val (.int vn), .val (.long va), .second, .val (.long vb), .second, .val (.long vd), .second] [(.long vq)])) _
                refine XT.lloadN X0.here hx rfl (hb hby d12_5) rfl ?_
                show Steps p.tables e below (s₁.setTop (mkF m 6 #[.val (.long vq), .second, .val (.int vn), .val (.long va), .second, .val (.long vb), .second, .val (.long vd), .second] [(.long va), (.long vq)])) _
                refine XT.lcmp X0.here hx rfl (hb hby d12_6) rfl ?_
                show Steps p.tables e below (s₁.setTop (mkF m 7 #[.val (.long vq), .second, .val (.int vn), .val (.long va), .second, .val (.long vb), .second, .val (.long vd), .second] [(.int (XT.cmpL vq va))])) _
                refine XS.ifYes X0.here hx rfl (pc0 := 7) (pc' := 12) rfl (hb hby d12_7) rfl (XT.ll_ne_t hea) (by decide) (by decide) ?_
                show Steps p.tables e below (s₁.setTop (mkF m 12 #[.val (.long vq), .second, .val (.int vn), .val (.long va), .second, .val (.long vb), .second, .val (.long vd), .second] [])) _
                refine XS.iloadN X0.here hx rfl (hb hby d12_12) rfl ?_
                show Steps p.tables e below (s₁.setTop (mkF m 13 #[.val (.long vq), .second, .val (.int vn), .val (.long va), .second, .val (.long vb), .second, .val (.long vd), .second] [(.int vn)])) _
                refine XS.iconst X0.here hx rfl (hb hby d12_13) ?_
                show Steps p.tables e below (s₁.setTop (mkF m 14 #[.val (.long vq), .second, .val (.int vn), .val (.long va), .second, .val (.long vb), .second, .val (.long vd), .second] [(.int (1 : Int32)), (.int vn)])) _
                refine XS.icmpNo X0.here hx rfl (hb hby d12_14) rfl (XT.ii_le_f hn1) ?_
                show Steps p.tables e below (s₁.setTop (mkF m 17 #[.val (.long vq), .second, .val (.int vn), .val (.long va), .second, .val (.long vb), .second, .val (.long vd), .second] [])) _
                refine XT.lloadN X0.here hx rfl (hb hby d12_17) rfl ?_
                show Steps p.tables e below (s₁.setTop (mkF m 18 #[.val (.long vq), .second, .val (.int vn), .val (.long va), .second, .val (.long vb), .second, .val (.long vd), .second] [(.long vq)])) _
                refine XT.lload X0.here hx rfl (hb hby d12_18) rfl ?_
                show Steps p.tables e below (s₁.setTop (mkF m 20 #[.val (.long vq), .second, .val (.int vn), .val (.long va), .second, .val (.long vb), .second, .val (.long vd), .second] [(.long vb), (.long vq)])) _
                refine XT.lcmp X0.here hx rfl (hb hby d12_20) rfl ?_
                show Steps p.tables e below (s₁.setTop (mkF m 21 #[.val (.long vq), .second, .val (.int vn), .val (.long va), .second, .val (.long vb), .second, .val (.long vd), .second] [(.int (XT.cmpL vq vb))])) _
                refine XS.ifYes X0.here hx rfl (pc0 := 21) (pc' := 26) rfl (hb hby d12_21) rfl (XT.ll_ne_t heb) (by decide) (by decide) ?_
                show Steps p.tables e below (s₁.setTop (mkF m 26 #[.val (.long vq), .second, .val (.int vn), .val (.long va), .second, .val (.long vb), .second, .val (.long vd), .second] [])) _
                refine XS.iloadN X0.here hx rfl (hb hby d12_26) rfl ?_
                show Steps p.tables e below (s₁.setTop (mkF m 27 #[.val (.long vq), .second, .val (.int vn), .val (.long va), .second, .val (.long vb), .second, .val (.long vd), .second] [(.int vn)])) _
                refine XS.iconst X0.here hx rfl (hb hby d12_27) ?_
                show Steps p.tables e below (s₁.setTop (mkF m 28 #[.val (.long vq), .second, .val (.int vn), .val (.long va), .second, .val (.long vb), .second, .val (.long vd), .second] [(.int (2 : Int32)), (.int vn)])) _
                refine XS.icmpNo X0.here hx rfl (hb hby d12_28) rfl (XT.ii_le_f hn2) ?_
                show Steps p.tables e below (s₁.setTop (mkF m 31 #[.val (.long vq), .second, .val (.int vn), .val (.long va), .second, .val (.long vb), .second, .val (.long vd), .second] [])) _
                refine XT.lloadN X0.here hx rfl (hb hby d12_31) rfl ?_
                show Steps p.tables e below (s₁.setTop (mkF m 32 #[.val (.long vq), .second, .val (.int vn), .val (.long va), .second, .val (.long vb), .second, .val (.long vd), .second] [(.long vq)])) _
                refine XT.lload X0.here hx rfl (hb hby d12_32) rfl ?_
                show Steps p.tables e below (s₁.setTop (mkF m 34 #[.val (.long vq), .second, .val (.int vn), .val (.long va), .second, .val (.long vb), .second, .val (.long vd), .second] [(.long vd), (.long vq)])) _
                refine XT.lcmp X0.here hx rfl (hb hby d12_34) rfl ?_
                show Steps p.tables e below (s₁.setTop (mkF m 35 #[.val (.long vq), .second, .val (.int vn), .val (.long va), .second, .val (.long vb), .second, .val (.long vd), .second] [(.int (XT.cmpL vq vd))])) _
                refine XS.ifYes X0.here hx rfl (pc0 := 35) (pc' := 40) rfl (hb hby d12_35) rfl (XT.ll_ne_t hed) (by decide) (by decide) ?_
                show Steps p.tables e below (s₁.setTop (mkF m 40 #[.val (.long vq), .second, .val (.int vn), .val (.long va), .second, .val (.long vb), .second, .val (.long vd), .second] [])) _
                refine XS.iconst X0.here hx rfl (hb hby d12_40) ?_
                show Steps p.tables e below (s₁.setTop (mkF m 41 #[.val (.long vq), .second, .val (.int vn), .val (.long va), .second, .val (.long vb), .second, .val (.long vd), .second] [(.int (-1 : Int32))])) _
                exact retI X0 hx Bd.returns (hb hby d12_41) hr
              · show Q_own_ixm Z vq vn va vb vd  h0 n0 _ s₁.heap _
                rw [e0]
                exact ⟨by unfold own_idx; rw [if_neg (fun z => hea z.2), if_neg (fun z => heb z.2), if_neg (fun z => hed z.2)], N0, rfl⟩
          · obtain ⟨fs, hr, hrun, hended, hW, hsame⟩ := X0.leave (v := some (.int (-1 : Int32))) (fun h => by rw [Bd.returns] at h; cases h)
            refine ⟨_, _, pre0 _ ?_, hrun, hended, _, _, rfl, ?_, ⟨_, rfl⟩, hW, hsame.mono (by decide) (by decide)⟩
            · show Steps p.tables e below (s₁.setTop (mkF m 0 #[.val (.long vq), .second, .val (.int vn), .val (.long va), .second, .val (.long vb), .second, .val (.long vd), .second] [])) _
              refine XS.iloadN X0.here hx rfl (hb hby d12_0) rfl ?_
              show Steps p.tables e below (s₁.setTop (mkF m 1 #[.val (.long vq), .second, .val (.int vn), .val (.long va), .second, .val (.long vb), .second, .val (.long vd), .second] [(.int vn)])) _
              refine XS.ifNo X0.here hx rfl (hb hby d12_1) rfl (XT.i0_le_f hn0) ?_
              show Steps p.tables e below (s₁.setTop (mkF m 4 #[.val (.long vq), .second, .val (.int vn), .val (.long va), .second, .val (.long vb), .second, .val (.long vd), .second] [])) _
              refine XT.lloadN X0.here hx rfl (hb hby d12_4) rfl ?_
              show Steps p.tables e below (s₁.setTop (mkF m 5 #[.val (.long vq), .second, .val (.int vn), .val (.long va), .second, .val (.long vb), .second, .val (.long vd), .second] [(.long vq)])) _
              refine XT.lloadN X0.here hx rfl (hb hby d12_5) rfl ?_
              show Steps p.tables e below (s₁.setTop (mkF m 6 #[.val (.long vq), .second, .val (.int vn), .val (.long va), .second, .val (.long vb), .second, .val (.long vd), .second] [(.long va), (.long vq)])) _
              refine XT.lcmp X0.here hx rfl (hb hby d12_6) rfl ?_
              show Steps p.tables e below (s₁.setTop (mkF m 7 #[.val (.long vq), .second, .val (.int vn), .val (.long va), .second, .val (.long vb), .second, .val (.long vd), .second] [(.int (XT.cmpL vq va))])) _
              refine XS.ifYes X0.here hx rfl (pc0 := 7) (pc' := 12) rfl (hb hby d12_7) rfl (XT.ll_ne_t hea) (by decide) (by decide) ?_
              show Steps p.tables e below (s₁.setTop (mkF m 12 #[.val (.long vq), .second, .val (.int vn), .val (.long va), .second, .val (.long vb), .second, .val (.long vd), .second] [])) _
              refine XS.iloadN X0.here hx rfl (hb hby d12_12) rfl ?_
              show Steps p.tables e below (s₁.setTop (mkF m 13 #[.val (.long vq), .second, .val (.int vn), .val (.long va), .second, .val (.long vb), .second, .val (.long vd), .second] [(.int vn)])) _
              refine XS.iconst X0.here hx rfl (hb hby d12_13) ?_
              show Steps p.tables e below (s₁.setTop (mkF m 14 #[.val (.long vq), .second, .val (.int vn), .val (.long va), .second, .val (.long vb), .second, .val (.long vd), .second] [(.int (1 : Int32)), (.int vn)])) _
              refine XS.icmpNo X0.here hx rfl (hb hby d12_14) rfl (XT.ii_le_f hn1) ?_
              show Steps p.tables e below (s₁.setTop (mkF m 17 #[.val (.long vq), .second, .val (.int vn), .val (.long va), .second, .val (.long vb), .second, .val (.long vd), .second] [])) _
              refine XT.lloadN X0.here hx rfl (hb hby d12_17) rfl ?_
              show Steps p.tables e below (s₁.setTop (mkF m 18 #[.val (.long vq), .second, .val (.int vn), .val (.long va), .second, .val (.long vb), .second, .val (.long vd), .second] [(.long vq)])) _
              refine XT.lload X0.here hx rfl (hb hby d12_18) rfl ?_
              show Steps p.tables e below (s₁.setTop (mkF m 20 #[.val (.long vq), .second, .val (.int vn), .val (.long va), .second, .val (.long vb), .second, .val (.long vd), .second] [(.long vb), (.long vq)])) _
              refine XT.lcmp X0.here hx rfl (hb hby d12_20) rfl ?_
              show Steps p.tables e below (s₁.setTop (mkF m 21 #[.val (.long vq), .second, .val (.int vn), .val (.long va), .second, .val (.long vb), .second, .val (.long vd), .second] [(.int (XT.cmpL vq vb))])) _
              refine XS.ifYes X0.here hx rfl (pc0 := 21) (pc' := 26) rfl (hb hby d12_21) rfl (XT.ll_ne_t heb) (by decide) (by decide) ?_
              show Steps p.tables e below (s₁.setTop (mkF m 26 #[.val (.long vq), .second, .val (.int vn), .val (.long va), .second, .val (.long vb), .second, .val (.long vd), .second] [])) _
              refine XS.iloadN X0.here hx rfl (hb hby d12_26) rfl ?_
              show Steps p.tables e below (s₁.setTop (mkF m 27 #[.val (.long vq), .second, .val (.int vn), .val (.long va), .second, .val (.long vb), .second, .val (.long vd), .second] [(.int vn)])) _
              refine XS.iconst X0.here hx rfl (hb hby d12_27) ?_
              show Steps p.tables e below (s₁.setTop (mkF m 28 #[.val (.long vq), .second, .val (.int vn), .val (.long va), .second, .val (.long vb), .second, .val (.long vd), .second] [(.int (2 : Int32)), (.int vn)])) _
              refine XS.icmpYes X0.here hx rfl (pc0 := 28) (pc' := 40) rfl (hb hby d12_28) rfl (XT.ii_le_t hn2) (by decide) (by decide) ?_
              show Steps p.tables e below (s₁.setTop (mkF m 40 #[.val (.long vq), .second, .val (.int vn), .val (.long va), .second, .val (.long vb), .second, .val (.long vd), .second] [])) _
              refine XS.iconst X0.here hx rfl (hb hby d12_40) ?_
              show Steps p.tables e below (s₁.setTop (mkF m 41 #[.val (.long vq), .second, .val (.int vn), .val (.long va), .second, .val (.long vb), .second, .val (.long vd), .second] [(.int (-1 : Int32))])) _
              exact retI X0 hx Bd.returns (hb hby d12_41) hr
            · show Q_own_ixm Z vq vn va vb vd  h0 n0 _ s₁.heap _
              rw [e0]
              exact ⟨by unfold own_idx; rw [if_neg (fun z => hea z.2), if_neg (fun z => heb z.2), if_neg (fun z => hn2 z.1)], N0, rfl⟩
      · by_cases hn2 : (2 : Int32) < vn
        · by_cases hed : vq = vd
          · obtain ⟨fs, hr, hrun, hended, hW, hsame⟩ := X0.leave (v := some (.int (2 : Int32))) (fun h => by rw [Bd.returns] at h; cases h)
            refine ⟨_, _, pre0 _ ?_, hrun, hended, _, _, rfl, ?_, ⟨_, rfl⟩, hW, hsame.mono (by decide) (by decide)⟩
            · show Steps p.tables e below (s₁.setTop (mkF m 0 #[.val (.long vq), .second, .val (.int vn), .val (.long va), .second, .val (.long vb), .second, .val (.long vd), .second] [])) _
              refine XS.iloadN X0.here hx rfl (hb hby d12_0) rfl ?_
              show Steps p.tables e below (s₁.setTop (mkF m 1 #[.val (.long vq), .second, .val (.int vn), .val (.long va), .second, .val (.long vb), .second, .val (.long vd), .second] [(.int vn)])) _
              refine XS.ifNo X0.here hx rfl (hb hby d12_1) rfl (XT.i0_le_f hn0) ?_
              show Steps p.tables e below (s₁.setTop (mkF m 4 #[.val (.long vq), .second, .val (.int vn), .val (.long va), .second, .val (.long vb), .second, .val (.long vd), .second] [])) _
              refine XT.lloadN X0.here hx rfl (hb hby d12_4) rfl ?_
              show Steps p.tables e below (s₁.setTop (mkF m 5 #[.val (.long vq), .second, .val (.int vn), .val (.long va), .second, .val (.long vb), .second, .val (.long vd), .second] [(.long vq)])) _
              refine XT.lloadN X0.here hx rfl (hb hby d12_5) rfl ?_
              show Steps p.tables e below (s₁.setTop (mkF m 6 #[.val (.long vq), .second, .val (.int vn), .val (.long va), .second, .val (.long vb), .second, .val (.long vd), .second] [(.long va), (.long vq)])) _
              refine XT.lcmp X0.here hx rfl (hb hby d12_6) rfl ?_
              show Steps p.tables e below (s₁.setTop (mkF m 7 #[.val (.long vq), .second, .val (.int vn), .val (.long va), .second, .val (.long vb), .second, .val (.long vd), .second] [(.int (XT.cmpL vq va))])) _
              refine XS.ifYes X0.here hx rfl (pc0 := 7) (pc' := 12) rfl (hb hby d12_7) rfl (XT.ll_ne_t hea) (by decide) (by decide) ?_
              show Steps p.tables e below (s₁.setTop (mkF m 12 #[.val (.long vq), .second, .val (.int vn), .val (.long va), .second, .val (.long vb), .second, .val (.long vd), .second] [])) _
              refine XS.iloadN X0.here hx rfl (hb hby d12_12) rfl ?_
              show Steps p.tables e below (s₁.setTop (mkF m 13 #[.val (.long vq), .second, .val (.int vn), .val (.long va), .second, .val (.long vb), .second, .val (.long vd), .second] [(.int vn)])) _
              refine XS.iconst X0.here hx rfl (hb hby d12_13) ?_
              show Steps p.tables e below (s₁.setTop (mkF m 14 #[.val (.long vq), .second, .val (.int vn), .val (.long va), .second, .val (.long vb), .second, .val (.long vd), .second] [(.int (1 : Int32)), (.int vn)])) _
              refine XS.icmpYes X0.here hx rfl (pc0 := 14) (pc' := 26) rfl (hb hby d12_14) rfl (XT.ii_le_t hn1) (by decide) (by decide) ?_
              show Steps p.tables e below (s₁.setTop (mkF m 26 #[.val (.long vq), .second, .val (.int vn), .val (.long va), .second, .val (.long vb), .second, .val (.long vd), .second] [])) _
              refine XS.iloadN X0.here hx rfl (hb hby d12_26) rfl ?_
              show Steps p.tables e below (s₁.setTop (mkF m 27 #[.val (.long vq), .second, .val (.int vn), .val (.long va), .second, .val (.long vb), .second, .val (.long vd), .second] [(.int vn)])) _
              refine XS.iconst X0.here hx rfl (hb hby d12_27) ?_
              show Steps p.tables e below (s₁.setTop (mkF m 28 #[.val (.long vq), .second, .val (.int vn), .val (.long va), .second, .val (.long vb), .second, .val (.long vd), .second] [(.int (2 : Int32)), (.int vn)])) _
              refine XS.icmpNo X0.here hx rfl (hb hby d12_28) rfl (XT.ii_le_f hn2) ?_
              show Steps p.tables e below (s₁.setTop (mkF m 31 #[.val (.long vq), .second, .val (.int vn), .val (.long va), .second, .val (.long vb), .second, .val (.long vd), .second] [])) _
              refine XT.lloadN X0.here hx rfl (hb hby d12_31) rfl ?_
              show Steps p.tables e below (s₁.setTop (mkF m 32 #[.val (.long vq), .second, .val (.int vn), .val (.long va), .second, .val (.long vb), .second, .val (.long vd), .second] [(.long vq)])) _
              refine XT.lload X0.here hx rfl (hb hby d12_32) rfl ?_
              show Steps p.tables e below (s₁.setTop (mkF m 34 #[.val (.long vq), .second, .val (.int vn), .val (.long va), .second, .val (.long vb), .second, .val (.long vd), .second] [(.long vd), (.long vq)])) _
              refine XT.lcmp X0.here hx rfl (hb hby d12_34) rfl ?_
              show Steps p.tables e below (s₁.setTop (mkF m 35 #[.val (.long vq), .second, .val (.int vn), .val (.long va), .second, .val (.long vb), .second, .val (.long vd), .second] [(.int (XT.cmpL vq vd))])) _
              refine XS.ifNo X0.here hx rfl (hb hby d12_35) rfl (XT.ll_ne_f hed) ?_
              show Steps p.tables e below (s₁.setTop (mkF m 38 #[.val (.long vq), .second, .val (.int vn), .val (.long va), .second, .val (.long vb), .second, .val (.long vd), .second] [])) _
              refine XS.iconst X0.here hx rfl (hb hby d12_38) ?_
              show Steps p.tables e below (s₁.setTop (mkF m 39 #[.val (.long vq), .second, .val (.int vn), .val (.long va), .second, .val (.long vb), .second, .val (.long vd), .second] [(.int (2 : Int32))])) _
              exact retI X0 hx Bd.returns (hb hby d12_39) hr
            · show Q_own_ixm Z vq vn va vb vd  h0 n0 _ s₁.heap _
              rw [e0]
              exact ⟨by unfold own_idx; rw [if_neg (fun z => hea z.2), if_neg (fun z => hn1 z.1), if_pos ⟨hn2, hed⟩], N0, rfl⟩
          · obtain ⟨fs, hr, hrun, hended, hW, hsame⟩ := X0.leave (v := some (.int (-1 : Int32))) (fun h => by rw [Bd.returns] at h; cases h)
            refine ⟨_, _, pre0 _ ?_, hrun, hended, _, _, rfl, ?_, ⟨_, rfl⟩, hW, hsame.mono (by decide) (by decide)⟩
            · show Steps p.tables e below (s₁.setTop (mkF m 0 #[.val (.long vq), .second, .val (.int vn), .val (.long va), .second, .val (.long vb), .second, .val (.long vd), .second] [])) _
              refine XS.iloadN X0.here hx rfl (hb hby d12_0) rfl ?_
              show Steps p.tables e below (s₁.setTop (mkF m 1 #[.val (.long vq), .second, .val (.int vn), .val (.long va), .second, .val (.long vb), .second, .val (.long vd), .second] [(.int vn)])) _
              refine XS.ifNo X0.here hx rfl (hb hby d12_1) rfl (XT.i0_le_f hn0) ?_
              show Steps p.tables e below (s₁.setTop (mkF m 4 #[.val (.long vq), .second, .val (.int vn), .val (.long va), .second, .val (.long vb), .second, .val (.long vd), .second] [])) _
              refine XT.lloadN X0.here hx rfl (hb hby d12_4) rfl ?_
              show Steps p.tables e below (s₁.setTop (mkF m 5 #[.val (.long vq), .second, .val (.int vn), .val (.long va), .second, .val (.long vb), .second, .val (.long vd), .second] [(.long vq)])) _
              refine XT.lloadN X0.here hx rfl (hb hby d12_5) rfl ?_
              show Steps p.tables e below (s₁.setTop (mkF m 6 #[.val (.long vq), .second, .val (.int vn), .val (.long va), .second, .val (.long vb), .second, .val (.long vd), .second] [(.long va), (.long vq)])) _
              refine XT.lcmp X0.here hx rfl (hb hby d12_6) rfl ?_
              show Steps p.tables e below (s₁.setTop (mkF m 7 #[.val (.long vq), .second, .val (.int vn), .val (.long va), .second, .val (.long vb), .second, .val (.long vd), .second] [(.int (XT.cmpL vq va))])) _
              refine XS.ifYes X0.here hx rfl (pc0 := 7) (pc' := 12) rfl (hb hby d12_7) rfl (XT.ll_ne_t hea) (by decide) (by decide) ?_
              show Steps p.tables e below (s₁.setTop (mkF m 12 #[.val (.long vq), .second, .val (.int vn), .val (.long va), .second, .val (.long vb), .second, .val (.long vd), .second] [])) _
              refine XS.iloadN X0.here hx rfl (hb hby d12_12) rfl ?_
              show Steps p.tables e below (s₁.setTop (mkF m 13 #[.val (.long vq), .second, .val (.int vn), .val (.long va), .second, .val (.long vb), .second, .val (.long vd), .second] [(.int vn)])) _
              refine XS.iconst X0.here hx rfl (hb hby d12_13) ?_
              show Steps p.tables e below (s₁.setTop (mkF m 14 #[.val (.long vq), .second, .val (.int vn), .val (.long va), .second, .val (.long vb), .second, .val (.long vd), .second] [(.int (1 : Int32)), (.int vn)])) _
              refine XS.icmpYes X0.here hx rfl (pc0 := 14) (pc' := 26) rfl (hb hby d12_14) rfl (XT.ii_le_t hn1) (by decide) (by decide) ?_
              show Steps p.tables e below (s₁.setTop (mkF m 26 #[.val (.long vq), .second, .val (.int vn), .val (.long va), .second, .val (.long vb), .second, .val (.long vd), .second] [])) _
              refine XS.iloadN X0.here hx rfl (hb hby d12_26) rfl ?_
              show Steps p.tables e below (s₁.setTop (mkF m 27 #[.val (.long vq), .second, .val (.int vn), .val (.long va), .second, .val (.long vb), .second, .val (.long vd), .second] [(.int vn)])) _
              refine XS.iconst X0.here hx rfl (hb hby d12_27) ?_
              show Steps p.tables e below (s₁.setTop (mkF m 28 #[.val (.long vq), .second, .val (.int vn), .val (.long va), .second, .val (.long vb), .second, .val (.long vd), .second] [(.int (2 : Int32)), (.int vn)])) _
              refine XS.icmpNo X0.here hx rfl (hb hby d12_28) rfl (XT.ii_le_f hn2) ?_
              show Steps p.tables e below (s₁.setTop (mkF m 31 #[.val (.long vq), .second, .val (.int vn), .val (.long va), .second, .val (.long vb), .second, .val (.long vd), .second] [])) _
              refine XT.lloadN X0.here hx rfl (hb hby d12_31) rfl ?_
              show Steps p.tables e below (s₁.setTop (mkF m 32 #[.val (.long vq), .second, .val (.int vn), .val (.long va), .second, .val (.long vb), .second, .val (.long vd), .second] [(.long vq)])) _
              refine XT.lload X0.here hx rfl (hb hby d12_32) rfl ?_
              show Steps p.tables e below (s₁.setTop (mkF m 34 #[.val (.long vq), .second, .val (.int vn), .val (.long va), .second, .val (.long vb), .second, .val (.long vd), .second] [(.long vd), (.long vq)])) _
              refine XT.lcmp X0.here hx rfl (hb hby d12_34) rfl ?_
              show Steps p.tables e below (s₁.setTop (mkF m 35 #[.val (.long vq), .second, .val (.int vn), .val (.long va), .second, .val (.long vb), .second, .val (.long vd), .second] [(.int (XT.cmpL vq vd))])) _
              refine XS.ifYes X0.here hx rfl (pc0 := 35) (pc' := 40) rfl (hb hby d12_35) rfl (XT.ll_ne_t hed) (by decide) (by decide) ?_
              show Steps p.tables e below (s₁.setTop (mkF m 40 #[.val (.long vq), .second, .val (.int vn), .val (.long va), .second, .val (.long vb), .second, .val (.long vd), .second] [])) _
              refine XS.iconst X0.here hx rfl (hb hby d12_40) ?_
              show Steps p.tables e below (s₁.setTop (mkF m 41 #[.val (.long vq), .second, .val (.int vn), .val (.long va), .second, .val (.long vb), .second, .val (.long vd), .second] [(.int (-1 : Int32))])) _
              exact retI X0 hx Bd.returns (hb hby d12_41) hr
            · show Q_own_ixm Z vq vn va vb vd  h0 n0 _ s₁.heap _
              rw [e0]
              exact ⟨by unfold own_idx; rw [if_neg (fun z => hea z.2), if_neg (fun z => hn1 z.1), if_neg (fun z => hed z.2)], N0, rfl⟩
        · obtain ⟨fs, hr, hrun, hended, hW, hsame⟩ := X0.leave (v := some (.int (-1 : Int32))) (fun h => by rw [Bd.returns] at h; cases h)
          refine ⟨_, _, pre0 _ ?_, hrun, hended, _, _, rfl, ?_, ⟨_, rfl⟩, hW, hsame.mono (by decide) (by decide)⟩
          · show Steps p.tables e below (s₁.setTop (mkF m 0 #[.val (.long vq), .second, .val (.int vn), .val (.long va), .second, .val (.long vb), .second, .val (.long vd), .second] [])) _
            refine XS.iloadN X0.here hx rfl (hb hby d12_0) rfl ?_
            show Steps p.tables e below (s₁.setTop (mkF m 1 #[.val (.long vq), .second, .val (.int vn), .val (.long va), .second, .val (.long vb), .second, .val (.long vd), .second] [(.int vn)])) _
            refine XS.ifNo X0.here hx rfl (hb hby d12_1) rfl (XT.i0_le_f hn0) ?_
            show Steps p.tables e below (s₁.setTop (mkF m 4 #[.val (.long vq), .second, .val (.int vn), .val (.long va), .second, .val (.long vb), .second, .val (.long vd), .second] [])) _
            refine XT.lloadN X0.here hx rfl (hb hby d12_4) rfl ?_
            show Steps p.tables e below (s₁.setTop (mkF m 5 #[.val (.long vq), .second, .val (.int vn), .val (.long va), .second, .val (.long vb), .second, .val (.long vd), .second] [(.long vq)])) _
            refine XT.lloadN X0.here hx rfl (hb hby d12_5) rfl ?_
            show Steps p.tables e below (s₁.setTop (mkF m 6 #[.val (.long vq), .second, .val (.int vn), .val (.long va), .second, .val (.long vb), .second, .val (.long vd), .second] [(.long va), (.long vq)])) _
            refine XT.lcmp X0.here hx rfl (hb hby d12_6) rfl ?_
            show Steps p.tables e below (s₁.setTop (mkF m 7 #[.val (.long vq), .second, .val (.int vn), .val (.long va), .second, .val (.long vb), .second, .val (.long vd), .second] [(.int (XT.cmpL vq va))])) _
            refine XS.ifYes X0.here hx rfl (pc0 := 7) (pc' := 12) rfl (hb hby d12_7) rfl (XT.ll_ne_t hea) (by decide) (by decide) ?_
            show Steps p.tables e below (s₁.setTop (mkF m 12 #[.val (.long vq), .second, .val (.int vn), .val (.long va), .second, .val (.long vb), .second, .val (.long vd), .second] [])) _
            refine XS.iloadN X0.here hx rfl (hb hby d12_12) rfl ?_
            show Steps p.tables e below (s₁.setTop (mkF m 13 #[.val (.long vq), .second, .val (.int vn), .val (.long va), .second, .val (.long vb), .second, .val (.long vd), .second] [(.int vn)])) _
            refine XS.iconst X0.here hx rfl (hb hby d12_13) ?_
            show Steps p.tables e below (s₁.setTop (mkF m 14 #[.val (.long vq), .second, .val (.int vn), .val (.long va), .second, .val (.long vb), .second, .val (.long vd), .second] [(.int (1 : Int32)), (.int vn)])) _
            refine XS.icmpYes X0.here hx rfl (pc0 := 14) (pc' := 26) rfl (hb hby d12_14) rfl (XT.ii_le_t hn1) (by decide) (by decide) ?_
            show Steps p.tables e below (s₁.setTop (mkF m 26 #[.val (.long vq), .second, .val (.int vn), .val (.long va), .second, .val (.long vb), .second, .val (.long vd), .second] [])) _
            refine XS.iloadN X0.here hx rfl (hb hby d12_26) rfl ?_
            show Steps p.tables e below (s₁.setTop (mkF m 27 #[.val (.long vq), .second, .val (.int vn), .val (.long va), .second, .val (.long vb), .second, .val (.long vd), .second] [(.int vn)])) _
            refine XS.iconst X0.here hx rfl (hb hby d12_27) ?_
            show Steps p.tables e below (s₁.setTop (mkF m 28 #[.val (.long vq), .second, .val (.int vn), .val (.long va), .second, .val (.long vb), .second, .val (.long vd), .second] [(.int (2 : Int32)), (.int vn)])) _
            refine XS.icmpYes X0.here hx rfl (pc0 := 28) (pc' := 40) rfl (hb hby d12_28) rfl (XT.ii_le_t hn2) (by decide) (by decide) ?_
            show Steps p.tables e below (s₁.setTop (mkF m 40 #[.val (.long vq), .second, .val (.int vn), .val (.long va), .second, .val (.long vb), .second, .val (.long vd), .second] [])) _
            refine XS.iconst X0.here hx rfl (hb hby d12_40) ?_
            show Steps p.tables e below (s₁.setTop (mkF m 41 #[.val (.long vq), .second, .val (.int vn), .val (.long va), .second, .val (.long vb), .second, .val (.long vd), .second] [(.int (-1 : Int32))])) _
            exact retI X0 hx Bd.returns (hb hby d12_41) hr
          · show Q_own_ixm Z vq vn va vb vd  h0 n0 _ s₁.heap _
            rw [e0]
            exact ⟨by unfold own_idx; rw [if_neg (fun z => hea z.2), if_neg (fun z => hn1 z.1), if_neg (fun z => hn2 z.1)], N0, rfl⟩
  · by_cases hn1 : (1 : Int32) < vn
    · by_cases heb : vq = vb
      · obtain ⟨fs, hr, hrun, hended, hW, hsame⟩ := X0.leave (v := some (.int (1 : Int32))) (fun h => by rw [Bd.returns] at h; cases h)
        refine ⟨_, _, pre0 _ ?_, hrun, hended, _, _, rfl, ?_, ⟨_, rfl⟩, hW, hsame.mono (by decide) (by decide)⟩
        · show Steps p.tables e below (s₁.setTop (mkF m 0 #[.val (.long vq), .second, .val (.int vn), .val (.long va), .second, .val (.long vb), .second, .val (.long vd), .second] [])) _
          refine XS.iloadN X0.here hx rfl (hb hby d12_0) rfl ?_
          show Steps p.tables e below (s₁.setTop (mkF m 1 #[.val (.long vq), .second, .val (.int vn), .val (.long va), .second, .val (.long vb), .second, .val (.long vd), .second] [(.int vn)])) _
          refine XS.ifYes X0.here hx rfl (pc0 := 1) (pc' := 12) rfl (hb hby d12_1) rfl (XT.i0_le_t hn0) (by decide) (by decide) ?_
          show Steps p.tables e below (s₁.setTop (mkF m 12 #[.val (.long vq), .second, .val (.int vn), .val (.long va), .second, .val (.long vb), .second, .val (.long vd), .second] [])) _
          refine XS.iloadN X0.here hx rfl (hb hby d12_12) rfl ?_
          show Steps p.tables e below (s₁.setTop (mkF m 13 #[.val (.long vq), .second, .val (.int vn), .val (.long va), .second, .val (.long vb), .second, .val (.long vd), .second] [(.int vn)])) _
          refine XS.iconst X0.here hx rfl (hb hby d12_13) ?_
          show Steps p.tables e below (s₁.setTop (mkF m 14 #[.val (.long vq), .second, .val (.int vn), .val (.long va), .second, .val (.long vb), .second, .val (.long vd), .second] [(.int (1 : Int32)), (.int vn)])) _
          refine XS.icmpNo X0.here hx rfl (hb hby d12_14) rfl (XT.ii_le_f hn1) ?_
          show Steps p.tables e below (s₁.setTop (mkF m 17 #[.val (.long vq), .second, .val (.int vn), .val (.long va), .second, .val (.long vb), .second, .val (.long vd), .second] [])) _
          refine XT.lloadN X0.here hx rfl (hb hby d12_17) rfl ?_
          show Steps p.tables e below (s₁.setTop (mkF m 18 #[.val (.long vq), .second, .val (.int vn), .val (.long va), .second, .val (.long vb), .second, .val (.long vd), .second] [(.long vq)])) _
          refine XT.lload X0.here hx rfl (hb hby d12_18) rfl ?_
          show Steps p.tables e below (s₁.setTop (mkF m 20 #[.val (.long vq), .second, .val (.int vn), .val (.long va), .second, .val (.long vb), .second, .val (.long vd), .second] [(.long vb), (.long vq)])) _
          refine XT.lcmp X0.here hx rfl (hb hby d12_20) rfl ?_
          show Steps p.tables e below (s₁.setTop (mkF m 21 #[.val (.long vq), .second, .val (.int vn), .val (.long va), .second, .val (.long vb), .second, .val (.long vd), .second] [(.int (XT.cmpL vq vb))])) _
          refine XS.ifNo X0.here hx rfl (hb hby d12_21) rfl (XT.ll_ne_f heb) ?_
          show Steps p.tables e below (s₁.setTop (mkF m 24 #[.val (.long vq), .second, .val (.int vn), .val (.long va), .second, .val (.long vb), .second, .val (.long vd), .second] [])) _
          refine XS.iconst X0.here hx rfl (hb hby d12_24) ?_
          show Steps p.tables e below (s₁.setTop (mkF m 25 #[.val (.long vq), .second, .val (.int vn), .val (.long va), .second, .val (.long vb), .second, .val (.long vd), .second] [(.int (1 : Int32))])) _
          exact retI X0 hx Bd.returns (hb hby d12_25) hr
        · show Q_own_ixm Z vq vn va vb vd  h0 n0 _ s₁.heap _
          rw [e0]
          exact ⟨by unfold own_idx; rw [if_neg (fun z => hn0 z.1), if_pos ⟨hn1, heb⟩], N0, rfl⟩
      · by_cases hn2 : (2 : Int32) < vn
        · by_cases hed : vq = vd
          · obtain ⟨fs, hr, hrun, hended, hW, hsame⟩ := X0.leave (v := some (.int (2 : Int32))) (fun h => by rw [Bd.returns] at h; cases h)
            refine ⟨_, _, pre0 _ ?_, hrun, hended, _, _, rfl, ?_, ⟨_, rfl⟩, hW, hsame.mono (by decide) (by decide)⟩
            · show Steps p.tables e below (s₁.setTop (mkF m 0 #[.val (.long vq), .second, .val (.int vn), .val (.long va), .second, .val (.long vb), .second, .val (.long vd), .second] [])) _
              refine XS.iloadN X0.here hx rfl (hb hby d12_0) rfl ?_
              show Steps p.tables e below (s₁.setTop (mkF m 1 #[.val (.long vq), .second, .val (.int vn), .val (.long va), .second, .val (.long vb), .second, .val (.long vd), .second] [(.int vn)])) _
              refine XS.ifYes X0.here hx rfl (pc0 := 1) (pc' := 12) rfl (hb hby d12_1) rfl (XT.i0_le_t hn0) (by decide) (by decide) ?_
              show Steps p.tables e below (s₁.setTop (mkF m 12 #[.val (.long vq), .second, .val (.int vn), .val (.long va), .second, .val (.long vb), .second, .val (.long vd), .second] [])) _
              refine XS.iloadN X0.here hx rfl (hb hby d12_12) rfl ?_
              show Steps p.tables e below (s₁.setTop (mkF m 13 #[.val (.long vq), .second, .val (.int vn), .val (.long va), .second, .val (.long vb), .second, .val (.long vd), .second] [(.int vn)])) _
              refine XS.iconst X0.here hx rfl (hb hby d12_13) ?_
              show Steps p.tables e below (s₁.setTop (mkF m 14 #[.val (.long vq), .second, .val (.int vn), .val (.long va), .second, .val (.long vb), .second, .val (.long vd), .second] [(.int (1 : Int32)), (.int vn)])) _
              refine XS.icmpNo X0.here hx rfl (hb hby d12_14) rfl (XT.ii_le_f hn1) ?_
              show Steps p.tables e below (s₁.setTop (mkF m 17 #[.val (.long vq), .second, .val (.int vn), .val (.long va), .second, .val (.long vb), .second, .val (.long vd), .second] [])) _
              refine XT.lloadN X0.here hx rfl (hb hby d12_17) rfl ?_
              show Steps p.tables e below (s₁.setTop (mkF m 18 #[.val (.long vq), .second, .val (.int vn), .val (.long va), .second, .val (.long vb), .second, .val (.long vd), .second] [(.long vq)])) _
              refine XT.lload X0.here hx rfl (hb hby d12_18) rfl ?_
              show Steps p.tables e below (s₁.setTop (mkF m 20 #[.val (.long vq), .second, .val (.int vn), .val (.long va), .second, .val (.long vb), .second, .val (.long vd), .second] [(.long vb), (.long vq)])) _
              refine XT.lcmp X0.here hx rfl (hb hby d12_20) rfl ?_
              show Steps p.tables e below (s₁.setTop (mkF m 21 #[.val (.long vq), .second, .val (.int vn), .val (.long va), .second, .val (.long vb), .second, .val (.long vd), .second] [(.int (XT.cmpL vq vb))])) _
              refine XS.ifYes X0.here hx rfl (pc0 := 21) (pc' := 26) rfl (hb hby d12_21) rfl (XT.ll_ne_t heb) (by decide) (by decide) ?_
              show Steps p.tables e below (s₁.setTop (mkF m 26 #[.val (.long vq), .second, .val (.int vn), .val (.long va), .second, .val (.long vb), .second, .val (.long vd), .second] [])) _
              refine XS.iloadN X0.here hx rfl (hb hby d12_26) rfl ?_
              show Steps p.tables e below (s₁.setTop (mkF m 27 #[.val (.long vq), .second, .val (.int vn), .val (.long va), .second, .val (.long vb), .second, .val (.long vd), .second] [(.int vn)])) _
              refine XS.iconst X0.here hx rfl (hb hby d12_27) ?_
              show Steps p.tables e below (s₁.setTop (mkF m 28 #[.val (.long vq), .second, .val (.int vn), .val (.long va), .second, .val (.long vb), .second, .val (.long vd), .second] [(.int (2 : Int32)), (.int vn)])) _
              refine XS.icmpNo X0.here hx rfl (hb hby d12_28) rfl (XT.ii_le_f hn2) ?_
              show Steps p.tables e below (s₁.setTop (mkF m 31 #[.val (.long vq), .second, .val (.int vn), .val (.long va), .second, .val (.long vb), .second, .val (.long vd), .second] [])) _
              refine XT.lloadN X0.here hx rfl (hb hby d12_31) rfl ?_
              show Steps p.tables e below (s₁.setTop (mkF m 32 #[.val (.long vq), .second, .val (.int vn), .val (.long va), .second, .val (.long vb), .second, .val (.long vd), .second] [(.long vq)])) _
              refine XT.lload X0.here hx rfl (hb hby d12_32) rfl ?_
              show Steps p.tables e below (s₁.setTop (mkF m 34 #[.val (.long vq), .second, .val (.int vn), .val (.long va), .second, .val (.long vb), .second, .val (.long vd), .second] [(.long vd), (.long vq)])) _
              refine XT.lcmp X0.here hx rfl (hb hby d12_34) rfl ?_
              show Steps p.tables e below (s₁.setTop (mkF m 35 #[.val (.long vq), .second, .val (.int vn), .val (.long va), .second, .val (.long vb), .second, .val (.long vd), .second] [(.int (XT.cmpL vq vd))])) _
              refine XS.ifNo X0.here hx rfl (hb hby d12_35) rfl (XT.ll_ne_f hed) ?_
              show Steps p.tables e below (s₁.setTop (mkF m 38 #[.val (.long vq), .second, .val (.int vn), .val (.long va), .second, .val (.long vb), .second, .val (.long vd), .second] [])) _
              refine XS.iconst X0.here hx rfl (hb hby d12_38) ?_
              show Steps p.tables e below (s₁.setTop (mkF m 39 #[.val (.long vq), .second, .val (.int vn), .val (.long va), .second, .val (.long vb), .second, .val (.long vd), .second] [(.int (2 : Int32))])) _
              exact retI X0 hx Bd.returns (hb hby d12_39) hr
            · show Q_own_ixm Z vq vn va vb vd  h0 n0 _ s₁.heap _
              rw [e0]
              exact ⟨by unfold own_idx; rw [if_neg (fun z => hn0 z.1), if_neg (fun z => heb z.2), if_pos ⟨hn2, hed⟩], N0, rfl⟩
          · obtain ⟨fs, hr, hrun, hended, hW, hsame⟩ := X0.leave (v := some (.int (-1 : Int32))) (fun h => by rw [Bd.returns] at h; cases h)
            refine ⟨_, _, pre0 _ ?_, hrun, hended, _, _, rfl, ?_, ⟨_, rfl⟩, hW, hsame.mono (by decide) (by decide)⟩
            · show Steps p.tables e below (s₁.setTop (mkF m 0 #[.val (.long vq), .second, .val (.int vn), .val (.long va), .second, .val (.long vb), .second, .val (.long vd), .second] [])) _
              refine XS.iloadN X0.here hx rfl (hb hby d12_0) rfl ?_
              show Steps p.tables e below (s₁.setTop (mkF m 1 #[.val (.long vq), .second, .val (.int vn), .val (.long va), .second, .val (.long vb), .second, .val (.long vd), .second] [(.int vn)])) _
              refine XS.ifYes X0.here hx rfl (pc0 := 1) (pc' := 12) rfl (hb hby d12_1) rfl (XT.i0_le_t hn0) (by decide) (by decide) ?_
              show Steps p.tables e below (s₁.setTop (mkF m 12 #[.val (.long vq), .second, .val (.int vn), .val (.long va), .second, .val (.long vb), .second, .val (.long vd), .second] [])) _
              refine XS.iloadN X0.here hx rfl (hb hby d12_12) rfl ?_
              show Steps p.tables e below (s₁.setTop (mkF m 13 #[.val (.long vq), .second, .val (.int vn), .val (.long va), .second, .val (.long vb), .second, .val (.long vd), .second] [(.int vn)])) _
              refine XS.iconst X0.here hx rfl (hb hby d12_13) ?_
              show Steps p.tables e below (s₁.setTop (mkF m 14 #[.val (.long vq), .second, .val (.int vn), .val (.long va), .second, .val (.long vb), .second, .val (.long vd), .second] [(.int (1 : Int32)), (.int vn)])) _
              refine XS.icmpNo X0.here hx rfl (hb hby d12_14) rfl (XT.ii_le_f hn1) ?_
              show Steps p.tables e below (s₁.setTop (mkF m 17 #[.val (.long vq), .second, .val (.int vn), .val (.long va), .second, .val (.long vb), .second, .val (.long vd), .second] [])) _
              refine XT.lloadN X0.here hx rfl (hb hby d12_17) rfl ?_
              show Steps p.tables e below (s₁.setTop (mkF m 18 #[.val (.long vq), .second, .val (.int vn), .val (.long va), .second, .val (.long vb), .second, .val (.long vd), .second] [(.long vq)])) _
              refine XT.lload X0.here hx rfl (hb hby d12_18) rfl ?_
              show Steps p.tables e below (s₁.setTop (mkF m 20 #[.val (.long vq), .second, .val (.int vn), .val (.long va), .second, .val (.long vb), .second, .val (.long vd), .second] [(.long vb), (.long vq)])) _
              refine XT.lcmp X0.here hx rfl (hb hby d12_20) rfl ?_
              show Steps p.tables e below (s₁.setTop (mkF m 21 #[.val (.long vq), .second, .val (.int vn), .val (.long va), .second, .val (.long vb), .second, .val (.long vd), .second] [(.int (XT.cmpL vq vb))])) _
              refine XS.ifYes X0.here hx rfl (pc0 := 21) (pc' := 26) rfl (hb hby d12_21) rfl (XT.ll_ne_t heb) (by decide) (by decide) ?_
              show Steps p.tables e below (s₁.setTop (mkF m 26 #[.val (.long vq), .second, .val (.int vn), .val (.long va), .second, .val (.long vb), .second, .val (.long vd), .second] [])) _
              refine XS.iloadN X0.here hx rfl (hb hby d12_26) rfl ?_
              show Steps p.tables e below (s₁.setTop (mkF m 27 #[.val (.long vq), .second, .val (.int vn), .val (.long va), .second, .val (.long vb), .second, .val (.long vd), .second] [(.int vn)])) _
              refine XS.iconst X0.here hx rfl (hb hby d12_27) ?_
              show Steps p.tables e below (s₁.setTop (mkF m 28 #[.val (.long vq), .second, .val (.int vn), .val (.long va), .second, .val (.long vb), .second, .val (.long vd), .second] [(.int (2 : Int32)), (.int vn)])) _
              refine XS.icmpNo X0.here hx rfl (hb hby d12_28) rfl (XT.ii_le_f hn2) ?_
              show Steps p.tables e below (s₁.setTop (mkF m 31 #[.val (.long vq), .second, .val (.int vn), .val (.long va), .second, .val (.long vb), .second, .val (.long vd), .second] [])) _
              refine XT.lloadN X0.here hx rfl (hb hby d12_31) rfl ?_
              show Steps p.tables e below (s₁.setTop (mkF m 32 #[.val (.long vq), .second, .val (.int vn), .val (.long va), .second, .val (.long vb), .second, .val (.long vd), .second] [(.long vq)])) _
              refine XT.lload X0.here hx rfl (hb hby d12_32) rfl ?_
              show Steps p.tables e below (s₁.setTop (mkF m 34 #[.val (.long vq), .second, .val (.int vn), .val (.long va), .second, .val (.long vb), .second, .val (.long vd), .second] [(.long vd), (.long vq)])) _
              refine XT.lcmp X0.here hx rfl (hb hby d12_34) rfl ?_
              show Steps p.tables e below (s₁.setTop (mkF m 35 #[.val (.long vq), .second, .val (.int vn), .val (.long va), .second, .val (.long vb), .second, .val (.long vd), .second] [(.int (XT.cmpL vq vd))])) _
              refine XS.ifYes X0.here hx rfl (pc0 := 35) (pc' := 40) rfl (hb hby d12_35) rfl (XT.ll_ne_t hed) (by decide) (by decide) ?_
              show Steps p.tables e below (s₁.setTop (mkF m 40 #[.val (.long vq), .second, .val (.int vn), .val (.long va), .second, .val (.long vb), .second, .val (.long vd), .second] [])) _
              refine XS.iconst X0.here hx rfl (hb hby d12_40) ?_
              show Steps p.tables e below (s₁.setTop (mkF m 41 #[.val (.long vq), .second, .val (.int vn), .val (.long va), .second, .val (.long vb), .second, .val (.long vd), .second] [(.int (-1 : Int32))])) _
              exact retI X0 hx Bd.returns (hb hby d12_41) hr
            · show Q_own_ixm Z vq vn va vb vd  h0 n0 _ s₁.heap _
              rw [e0]
              exact ⟨by unfold own_idx; rw [if_neg (fun z => hn0 z.1), if_neg (fun z => heb z.2), if_neg (fun z => hed z.2)], N0, rfl⟩
        · obtain ⟨fs, hr, hrun, hended, hW, hsame⟩ := X0.leave (v := some (.int (-1 : Int32))) (fun h => by rw [Bd.returns] at h; cases h)
          refine ⟨_, _, pre0 _ ?_, hrun, hended, _, _, rfl, ?_, ⟨_, rfl⟩, hW, hsame.mono (by decide) (by decide)⟩
          · show Steps p.tables e below (s₁.setTop (mkF m 0 #[.val (.long vq), .second, .val (.int vn), .val (.long va), .second, .val (.long vb), .second, .val (.long vd), .second] [])) _
            refine XS.iloadN X0.here hx rfl (hb hby d12_0) rfl ?_
            show Steps p.tables e below (s₁.setTop (mkF m 1 #[.val (.long vq), .second, .val (.int vn), .val (.long va), .second, .val (.long vb), .second, .val (.long vd), .second] [(.int vn)])) _
            refine XS.ifYes X0.here hx rfl (pc0 := 1) (pc' := 12) rfl (hb hby d12_1) rfl (XT.i0_le_t hn0) (by decide) (by decide) ?_
            show Steps p.tables e below (s₁.setTop (mkF m 12 #[.val (.long vq), .second, .val (.int vn), .val (.long va), .second, .val (.long vb), .second, .val (.long vd), .second] [])) _
            refine XS.iloadN X0.here hx rfl (hb hby d12_12) rfl ?_
            show Steps p.tables e below (s₁.setTop (mkF m 13 #[.val (.long vq), .second, .val (.int vn), .val (.long va), .second, .val (.long vb), .second, .val (.long vd), .second] [(.int vn)])) _
            refine XS.iconst X0.here hx rfl (hb hby d12_13) ?_
            show Steps p.tables e below (s₁.setTop (mkF m 14 #[.val (.long vq), .second, .val (.int vn), .val (.long va), .second, .val (.long vb), .second, .val (.long vd), .second] [(.int (1 : Int32)), (.int vn)])) _
            refine XS.icmpNo X0.here hx rfl (hb hby d12_14) rfl (XT.ii_le_f hn1) ?_
            show Steps p.tables e below (s₁.setTop (mkF m 17 #[.val (.long vq), .second, .val (.int vn), .val (.long va), .second, .val (.long vb), .second, .val (.long vd), .second] [])) _
            refine XT.lloadN X0.here hx rfl (hb hby d12_17) rfl ?_
            show Steps p.tables e below (s₁.setTop (mkF m 18 #[.val (.long vq), .second, .val (.int vn), .val (.long va), .second, .val (.long vb), .second, .val (.long vd), .second] [(.long vq)])) _
            refine XT.lload X0.here hx rfl (hb hby d12_18) rfl ?_
            show Steps p.tables e below (s₁.setTop (mkF m 20 #[.val (.long vq), .second, .val (.int vn), .val (.long va), .second, .val (.long vb), .second, .val (.long vd), .second] [(.long vb), (.long vq)])) _
            refine XT.lcmp X0.here hx rfl (hb hby d12_20) rfl ?_
            show Steps p.tables e below (s₁.setTop (mkF m 21 #[.val (.long vq), .second, .val (.int vn), .val (.long va), .second, .val (.long vb), .second, .val (.long vd), .second] [(.int (XT.cmpL vq vb))])) _
            refine XS.ifYes X0.here hx rfl (pc0 := 21) (pc' := 26) rfl (hb hby d12_21) rfl (XT.ll_ne_t heb) (by decide) (by decide) ?_
            show Steps p.tables e below (s₁.setTop (mkF m 26 #[.val (.long vq), .second, .val (.int vn), .val (.long va), .second, .val (.long vb), .second, .val (.long vd), .second] [])) _
            refine XS.iloadN X0.here hx rfl (hb hby d12_26) rfl ?_
            show Steps p.tables e below (s₁.setTop (mkF m 27 #[.val (.long vq), .second, .val (.int vn), .val (.long va), .second, .val (.long vb), .second, .val (.long vd), .second] [(.int vn)])) _
            refine XS.iconst X0.here hx rfl (hb hby d12_27) ?_
            show Steps p.tables e below (s₁.setTop (mkF m 28 #[.val (.long vq), .second, .val (.int vn), .val (.long va), .second, .val (.long vb), .second, .val (.long vd), .second] [(.int (2 : Int32)), (.int vn)])) _
            refine XS.icmpYes X0.here hx rfl (pc0 := 28) (pc' := 40) rfl (hb hby d12_28) rfl (XT.ii_le_t hn2) (by decide) (by decide) ?_
            show Steps p.tables e below (s₁.setTop (mkF m 40 #[.val (.long vq), .second, .val (.int vn), .val (.long va), .second, .val (.long vb), .second, .val (.long vd), .second] [])) _
            refine XS.iconst X0.here hx rfl (hb hby d12_40) ?_
            show Steps p.tables e below (s₁.setTop (mkF m 41 #[.val (.long vq), .second, .val (.int vn), .val (.long va), .second, .val (.long vb), .second, .val (.long vd), .second] [(.int (-1 : Int32))])) _
            exact retI X0 hx Bd.returns (hb hby d12_41) hr
          · show Q_own_ixm Z vq vn va vb vd  h0 n0 _ s₁.heap _
            rw [e0]
            exact ⟨by unfold own_idx; rw [if_neg (fun z => hn0 z.1), if_neg (fun z => heb z.2), if_neg (fun z => hn2 z.1)], N0, rfl⟩
    · by_cases hn2 : (2 : Int32) < vn
      · by_cases hed : vq = vd
        · obtain ⟨fs, hr, hrun, hended, hW, hsame⟩ := X0.leave (v := some (.int (2 : Int32))) (fun h => by rw [Bd.returns] at h; cases h)
          refine ⟨_, _, pre0 _ ?_, hrun, hended, _, _, rfl, ?_, ⟨_, rfl⟩, hW, hsame.mono (by decide) (by decide)⟩
          · show Steps p.tables e below (s₁.setTop (mkF m 0 #[.val (.long vq), .second, .val (.int vn), .val (.long va), .second, .val (.long vb), .second, .val (.long vd), .second] [])) _
            refine XS.iloadN X0.here hx rfl (hb hby d12_0) rfl ?_
            show Steps p.tables e below (s₁.setTop (mkF m 1 #[.val (.long vq), .second, .val (.int vn), .val (.long va), .second, .val (.long vb), .second, .val (.long vd), .second] [(.int vn)])) _
            refine XS.ifYes X0.here hx rfl (pc0 := 1) (pc' := 12) rfl (hb hby d12_1) rfl (XT.i0_le_t hn0) (by decide) (by decide) ?_
            show Steps p.tables e below (s₁.setTop (mkF m 12 #[.val (.long vq), .second, .val (.int vn), .val (.long va), .second, .val (.long vb), .second, .val (.long vd), .second] [])) _
            refine XS.iloadN X0.here hx rfl (hb hby d12_12) rfl ?_
            show Steps p.tables e below (s₁.setTop (mkF m 13 #[.val (.long vq), .second, .val (.int vn), .val (.long va), .second, .val (.long vb), .second, .val (.long vd), .second] [(.int vn)])) _
            refine XS.iconst X0.here hx rfl (hb hby d12_13) ?_
            show Steps p.tables e below (s₁.setTop (mkF m 14 #[.val (.long vq), .second, .val (.int vn), .val (.long va), .second, .val (.long vb), .second, .val (.long vd), .second] [(.int (1 : Int32)), (.int vn)])) _
            refine XS.icmpYes X0.here hx rfl (pc0 := 14) (pc' := 26) rfl (hb hby d12_14) rfl (XT.ii_le_t hn1) (by decide) (by decide) ?_
            show Steps p.tables e below (s₁.setTop (mkF m 26 #[.val (.long vq), .second, .val (.int vn), .val (.long va), .second, .val (.long vb), .second, .val (.long vd), .second] [])) _
            refine XS.iloadN X0.here hx rfl (hb hby d12_26) rfl ?_
            show Steps p.tables e below (s₁.setTop (mkF m 27 #[.val (.long vq), .second, .val (.int vn), .val (.long va), .second, .val (.long vb), .second, .val (.long vd), .second] [(.int vn)])) _
            refine XS.iconst X0.here hx rfl (hb hby d12_27) ?_
            show Steps p.tables e below (s₁.setTop (mkF m 28 #[.val (.long vq), .second, .val (.int vn), .val (.long va), .second, .val (.long vb), .second, .val (.long vd), .second] [(.int (2 : Int32)), (.int vn)])) _
            refine XS.icmpNo X0.here hx rfl (hb hby d12_28) rfl (XT.ii_le_f hn2) ?_
            show Steps p.tables e below (s₁.setTop (mkF m 31 #[.val (.long vq), .second, .val (.int vn), .val (.long va), .second, .val (.long vb), .second, .val (.long vd), .second] [])) _
            refine XT.lloadN X0.here hx rfl (hb hby d12_31) rfl ?_
            show Steps p.tables e below (s₁.setTop (mkF m 32 #[.val (.long vq), .second, .val (.int vn), .val (.long va), .second, .val (.long vb), .second, .val (.long vd), .second] [(.long vq)])) _
            refine XT.lload X0.here hx rfl (hb hby d12_32) rfl ?_
            show Steps p.tables e below (s₁.setTop (mkF m 34 #[.val (.long vq), .second, .val (.int vn), .val (.long va), .second, .val (.long vb), .second, .val (.long vd), .second] [(.long vd), (.long vq)])) _
            refine XT.lcmp X0.here hx rfl (hb hby d12_34) rfl ?_
            show Steps p.tables e below (s₁.setTop (mkF m 35 #[.val (.long vq), .second, .val (.int vn), .val (.long va), .second, .val (.long vb), .second, .val (.long vd), .second] [(.int (XT.cmpL vq vd))])) _
            refine XS.ifNo X0.here hx rfl (hb hby d12_35) rfl (XT.ll_ne_f hed) ?_
            show Steps p.tables e below (s₁.setTop (mkF m 38 #[.val (.long vq), .second, .val (.int vn), .val (.long va), .second, .val (.long vb), .second, .val (.long vd), .second] [])) _
            refine XS.iconst X0.here hx rfl (hb hby d12_38) ?_
            show Steps p.tables e below (s₁.setTop (mkF m 39 #[.val (.long vq), .second, .val (.int vn), .val (.long va), .second, .val (.long vb), .second, .val (.long vd), .second] [(.int (2 : Int32))])) _
            exact retI X0 hx Bd.returns (hb hby d12_39) hr
          · show Q_own_ixm Z vq vn va vb vd  h0 n0 _ s₁.heap _
            rw [e0]
            exact ⟨by unfold own_idx; rw [if_neg (fun z => hn0 z.1), if_neg (fun z => hn1 z.1), if_pos ⟨hn2, hed⟩], N0, rfl⟩
        · obtain ⟨fs, hr, hrun, hended, hW, hsame⟩ := X0.leave (v := some (.int (-1 : Int32))) (fun h => by rw [Bd.returns] at h; cases h)
          refine ⟨_, _, pre0 _ ?_, hrun, hended, _, _, rfl, ?_, ⟨_, rfl⟩, hW, hsame.mono (by decide) (by decide)⟩
          · show Steps p.tables e below (s₁.setTop (mkF m 0 #[.val (.long vq), .second, .val (.int vn), .val (.long va), .second, .val (.long vb), .second, .val (.long vd), .second] [])) _
            refine XS.iloadN X0.here hx rfl (hb hby d12_0) rfl ?_
            show Steps p.tables e below (s₁.setTop (mkF m 1 #[.val (.long vq), .second, .val (.int vn), .val (.long va), .second, .val (.long vb), .second, .val (.long vd), .second] [(.int vn)])) _
            refine XS.ifYes X0.here hx rfl (pc0 := 1) (pc' := 12) rfl (hb hby d12_1) rfl (XT.i0_le_t hn0) (by decide) (by decide) ?_
            show Steps p.tables e below (s₁.setTop (mkF m 12 #[.val (.long vq), .second, .val (.int vn), .val (.long va), .second, .val (.long vb), .second, .val (.long vd), .second] [])) _
            refine XS.iloadN X0.here hx rfl (hb hby d12_12) rfl ?_
            show Steps p.tables e below (s₁.setTop (mkF m 13 #[.val (.long vq), .second, .val (.int vn), .val (.long va), .second, .val (.long vb), .second, .val (.long vd), .second] [(.int vn)])) _
            refine XS.iconst X0.here hx rfl (hb hby d12_13) ?_
            show Steps p.tables e below (s₁.setTop (mkF m 14 #[.val (.long vq), .second, .val (.int vn), .val (.long va), .second, .val (.long vb), .second, .val (.long vd), .second] [(.int (1 : Int32)), (.int vn)])) _
            refine XS.icmpYes X0.here hx rfl (pc0 := 14) (pc' := 26) rfl (hb hby d12_14) rfl (XT.ii_le_t hn1) (by decide) (by decide) ?_
            show Steps p.tables e below (s₁.setTop (mkF m 26 #[.val (.long vq), .second, .val (.int vn), .val (.long va), .second, .val (.long vb), .second, .val (.long vd), .second] [])) _
            refine XS.iloadN X0.here hx rfl (hb hby d12_26) rfl ?_
            show Steps p.tables e below (s₁.setTop (mkF m 27 #[.val (.long vq), .second, .val (.int vn), .val (.long va), .second, .val (.long vb), .second, .val (.long vd), .second] [(.int vn)])) _
            refine XS.iconst X0.here hx rfl (hb hby d12_27) ?_
            show Steps p.tables e below (s₁.setTop (mkF m 28 #[.val (.long vq), .second, .val (.int vn), .val (.long va), .second, .val (.long vb), .second, .val (.long vd), .second] [(.int (2 : Int32)), (.int vn)])) _
            refine XS.icmpNo X0.here hx rfl (hb hby d12_28) rfl (XT.ii_le_f hn2) ?_
            show Steps p.tables e below (s₁.setTop (mkF m 31 #[.val (.long vq), .second, .val (.int vn), .val (.long va), .second, .val (.long vb), .second, .val (.long vd), .second] [])) _
            refine XT.lloadN X0.here hx rfl (hb hby d12_31) rfl ?_
            show Steps p.tables e below (s₁.setTop (mkF m 32 #[.val (.long vq), .second, .val (.int vn), .val (.long va), .second, .val (.long vb), .second, .val (.long vd), .second] [(.long vq)])) _
            refine XT.lload X0.here hx rfl (hb hby d12_32) rfl ?_
            show Steps p.tables e below (s₁.setTop (mkF m 34 #[.val (.long vq), .second, .val (.int vn), .val (.long va), .second, .val (.long vb), .second, .val (.long vd), .second] [(.long vd), (.long vq)])) _
            refine XT.lcmp X0.here hx rfl (hb hby d12_34) rfl ?_
            show Steps p.tables e below (s₁.setTop (mkF m 35 #[.val (.long vq), .second, .val (.int vn), .val (.long va), .second, .val (.long vb), .second, .val (.long vd), .second] [(.int (XT.cmpL vq vd))])) _
            refine XS.ifYes X0.here hx rfl (pc0 := 35) (pc' := 40) rfl (hb hby d12_35) rfl (XT.ll_ne_t hed) (by decide) (by decide) ?_
            show Steps p.tables e below (s₁.setTop (mkF m 40 #[.val (.long vq), .second, .val (.int vn), .val (.long va), .second, .val (.long vb), .second, .val (.long vd), .second] [])) _
            refine XS.iconst X0.here hx rfl (hb hby d12_40) ?_
            show Steps p.tables e below (s₁.setTop (mkF m 41 #[.val (.long vq), .second, .val (.int vn), .val (.long va), .second, .val (.long vb), .second, .val (.long vd), .second] [(.int (-1 : Int32))])) _
            exact retI X0 hx Bd.returns (hb hby d12_41) hr
          · show Q_own_ixm Z vq vn va vb vd  h0 n0 _ s₁.heap _
            rw [e0]
            exact ⟨by unfold own_idx; rw [if_neg (fun z => hn0 z.1), if_neg (fun z => hn1 z.1), if_neg (fun z => hed z.2)], N0, rfl⟩
      · obtain ⟨fs, hr, hrun, hended, hW, hsame⟩ := X0.leave (v := some (.int (-1 : Int32))) (fun h => by rw [Bd.returns] at h; cases h)
        refine ⟨_, _, pre0 _ ?_, hrun, hended, _, _, rfl, ?_, ⟨_, rfl⟩, hW, hsame.mono (by decide) (by decide)⟩
        · show Steps p.tables e below (s₁.setTop (mkF m 0 #[.val (.long vq), .second, .val (.int vn), .val (.long va), .second, .val (.long vb), .second, .val (.long vd), .second] [])) _
          refine XS.iloadN X0.here hx rfl (hb hby d12_0) rfl ?_
          show Steps p.tables e below (s₁.setTop (mkF m 1 #[.val (.long vq), .second, .val (.int vn), .val (.long va), .second, .val (.long vb), .second, .val (.long vd), .second] [(.int vn)])) _
          refine XS.ifYes X0.here hx rfl (pc0 := 1) (pc' := 12) rfl (hb hby d12_1) rfl (XT.i0_le_t hn0) (by decide) (by decide) ?_
          show Steps p.tables e below (s₁.setTop (mkF m 12 #[.val (.long vq), .second, .val (.int vn), .val (.long va), .second, .val (.long vb), .second, .val (.long vd), .second] [])) _
          refine XS.iloadN X0.here hx rfl (hb hby d12_12) rfl ?_
          show Steps p.tables e below (s₁.setTop (mkF m 13 #[.val (.long vq), .second, .val (.int vn), .val (.long va), .second, .val (.long vb), .second, .val (.long vd), .second] [(.int vn)])) _
          refine XS.iconst X0.here hx rfl (hb hby d12_13) ?_
          show Steps p.tables e below (s₁.setTop (mkF m 14 #[.val (.long vq), .second, .val (.int vn), .val (.long va), .second, .val (.long vb), .second, .val (.long vd), .second] [(.int (1 : Int32)), (.int vn)])) _
          refine XS.icmpYes X0.here hx rfl (pc0 := 14) (pc' := 26) rfl (hb hby d12_14) rfl (XT.ii_le_t hn1) (by decide) (by decide) ?_
          show Steps p.tables e below (s₁.setTop (mkF m 26 #[.val (.long vq), .second, .val (.int vn), .val (.long va), .second, .val (.long vb), .second, .val (.long vd), .second] [])) _
          refine XS.iloadN X0.here hx rfl (hb hby d12_26) rfl ?_
          show Steps p.tables e below (s₁.setTop (mkF m 27 #[.val (.long vq), .second, .val (.int vn), .val (.long va), .second, .val (.long vb), .second, .val (.long vd), .second] [(.int vn)])) _
          refine XS.iconst X0.here hx rfl (hb hby d12_27) ?_
          show Steps p.tables e below (s₁.setTop (mkF m 28 #[.val (.long vq), .second, .val (.int vn), .val (.long va), .second, .val (.long vb), .second, .val (.long vd), .second] [(.int (2 : Int32)), (.int vn)])) _
          refine XS.icmpYes X0.here hx rfl (pc0 := 28) (pc' := 40) rfl (hb hby d12_28) rfl (XT.ii_le_t hn2) (by decide) (by decide) ?_
          show Steps p.tables e below (s₁.setTop (mkF m 40 #[.val (.long vq), .second, .val (.int vn), .val (.long va), .second, .val (.long vb), .second, .val (.long vd), .second] [])) _
          refine XS.iconst X0.here hx rfl (hb hby d12_40) ?_
          show Steps p.tables e below (s₁.setTop (mkF m 41 #[.val (.long vq), .second, .val (.int vn), .val (.long va), .second, .val (.long vb), .second, .val (.long vd), .second] [(.int (-1 : Int32))])) _
          exact retI X0 hx Bd.returns (hb hby d12_41) hr
        · show Q_own_ixm Z vq vn va vb vd  h0 n0 _ s₁.heap _
          rw [e0]
          exact ⟨by unfold own_idx; rw [if_neg (fun z => hn0 z.1), if_neg (fun z => hn1 z.1), if_neg (fun z => hn2 z.1)], N0, rfl⟩
theorem d5_0 : decode prog_24_method_2_code 0 = .ok (.aload_n 0, 1) := by decide +kernel
theorem d5_1 : decode prog_24_method_2_code 1 = .ok (.invokespecial 7, 3) := by decide +kernel
theorem d5_4 : decode prog_24_method_2_code 4 = .ok (.aload_n 0, 1) := by decide +kernel
theorem d5_5 : decode prog_24_method_2_code 5 = .ok (.iconst 1, 1) := by decide +kernel
theorem d5_6 : decode prog_24_method_2_code 6 = .ok (.newarray .int, 2) := by decide +kernel
theorem d5_8 : decode prog_24_method_2_code 8 = .ok (.putfield 12, 3) := by decide +kernel
theorem d5_11 : decode prog_24_method_2_code 11 = .ok (.aload_n 0, 1) := by decide +kernel
theorem d5_12 : decode prog_24_method_2_code 12 = .ok (.iconst 1, 1) := by decide +kernel
theorem d5_13 : decode prog_24_method_2_code 13 = .ok (.iload_n 1, 1) := by decide +kernel
theorem d5_14 : decode prog_24_method_2_code 14 = .ok (.invokestatic 16, 3) := by decide +kernel
theorem d5_17 : decode prog_24_method_2_code 17 = .ok (.newarray .long, 2) := by decide +kernel
theorem d5_19 : decode prog_24_method_2_code 19 = .ok (.putfield 22, 3) := by decide +kernel
theorem d5_22 : decode prog_24_method_2_code 22 = .ok (.aload_n 0, 1) := by decide +kernel
theorem d5_23 : decode prog_24_method_2_code 23 = .ok (.aload_n 0, 1) := by decide +kernel
theorem d5_24 : decode prog_24_method_2_code 24 = .ok (.getfield 22, 3) := by decide +kernel
theorem d5_27 : decode prog_24_method_2_code 27 = .ok (.arraylength, 1) := by decide +kernel
theorem d5_28 : decode prog_24_method_2_code 28 = .ok (.newarray .double, 2) := by decide +kernel
theorem d5_30 : decode prog_24_method_2_code 30 = .ok (.putfield 26, 3) := by decide +kernel
theorem d5_33 : decode prog_24_method_2_code 33 = .ok (.return_, 1) := by decide +kernel
theorem pn_own_i1 : plainName "com/example/xml_element_search/xmlelementsearch/ElementScores" = true := by first | (simp [plainName, overriddenIn]; done) | decide +kernel
theorem ef_own_i1 (m : MethodId) (x0 : Addr) (x1 : Int32) : entryFrame m #[(.ref x0), (.int x1)] 2 = mkF m 0 #[.val (.ref x0), .val (.int x1)] [] := by first | (simp [entryFrame, mkF, argsToLocals, Value.category]; done) | rfl
def Q_own_i1 (Z : State)  (a1 : Addr) (h0 : Heap) (n0 : Nat) (v : Option Value) (h : Heap) (L : List Loc) : Prop := v = none ∧ Fr n0 L ∧ ∃ (ae as_ ar : Addr) (ke ks kr : ClassId), (n0 ≤ ar ∧ a1 < ar ∧ ar < ae ∧ ae < as_) ∧ Exa Z h a1 "com/example/xml_element_search/xmlelementsearch/ElementScores" ∧ Fld Z h a1 "com/example/xml_element_search/xmlelementsearch/ElementScores" "elements" "[J" (.ref ae) ∧ Fld Z h a1 "com/example/xml_element_search/xmlelementsearch/ElementScores" "scores" "[D" (.ref as_) ∧ Fld Z h a1 "com/example/xml_element_search/xmlelementsearch/ElementScores" "size" "I" (.int (0 : Int32)) ∧ Fld Z h a1 "com/example/xml_element_search/xmlelementsearch/ElementScores" "runStarts" "[I" (.ref ar) ∧ Fld Z h a1 "com/example/xml_element_search/xmlelementsearch/ElementScores" "runs" "I" (.int (0 : Int32)) ∧ Arf Z h ae ke .long 8 (fun _ => Value.long 0) ∧ Arf Z h as_ ks .double 8 (fun _ => Value.double 0) ∧ Arf Z h ar kr .int 1 (fun _ => Value.int 0)
set_option maxRecDepth 65536 in
set_option maxHeartbeats 40000000 in
theorem own_i1 (l : Launch) (Z : State) (a0 : Array Value) (hw : ∀ d ∈ tables_1, d.before a0 Z = true) (ws : List Jvm.Cond)  (a1 : Addr) (h0 : Heap) (n0 : Nat) (Z0 : n0 ≤ h0.size) (E_ : Exa Z h0 a1 "com/example/xml_element_search/xmlelementsearch/ElementScores") (F_e : Fld Z h0 a1 "com/example/xml_element_search/xmlelementsearch/ElementScores" "elements" "[J" .null) (F_s : Fld Z h0 a1 "com/example/xml_element_search/xmlelementsearch/ElementScores" "scores" "[D" .null) (F_n : Fld Z h0 a1 "com/example/xml_element_search/xmlelementsearch/ElementScores" "size" "I" (.int (0 : Int32))) (F_r : Fld Z h0 a1 "com/example/xml_element_search/xmlelementsearch/ElementScores" "runStarts" "[I" .null) (F_u : Fld Z h0 a1 "com/example/xml_element_search/xmlelementsearch/ElementScores" "runs" "I" (.int (0 : Int32))) (g_a1 : n0 ≤ a1) :
    MetFree l (⟨"com/example/xml_element_search/xmlelementsearch/ElementScores", "<init>", "(I)V"⟩ : MethodName) (head1 (Jvm.Cond.code (⟨"com/example/xml_element_search/xmlelementsearch/ElementScores", "<init>", "(I)V"⟩ : MethodName) prog_24_method_2_code 2 none :: ws) ({ frames := 1, cells := 3, slots := 17, locals := 14 } : Room)) (fun a U => a = #[(.ref a1), (.int (8 : Int32))] ∧ Z.Warmed39 U.vm ∧ U.heap = h0) (fun _ _ _ _ _ => True) (fun _ U o U' => ∃ v L, o = .returned v ∧ Q_own_i1 Z  a1 h0 n0 v U'.heap L ∧ FrameEnd U o U' L ({ frames := 1, cells := 3, slots := 17, locals := 14 } : Room).cells ({ frames := 1, cells := 3, slots := 17, locals := 14 } : Room).slots) := by
  refine MetFree.of_bodySF (plainFor_of_name pn_own_i1) hisR ?_
  intro p e s m args below meth c s₁ Bd hml0 hP hK
  obtain ⟨rfl, hZ, hh⟩ := hP
  have hx := Bd.exec
  have hby := Bd.bytes
  have hml : c.maxLocals = 2 := hml0
  have hown : s.vm.findClass "com/example/xml_element_search/xmlelementsearch/ElementScores" = some m.cls := findClass_of_methodNamed Bd.named
  have hnm := (name_of_methodNamed Bd.named Bd.method).1
  have X0 : Stand p l e ({ frames := 1, cells := 3, slots := 17, locals := 14 } : Room) s m #[(.ref a1), (.int (8 : Int32))] below meth c s₁ [] 0 0 := Stand.of_body Bd
  have e0 : s₁.heap = h0 := by rw [← hh, Bd.state]; rfl
  have N0 := Fr.nil n0
  have pre0 : ∀ t, Steps p.tables e below (s₁.setTop (mkF m 0 #[.val (.ref a1), .val (.int (8 : Int32))] [])) t → Steps p.tables e below (s₁.setTop (entryFrame m #[(.ref a1), (.int (8 : Int32))] 2)) t := fun t k => castTop (ef_own_i1 m (a1) ((8 : Int32))) k
  obtain ⟨T21, X21, e21, st21⟩ := initO X0 hx hZ hown (hw _ (List.mem_of_getElem? (i := 20) rfl)) (hw _ (List.mem_of_getElem? (i := 21) rfl)) (hw _ (List.mem_of_getElem? (i := 22) rfl)) e0 (g := (mkF m 1 #[.val (.ref a1), .val (.int (8 : Int32))] [(.ref a1)])) rfl (by rw [hml]; rfl) rfl (hb hby d5_1) (by decide) (W := 0) (by show 2 * 0 + _ ≤ _; exact Nat.le_of_eq rfl) (by decide)
  obtain ⟨T22, h22, k22, X22, e22, E22, A22, st22⟩ := newP X21 hx hZ (hw _ (List.mem_of_getElem? (i := 23) rfl)) e21 (g := (mkF m 6 #[.val (.ref a1), .val (.int (8 : Int32))] [(.int (1 : Int32)), (.ref a1)])) rfl (hb hby d5_6) rfl (by decide) (cap := 1) (by decide) (by decide) (by decide) (by decide)
  obtain ⟨b22, g22⟩ : ∃ z, z = h0.size := ⟨_, rfl⟩
  rw [← g22] at A22 st22
  have g_b22 : n0 ≤ b22 := Nat.le_trans Z0 (Nat.le_of_eq g22.symm)
  have lt_a1_b22 : a1 < b22 := Nat.lt_of_lt_of_eq E_.lt g22.symm
  have V22 := Arf.new (n := 1) A22 (by decide) rfl
  obtain ⟨T23, h23, X23, e23, W23, st23⟩ := putF X22 hx hZ hown (host := "") (Or.inl (hw _ (List.mem_of_getElem? (i := 24) rfl))) Via.refl e22 (F_r.ext E22) (E_.ext E22) (Or.inl (hw _ (List.mem_of_getElem? (i := 25) rfl))) (hw _ (List.mem_of_getElem? (i := 12) rfl)) (ty := (.array .int)) (by decide) rfl rfl (g := (mkF m 8 #[.val (.ref a1), .val (.int (8 : Int32))] [(.ref b22), (.ref a1)])) rfl rfl (hb hby d5_8)
  have Fw23 := (F_r.ext E22).same W23
  have N23 := Fr.snoc X23 N0 g_a1
  obtain ⟨_, _, ⟨T24, L24, k24, n24⟩, -, X24, ⟨Lc24, hQ24, l24, y24, z24⟩, st24⟩ := Jvm.LawKit.callS X23 hx (y := (⟨"java/lang/Math", "max", "(II)I"⟩ : MethodName)) hown (mvT hZ (hw _ (List.mem_of_getElem? (i := 26) rfl))) (mvT hZ (hw _ (List.mem_of_getElem? (i := 27) rfl))) (mvT hZ (hw _ (List.mem_of_getElem? (i := 2) rfl))) (mvT hZ (hw _ (List.mem_of_getElem? (i := 28) rfl))) (by decide) (backOf (W := 1) (own_maxI l Z a0 hw [] (1 : Int32) (8 : Int32) h23 n0 (Nat.le_trans (Nat.le_trans Z0 E22.1) (Keep.of_wr W23).1) ) hZ (hw _ (List.mem_of_getElem? (i := 28) rfl)) (hw _ (List.mem_of_getElem? (i := 2) rfl)) (by decide) (by decide)) (g := (mkF m 14 #[.val (.ref a1), .val (.int (8 : Int32))] [(.int (8 : Int32)), (.int (1 : Int32)), (.ref a1)])) rfl (by rw [hml]; rfl) (argsL := [(.int (1 : Int32)), (.int (8 : Int32))]) (rest := [(.ref a1)]) (lenOf pd_0 rfl) rfl (by show 2 * 0 + _ ≤ _; exact Nat.le_of_eq rfl) (hb hby d5_14) (fun _ _ => ⟨rfl, e23, (by decide : 1 + 0 ≤ _), (by decide : 1 + 0 ≤ _)⟩)
  dsimp only [Pt.U, Pt.locs, Pt.cells, Pt.slots] at X24 l24 y24 z24 st24 hQ24
  subst l24 y24 z24
  obtain ⟨rfl, N24q, eh24⟩ := hQ24
  have N24 := Fr.app N23 N24q
  obtain ⟨T25, h25, k25, X25, e25, E25, A25, st25⟩ := newP X24 hx hZ (hw _ (List.mem_of_getElem? (i := 29) rfl)) eh24 (g := (mkF m 17 #[.val (.ref a1), .val (.int (8 : Int32))] [(.int (8 : Int32)), (.ref a1)])) rfl (hb hby d5_17) rfl (by decide) (cap := 8) (by decide) (by decide) (by decide) (by decide)
  obtain ⟨b25, g25⟩ : ∃ z, z = h23.size := ⟨_, rfl⟩
  rw [← g25] at A25 st25
  have g_b25 : n0 ≤ b25 := Nat.le_trans (Nat.le_trans (Nat.le_trans Z0 E22.1) (Keep.of_wr W23).1) (Nat.le_of_eq g25.symm)
  have lt_a1_b25 : a1 < b25 := Nat.lt_of_lt_of_eq ((E_.ext E22).wr W23).lt g25.symm
  have lt_b22_b25 : b22 < b25 := Nat.lt_of_lt_of_eq (V22.other W23 (Ne.symm (Nat.ne_of_lt lt_a1_b22))).lt g25.symm
  have V25 := Arf.new (n := 8) A25 (by decide) rfl
  obtain ⟨T26, h26, X26, e26, W26, st26⟩ := putF X25 hx hZ hown (host := "") (Or.inl (hw _ (List.mem_of_getElem? (i := 30) rfl))) Via.refl e25 (((F_e.ext E22).other W23 (Or.inr (slot_ne (Or.inl (hw _ (List.mem_of_getElem? (i := 31) rfl))) (Or.inl (hw _ (List.mem_of_getElem? (i := 25) rfl))) (by decide) (t := (.array .long)) (t' := (.array .int)) (by decide) (by decide)))).ext E25) (((E_.ext E22).wr W23).ext E25) (Or.inl (hw _ (List.mem_of_getElem? (i := 31) rfl))) (hw _ (List.mem_of_getElem? (i := 12) rfl)) (ty := (.array .long)) (by decide) rfl rfl (g := (mkF m 19 #[.val (.ref a1), .val (.int (8 : Int32))] [(.ref b25), (.ref a1)])) rfl rfl (hb hby d5_19)
  have Fw26 := (((F_e.ext E22).other W23 (Or.inr (slot_ne (Or.inl (hw _ (List.mem_of_getElem? (i := 31) rfl))) (Or.inl (hw _ (List.mem_of_getElem? (i := 25) rfl))) (by decide) (t := (.array .long)) (t' := (.array .int)) (by decide) (by decide)))).ext E25).same W26
  have N26 := Fr.snoc X26 N24 g_a1
  obtain ⟨T27, X27, e27, st27⟩ := getF X26 hx hZ hown (host := "") (Or.inl (hw _ (List.mem_of_getElem? (i := 30) rfl))) Via.refl e26 Fw26 (g := (mkF m 24 #[.val (.ref a1), .val (.int (8 : Int32))] [(.ref a1), (.ref a1)])) rfl rfl (hb hby d5_24)
  obtain ⟨cl28, Ar28, qk28, S28, B28, H28, G28⟩ := id (V25.other W26 (Ne.symm (Nat.ne_of_lt lt_a1_b25)))
  obtain ⟨T29, h29, k29, X29, e29, E29, A29, st29⟩ := newP X27 hx hZ (hw _ (List.mem_of_getElem? (i := 32) rfl)) e27 (g := (mkF m 28 #[.val (.ref a1), .val (.int (8 : Int32))] [(.int (8 : Int32)), (.ref a1)])) rfl (hb hby d5_28) rfl (by decide) (cap := 8) (by decide) (by decide) (by decide) (by decide)
  obtain ⟨b29, g29⟩ : ∃ z, z = h26.size := ⟨_, rfl⟩
  rw [← g29] at A29 st29
  have g_b29 : n0 ≤ b29 := Nat.le_trans (Nat.le_trans (Nat.le_trans (Nat.le_trans (Nat.le_trans Z0 E22.1) (Keep.of_wr W23).1) E25.1) (Keep.of_wr W26).1) (Nat.le_of_eq g29.symm)
  have lt_a1_b29 : a1 < b29 := Nat.lt_of_lt_of_eq ((((E_.ext E22).wr W23).ext E25).wr W26).lt g29.symm
  have lt_b22_b29 : b22 < b29 := Nat.lt_of_lt_of_eq (((V22.other W23 (Ne.symm (Nat.ne_of_lt lt_a1_b22))).ext E25).other W26 (Ne.symm (Nat.ne_of_lt lt_a1_b22))).lt g29.symm
  have lt_b25_b29 : b25 < b29 := Nat.lt_of_lt_of_eq (V25.other W26 (Ne.symm (Nat.ne_of_lt lt_a1_b25))).lt g29.symm
  have V29 := Arf.new (n := 8) A29 (by decide) rfl
  obtain ⟨T30, h30, X30, e30, W30, st30⟩ := putF X29 hx hZ hown (host := "") (Or.inl (hw _ (List.mem_of_getElem? (i := 33) rfl))) Via.refl e29 (((((F_s.ext E22).other W23 (Or.inr (slot_ne (Or.inl (hw _ (List.mem_of_getElem? (i := 34) rfl))) (Or.inl (hw _ (List.mem_of_getElem? (i := 25) rfl))) (by decide) (t := (.array .double)) (t' := (.array .int)) (by decide) (by decide)))).ext E25).other W26 (Or.inr (slot_ne (Or.inl (hw _ (List.mem_of_getElem? (i := 34) rfl))) (Or.inl (hw _ (List.mem_of_getElem? (i := 31) rfl))) (by decide) (t := (.array .double)) (t' := (.array .long)) (by decide) (by decide)))).ext E29) (((((E_.ext E22).wr W23).ext E25).wr W26).ext E29) (Or.inl (hw _ (List.mem_of_getElem? (i := 34) rfl))) (hw _ (List.mem_of_getElem? (i := 12) rfl)) (ty := (.array .double)) (by decide) rfl rfl (g := (mkF m 30 #[.val (.ref a1), .val (.int (8 : Int32))] [(.ref b29), (.ref a1)])) rfl rfl (hb hby d5_30)
  have Fw30 := (((((F_s.ext E22).other W23 (Or.inr (slot_ne (Or.inl (hw _ (List.mem_of_getElem? (i := 34) rfl))) (Or.inl (hw _ (List.mem_of_getElem? (i := 25) rfl))) (by decide) (t := (.array .double)) (t' := (.array .int)) (by decide) (by decide)))).ext E25).other W26 (Or.inr (slot_ne (Or.inl (hw _ (List.mem_of_getElem? (i := 34) rfl))) (Or.inl (hw _ (List.mem_of_getElem? (i := 31) rfl))) (by decide) (t := (.array .double)) (t' := (.array .long)) (by decide) (by decide)))).ext E29).same W30
  have N30 := Fr.snoc X30 N26 g_a1
  obtain ⟨fs, hr, hrun, hended, hW, hsame⟩ := X30.leave (v := none) (fun _ => rfl)
  refine ⟨_, _, pre0 _ ?_, hrun, hended, _, _, rfl, ?_, ⟨_, rfl⟩, hW, hsame.mono (by decide) (by decide)⟩
  · show Steps p.tables e below (s₁.setTop (mkF m 0 #[.val (.ref a1), .val (.int (8 : Int32))] [])) _
    refine XS.aloadN X0.here hx rfl (hb hby d5_0) rfl rfl ?_
    show Steps p.tables e below (s₁.setTop (mkF m 1 #[.val (.ref a1), .val (.int (8 : Int32))] [(.ref a1)])) _
    refine st21 _ ?_
    show Steps p.tables e below (T21.setTop (mkF m 4 #[.val (.ref a1), .val (.int (8 : Int32))] [])) _
    refine XS.aloadN X21.here hx rfl (hb hby d5_4) rfl rfl ?_
    show Steps p.tables e below (T21.setTop (mkF m 5 #[.val (.ref a1), .val (.int (8 : Int32))] [(.ref a1)])) _
    refine XS.iconst X21.here hx rfl (hb hby d5_5) ?_
    show Steps p.tables e below (T21.setTop (mkF m 6 #[.val (.ref a1), .val (.int (8 : Int32))] [(.int (1 : Int32)), (.ref a1)])) _
    refine st22 _ ?_
    show Steps p.tables e below (T22.setTop (mkF m 8 #[.val (.ref a1), .val (.int (8 : Int32))] [(.ref b22), (.ref a1)])) _
    refine st23 _ ?_
    show Steps p.tables e below (T23.setTop (mkF m 11 #[.val (.ref a1), .val (.int (8 : Int32))] [])) _
    refine XS.aloadN X23.here hx rfl (hb hby d5_11) rfl rfl ?_
    show Steps p.tables e below (T23.setTop (mkF m 12 #[.val (.ref a1), .val (.int (8 : Int32))] [(.ref a1)])) _
    refine XS.iconst X23.here hx rfl (hb hby d5_12) ?_
    show Steps p.tables e below (T23.setTop (mkF m 13 #[.val (.ref a1), .val (.int (8 : Int32))] [(.int (1 : Int32)), (.ref a1)])) _
    refine XS.iloadN X23.here hx rfl (hb hby d5_13) rfl ?_
    show Steps p.tables e below (T23.setTop (mkF m 14 #[.val (.ref a1), .val (.int (8 : Int32))] [(.int (8 : Int32)), (.int (1 : Int32)), (.ref a1)])) _
    refine st24 _ ?_
    show Steps p.tables e below (T24.setTop (mkF m 17 #[.val (.ref a1), .val (.int (8 : Int32))] [(.int (8 : Int32)), (.ref a1)])) _
    refine st25 _ ?_
    show Steps p.tables e below (T25.setTop (mkF m 19 #[.val (.ref a1), .val (.int (8 : Int32))] [(.ref b25), (.ref a1)])) _
    refine st26 _ ?_
    show Steps p.tables e below (T26.setTop (mkF m 22 #[.val (.ref a1), .val (.int (8 : Int32))] [])) _
    refine XS.aloadN X26.here hx rfl (hb hby d5_22) rfl rfl ?_
    show Steps p.tables e below (T26.setTop (mkF m 23 #[.val (.ref a1), .val (.int (8 : Int32))] [(.ref a1)])) _
    refine XS.aloadN X26.here hx rfl (hb hby d5_23) rfl rfl ?_
    show Steps p.tables e below (T26.setTop (mkF m 24 #[.val (.ref a1), .val (.int (8 : Int32))] [(.ref a1), (.ref a1)])) _
    refine st27 _ ?_
    show Steps p.tables e below (T27.setTop (mkF m 27 #[.val (.ref a1), .val (.int (8 : Int32))] [(.ref b25), (.ref a1)])) _
    refine X27.arraylength hx (by rw [e27]; exact Ar28.1) (State.isArrayOf_alike hZ.alike Ar28.2.1) (g := (mkF m 27 #[.val (.ref a1), .val (.int (8 : Int32))] [(.ref b25), (.ref a1)])) rfl rfl (hb hby d5_27) _ ?_
    rw [S28]
    show Steps p.tables e below (T27.setTop (mkF m 28 #[.val (.ref a1), .val (.int (8 : Int32))] [(.int (8 : Int32)), (.ref a1)])) _
    refine st29 _ ?_
    show Steps p.tables e below (T29.setTop (mkF m 30 #[.val (.ref a1), .val (.int (8 : Int32))] [(.ref b29), (.ref a1)])) _
    refine st30 _ ?_
    show Steps p.tables e below (T30.setTop (mkF m 33 #[.val (.ref a1), .val (.int (8 : Int32))] [])) _
    exact X30.returnOut hx Bd.returns (hb hby d5_33) hr
  · show Q_own_i1 Z  a1 h0 n0 _ T30.heap _
    rw [e30]
    exact ⟨rfl, N30, b25, b29, b22, k25, k29, k22, ⟨g_b22, lt_a1_b22, lt_b22_b25, lt_b25_b29⟩, ((((((E_.ext E22).wr W23).ext E25).wr W26).ext E29).wr W30), ((Fw26.ext E29).other W30 (Or.inr (slot_ne (Or.inl (hw _ (List.mem_of_getElem? (i := 31) rfl))) (Or.inl (hw _ (List.mem_of_getElem? (i := 34) rfl))) (by decide) (t := (.array .long)) (t' := (.array .double)) (by decide) (by decide)))), Fw30, ((((((F_n.ext E22).other W23 (Or.inr (slot_ne (Or.inl (hw _ (List.mem_of_getElem? (i := 41) rfl))) (Or.inl (hw _ (List.mem_of_getElem? (i := 25) rfl))) (by decide) (t := .int) (t' := (.array .int)) (by decide) (by decide)))).ext E25).other W26 (Or.inr (slot_ne (Or.inl (hw _ (List.mem_of_getElem? (i := 41) rfl))) (Or.inl (hw _ (List.mem_of_getElem? (i := 31) rfl))) (by decide) (t := .int) (t' := (.array .long)) (by decide) (by decide)))).ext E29).other W30 (Or.inr (slot_ne (Or.inl (hw _ (List.mem_of_getElem? (i := 41) rfl))) (Or.inl (hw _ (List.mem_of_getElem? (i := 34) rfl))) (by decide) (t := .int) (t' := (.array .double)) (by decide) (by decide)))), ((((Fw23.ext E25).other W26 (Or.inr (slot_ne (Or.inl (hw _ (List.mem_of_getElem? (i := 25) rfl))) (Or.inl (hw _ (List.mem_of_getElem? (i := 31) rfl))) (by decide) (t := (.array .int)) (t' := (.array .long)) (by decide) (by decide)))).ext E29).other W30 (Or.inr (slot_ne (Or.inl (hw _ (List.mem_of_getElem? (i := 25) rfl))) (Or.inl (hw _ (List.mem_of_getElem? (i := 34) rfl))) (by decide) (t := (.array .int)) (t' := (.array .double)) (by decide) (by decide)))), ((((((F_u.ext E22).other W23 (Or.inr (slot_ne (Or.inl (hw _ (List.mem_of_getElem? (i := 43) rfl))) (Or.inl (hw _ (List.mem_of_getElem? (i := 25) rfl))) (by decide) (t := .int) (t' := (.array .int)) (by decide) (by decide)))).ext E25).other W26 (Or.inr (slot_ne (Or.inl (hw _ (List.mem_of_getElem? (i := 43) rfl))) (Or.inl (hw _ (List.mem_of_getElem? (i := 31) rfl))) (by decide) (t := .int) (t' := (.array .long)) (by decide) (by decide)))).ext E29).other W30 (Or.inr (slot_ne (Or.inl (hw _ (List.mem_of_getElem? (i := 43) rfl))) (Or.inl (hw _ (List.mem_of_getElem? (i := 34) rfl))) (by decide) (t := .int) (t' := (.array .double)) (by decide) (by decide)))), (((V25.other W26 (Ne.symm (Nat.ne_of_lt lt_a1_b25))).ext E29).other W30 (Ne.symm (Nat.ne_of_lt lt_a1_b25))), (V29.other W30 (Ne.symm (Nat.ne_of_lt lt_a1_b29))), (((((V22.other W23 (Ne.symm (Nat.ne_of_lt lt_a1_b22))).ext E25).other W26 (Ne.symm (Nat.ne_of_lt lt_a1_b22))).ext E29).other W30 (Ne.symm (Nat.ne_of_lt lt_a1_b22)))⟩
theorem d4_0 : decode prog_24_method_1_code 0 = .ok (.aload_n 0, 1) := by decide +kernel
theorem d4_1 : decode prog_24_method_1_code 1 = .ok (.bipush 8, 2) := by decide +kernel
theorem d4_3 : decode prog_24_method_1_code 3 = .ok (.invokespecial 1, 3) := by decide +kernel
theorem d4_6 : decode prog_24_method_1_code 6 = .ok (.return_, 1) := by decide +kernel
theorem pn_own_i0 : plainName "com/example/xml_element_search/xmlelementsearch/ElementScores" = true := by first | (simp [plainName, overriddenIn]; done) | decide +kernel
theorem ef_own_i0 (m : MethodId) (x0 : Addr) : entryFrame m #[(.ref x0)] 1 = mkF m 0 #[.val (.ref x0)] [] := by first | (simp [entryFrame, mkF, argsToLocals, Value.category]; done) | rfl
def Q_own_i0 (Z : State) (a1 : Addr)  (h0 : Heap) (n0 : Nat) (v : Option Value) (h : Heap) (L : List Loc) : Prop := v = none ∧ Fr n0 L ∧ ∃ (ae as_ ar : Addr) (ke ks kr : ClassId), (n0 ≤ ar ∧ a1 < ar ∧ ar < ae ∧ ae < as_) ∧ Exa Z h a1 "com/example/xml_element_search/xmlelementsearch/ElementScores" ∧ Fld Z h a1 "com/example/xml_element_search/xmlelementsearch/ElementScores" "elements" "[J" (.ref ae) ∧ Fld Z h a1 "com/example/xml_element_search/xmlelementsearch/ElementScores" "scores" "[D" (.ref as_) ∧ Fld Z h a1 "com/example/xml_element_search/xmlelementsearch/ElementScores" "size" "I" (.int (0 : Int32)) ∧ Fld Z h a1 "com/example/xml_element_search/xmlelementsearch/ElementScores" "runStarts" "[I" (.ref ar) ∧ Fld Z h a1 "com/example/xml_element_search/xmlelementsearch/ElementScores" "runs" "I" (.int (0 : Int32)) ∧ Arf Z h ae ke .long 8 (fun _ => Value.long 0) ∧ Arf Z h as_ ks .double 8 (fun _ => Value.double 0) ∧ Arf Z h ar kr .int 1 (fun _ => Value.int 0)
set_option maxRecDepth 65536 in
set_option maxHeartbeats 40000000 in
theorem own_i0 (l : Launch) (Z : State) (a0 : Array Value) (hw : ∀ d ∈ tables_1, d.before a0 Z = true) (ws : List Jvm.Cond) (a1 : Addr)  (h0 : Heap) (n0 : Nat) (Z0 : n0 ≤ h0.size) (E_ : Exa Z h0 a1 "com/example/xml_element_search/xmlelementsearch/ElementScores") (F_e : Fld Z h0 a1 "com/example/xml_element_search/xmlelementsearch/ElementScores" "elements" "[J" .null) (F_s : Fld Z h0 a1 "com/example/xml_element_search/xmlelementsearch/ElementScores" "scores" "[D" .null) (F_n : Fld Z h0 a1 "com/example/xml_element_search/xmlelementsearch/ElementScores" "size" "I" (.int (0 : Int32))) (F_r : Fld Z h0 a1 "com/example/xml_element_search/xmlelementsearch/ElementScores" "runStarts" "[I" .null) (F_u : Fld Z h0 a1 "com/example/xml_element_search/xmlelementsearch/ElementScores" "runs" "I" (.int (0 : Int32))) (g_a1 : n0 ≤ a1) :
    MetFree l (⟨"com/example/xml_element_search/xmlelementsearch/ElementScores", "<init>", "()V"⟩ : MethodName) (head1 (Jvm.Cond.code (⟨"com/example/xml_element_search/xmlelementsearch/ElementScores", "<init>", "()V"⟩ : MethodName) prog_24_method_1_code 1 none :: ws) ({ frames := 2, cells := 3, slots := 17, locals := 27 } : Room)) (fun a U => a = #[(.ref a1)] ∧ Z.Warmed39 U.vm ∧ U.heap = h0) (fun _ _ _ _ _ => True) (fun _ U o U' => ∃ v L, o = .returned v ∧ Q_own_i0 Z a1  h0 n0 v U'.heap L ∧ FrameEnd U o U' L ({ frames := 2, cells := 3, slots := 17, locals := 27 } : Room).cells ({ frames := 2, cells := 3, slots := 17, locals := 27 } : Room).slots) := by
  refine MetFree.of_bodySF (plainFor_of_name pn_own_i0) hisR ?_
  intro p e s m args below meth c s₁ Bd hml0 hP hK
  obtain ⟨rfl, hZ, hh⟩ := hP
  have hx := Bd.exec
  have hby := Bd.bytes
  have hml : c.maxLocals = 1 := hml0
  have hown : s.vm.findClass "com/example/xml_element_search/xmlelementsearch/ElementScores" = some m.cls := findClass_of_methodNamed Bd.named
  have hnm := (name_of_methodNamed Bd.named Bd.method).1
  have X0 : Stand p l e ({ frames := 2, cells := 3, slots := 17, locals := 27 } : Room) s m #[(.ref a1)] below meth c s₁ [] 0 0 := Stand.of_body Bd
  have e0 : s₁.heap = h0 := by rw [← hh, Bd.state]; rfl
  have N0 := Fr.nil n0
  have pre0 : ∀ t, Steps p.tables e below (s₁.setTop (mkF m 0 #[.val (.ref a1)] [])) t → Steps p.tables e below (s₁.setTop (entryFrame m #[(.ref a1)] 1)) t := fun t k => castTop (ef_own_i0 m (a1)) k
  obtain ⟨_, _, ⟨T31, L31, k31, n31⟩, -, X31, ⟨Lc31, hQ31, l31, y31, z31⟩, st31⟩ := X0.specialBack hx (y := (⟨"com/example/xml_element_search/xmlelementsearch/ElementScores", "<init>", "(I)V"⟩ : MethodName)) rfl hown (mvT hZ (hw _ (List.mem_of_getElem? (i := 17) rfl))) (mvT hZ (hw _ (List.mem_of_getElem? (i := 18) rfl))) (mvT hZ (hw _ (List.mem_of_getElem? (i := 19) rfl))) (by decide) (backOf (W := 0) (own_i1 l Z a0 hw [] a1 h0 n0 Z0 E_ F_e F_s F_n F_r F_u g_a1) hZ (hw _ (List.mem_of_getElem? (i := 19) rfl)) (hw _ (List.mem_of_getElem? (i := 13) rfl)) (by decide) (by decide)) (g := (mkF m 3 #[.val (.ref a1)] [(.int (8 : Int32)), (.ref a1)])) rfl (by rw [hml]; rfl) (Steps.refl _) (a := a1) (argsL := [(.int (8 : Int32))]) (rest := []) (lenOf pd_1 rfl) rfl (by show 2 * 0 + _ ≤ _; exact Nat.le_of_eq rfl) (hb hby d4_3) (fun _ _ => ⟨rfl, e0, (by decide : 0 + 3 ≤ _), (by decide : 0 + 17 ≤ _)⟩)
  dsimp only [Pt.U, Pt.locs, Pt.cells, Pt.slots] at X31 l31 y31 z31 st31 hQ31
  subst l31 y31 z31
  obtain ⟨rfl, N31q, R31⟩ := hQ31
  have N31 := Fr.app N0 N31q
  obtain ⟨fs, hr, hrun, hended, hW, hsame⟩ := X31.leave (v := none) (fun _ => rfl)
  refine ⟨_, _, pre0 _ ?_, hrun, hended, _, _, rfl, ?_, ⟨_, rfl⟩, hW, hsame.mono (by decide) (by decide)⟩
  · show Steps p.tables e below (s₁.setTop (mkF m 0 #[.val (.ref a1)] [])) _
    refine XS.aloadN X0.here hx rfl (hb hby d4_0) rfl rfl ?_
    show Steps p.tables e below (s₁.setTop (mkF m 1 #[.val (.ref a1)] [(.ref a1)])) _
    refine XS.bipush X0.here hx rfl (hb hby d4_1) ?_
    show Steps p.tables e below (s₁.setTop (mkF m 3 #[.val (.ref a1)] [(.int (8 : Int32)), (.ref a1)])) _
    refine st31.trans ?_
    show Steps p.tables e below (T31.setTop (mkF m 6 #[.val (.ref a1)] [])) _
    exact X31.returnOut hx Bd.returns (hb hby d4_6) hr
  · show Q_own_i0 Z a1  h0 n0 _ T31.heap _
    exact ⟨rfl, N31, R31⟩
theorem d8_0 : decode prog_24_method_3_code 0 = .ok (.aload_n 0, 1) := by decide +kernel
theorem d8_1 : decode prog_24_method_3_code 1 = .ok (.getfield 30, 3) := by decide +kernel
theorem d8_4 : decode prog_24_method_3_code 4 = .ok (.aload_n 0, 1) := by decide +kernel
theorem d8_5 : decode prog_24_method_3_code 5 = .ok (.getfield 22, 3) := by decide +kernel
theorem d8_8 : decode prog_24_method_3_code 8 = .ok (.arraylength, 1) := by decide +kernel
theorem d8_9 : decode prog_24_method_3_code 9 = .ok (.if_icmp .ne 45, 3) := by decide +kernel
theorem d8_54 : decode prog_24_method_3_code 54 = .ok (.aload_n 0, 1) := by decide +kernel
theorem d8_55 : decode prog_24_method_3_code 55 = .ok (.getfield 30, 3) := by decide +kernel
theorem d8_58 : decode prog_24_method_3_code 58 = .ok (.ifCond .eq 19, 3) := by decide +kernel
theorem d8_61 : decode prog_24_method_3_code 61 = .ok (.aload_n 0, 1) := by decide +kernel
theorem d8_62 : decode prog_24_method_3_code 62 = .ok (.getfield 22, 3) := by decide +kernel
theorem d8_65 : decode prog_24_method_3_code 65 = .ok (.aload_n 0, 1) := by decide +kernel
theorem d8_66 : decode prog_24_method_3_code 66 = .ok (.getfield 30, 3) := by decide +kernel
theorem d8_69 : decode prog_24_method_3_code 69 = .ok (.iconst 1, 1) := by decide +kernel
theorem d8_70 : decode prog_24_method_3_code 70 = .ok (.isub, 1) := by decide +kernel
theorem d8_71 : decode prog_24_method_3_code 71 = .ok (.laload, 1) := by decide +kernel
theorem d8_72 : decode prog_24_method_3_code 72 = .ok (.lload_n 1, 1) := by decide +kernel
theorem d8_73 : decode prog_24_method_3_code 73 = .ok (.lcmp, 1) := by decide +kernel
theorem d8_74 : decode prog_24_method_3_code 74 = .ok (.ifCond .lt 52, 3) := by decide +kernel
theorem d8_77 : decode prog_24_method_3_code 77 = .ok (.aload_n 0, 1) := by decide +kernel
theorem d8_78 : decode prog_24_method_3_code 78 = .ok (.getfield 46, 3) := by decide +kernel
theorem d8_81 : decode prog_24_method_3_code 81 = .ok (.aload_n 0, 1) := by decide +kernel
theorem d8_82 : decode prog_24_method_3_code 82 = .ok (.getfield 12, 3) := by decide +kernel
theorem d8_85 : decode prog_24_method_3_code 85 = .ok (.arraylength, 1) := by decide +kernel
theorem d8_86 : decode prog_24_method_3_code 86 = .ok (.if_icmp .ne 20, 3) := by decide +kernel
theorem d8_106 : decode prog_24_method_3_code 106 = .ok (.aload_n 0, 1) := by decide +kernel
theorem d8_107 : decode prog_24_method_3_code 107 = .ok (.getfield 12, 3) := by decide +kernel
theorem d8_110 : decode prog_24_method_3_code 110 = .ok (.aload_n 0, 1) := by decide +kernel
theorem d8_111 : decode prog_24_method_3_code 111 = .ok (.dup, 1) := by decide +kernel
theorem d8_112 : decode prog_24_method_3_code 112 = .ok (.getfield 46, 3) := by decide +kernel
theorem d8_115 : decode prog_24_method_3_code 115 = .ok (.dup_x1, 1) := by decide +kernel
theorem d8_116 : decode prog_24_method_3_code 116 = .ok (.iconst 1, 1) := by decide +kernel
theorem d8_117 : decode prog_24_method_3_code 117 = .ok (.iadd, 1) := by decide +kernel
theorem d8_118 : decode prog_24_method_3_code 118 = .ok (.putfield 46, 3) := by decide +kernel
theorem d8_121 : decode prog_24_method_3_code 121 = .ok (.aload_n 0, 1) := by decide +kernel
theorem d8_122 : decode prog_24_method_3_code 122 = .ok (.getfield 30, 3) := by decide +kernel
theorem d8_125 : decode prog_24_method_3_code 125 = .ok (.iastore, 1) := by decide +kernel
theorem d8_126 : decode prog_24_method_3_code 126 = .ok (.aload_n 0, 1) := by decide +kernel
theorem d8_127 : decode prog_24_method_3_code 127 = .ok (.getfield 22, 3) := by decide +kernel
theorem d8_130 : decode prog_24_method_3_code 130 = .ok (.aload_n 0, 1) := by decide +kernel
theorem d8_131 : decode prog_24_method_3_code 131 = .ok (.getfield 30, 3) := by decide +kernel
theorem d8_134 : decode prog_24_method_3_code 134 = .ok (.lload_n 1, 1) := by decide +kernel
theorem d8_135 : decode prog_24_method_3_code 135 = .ok (.lastore, 1) := by decide +kernel
theorem d8_136 : decode prog_24_method_3_code 136 = .ok (.aload_n 0, 1) := by decide +kernel
theorem d8_137 : decode prog_24_method_3_code 137 = .ok (.getfield 26, 3) := by decide +kernel
theorem d8_140 : decode prog_24_method_3_code 140 = .ok (.aload_n 0, 1) := by decide +kernel
theorem d8_141 : decode prog_24_method_3_code 141 = .ok (.dup, 1) := by decide +kernel
theorem d8_142 : decode prog_24_method_3_code 142 = .ok (.getfield 30, 3) := by decide +kernel
theorem d8_145 : decode prog_24_method_3_code 145 = .ok (.dup_x1, 1) := by decide +kernel
theorem d8_146 : decode prog_24_method_3_code 146 = .ok (.iconst 1, 1) := by decide +kernel
theorem d8_147 : decode prog_24_method_3_code 147 = .ok (.iadd, 1) := by decide +kernel
theorem d8_148 : decode prog_24_method_3_code 148 = .ok (.putfield 30, 3) := by decide +kernel
theorem d8_151 : decode prog_24_method_3_code 151 = .ok (.dload_n 3, 1) := by decide +kernel
theorem d8_152 : decode prog_24_method_3_code 152 = .ok (.dastore, 1) := by decide +kernel
theorem d8_153 : decode prog_24_method_3_code 153 = .ok (.return_, 1) := by decide +kernel
theorem pn_own_add0 : plainName "com/example/xml_element_search/xmlelementsearch/ElementScores" = true := by first | (simp [plainName, overriddenIn]; done) | decide +kernel
theorem ef_own_add0 (m : MethodId) (x0 : Addr) (x1 : Int64) (x2 : UInt64) : entryFrame m #[(.ref x0), (.long x1), (.double x2)] 5 = mkF m 0 #[.val (.ref x0), .val (.long x1), .second, .val (.double x2), .second] [] := by first | (simp [entryFrame, mkF, argsToLocals, Value.category]; done) | rfl
def Q_own_add0 (Z : State) (a1 : Addr) (q1 : Int64) (d1 : UInt64) (ae : Addr) (as_ : Addr) (ar : Addr) (ke : ClassId) (ks : ClassId) (kr : ClassId) (fe : Nat → Value) (fs_ : Nat → Value) (fr : Nat → Value) (h0 : Heap) (n0 : Nat) (v : Option Value) (h : Heap) (L : List Loc) : Prop := v = none ∧ Fr n0 L ∧ Exa Z h a1 "com/example/xml_element_search/xmlelementsearch/ElementScores" ∧ Fld Z h a1 "com/example/xml_element_search/xmlelementsearch/ElementScores" "elements" "[J" (.ref ae) ∧ Fld Z h a1 "com/example/xml_element_search/xmlelementsearch/ElementScores" "scores" "[D" (.ref as_) ∧ Fld Z h a1 "com/example/xml_element_search/xmlelementsearch/ElementScores" "size" "I" (.int (1 : Int32)) ∧ Fld Z h a1 "com/example/xml_element_search/xmlelementsearch/ElementScores" "runStarts" "[I" (.ref ar) ∧ Fld Z h a1 "com/example/xml_element_search/xmlelementsearch/ElementScores" "runs" "I" (.int (1 : Int32)) ∧ Arf Z h ae ke .long 8 (upd fe 0 (.long q1)) ∧ Arf Z h as_ ks .double 8 (upd fs_ 0 (.double d1)) ∧ Arf Z h ar kr .int 1 (upd fr 0 (.int (0 : Int32)))
set_option maxRecDepth 65536 in
set_option maxHeartbeats 40000000 in
theorem own_add0 (l : Launch) (Z : State) (a0 : Array Value) (hw : ∀ d ∈ tables_1, d.before a0 Z = true) (ws : List Jvm.Cond) (a1 : Addr) (q1 : Int64) (d1 : UInt64) (ae : Addr) (as_ : Addr) (ar : Addr) (ke : ClassId) (ks : ClassId) (kr : ClassId) (fe : Nat → Value) (fs_ : Nat → Value) (fr : Nat → Value) (h0 : Heap) (n0 : Nat) (Z0 : n0 ≤ h0.size) (g_a1 : n0 ≤ a1) (l1 : a1 < ar) (l2 : ar < ae) (l3 : ae < as_) (g_ar : n0 ≤ ar) (g_ae : n0 ≤ ae) (g_as_ : n0 ≤ as_) (E_ : Exa Z h0 a1 "com/example/xml_element_search/xmlelementsearch/ElementScores") (F_e : Fld Z h0 a1 "com/example/xml_element_search/xmlelementsearch/ElementScores" "elements" "[J" (.ref ae)) (F_s : Fld Z h0 a1 "com/example/xml_element_search/xmlelementsearch/ElementScores" "scores" "[D" (.ref as_)) (F_n : Fld Z h0 a1 "com/example/xml_element_search/xmlelementsearch/ElementScores" "size" "I" (.int (0 : Int32))) (F_r : Fld Z h0 a1 "com/example/xml_element_search/xmlelementsearch/ElementScores" "runStarts" "[I" (.ref ar)) (F_u : Fld Z h0 a1 "com/example/xml_element_search/xmlelementsearch/ElementScores" "runs" "I" (.int (0 : Int32))) (V_e : Arf Z h0 ae ke .long 8 fe) (V_s : Arf Z h0 as_ ks .double 8 fs_) (V_r : Arf Z h0 ar kr .int 1 fr) :
    MetFree l (⟨"com/example/xml_element_search/xmlelementsearch/ElementScores", "add", "(JD)V"⟩ : MethodName) (head1 (Jvm.Cond.code (⟨"com/example/xml_element_search/xmlelementsearch/ElementScores", "add", "(JD)V"⟩ : MethodName) prog_24_method_3_code 5 none :: ws) ({ frames := 0, cells := 0, slots := 0, locals := 0 } : Room)) (fun a U => a = #[(.ref a1), (.long q1), (.double d1)] ∧ Z.Warmed39 U.vm ∧ U.heap = h0) (fun _ _ _ _ _ => True) (fun _ U o U' => ∃ v L, o = .returned v ∧ Q_own_add0 Z a1 q1 d1 ae as_ ar ke ks kr fe fs_ fr h0 n0 v U'.heap L ∧ FrameEnd U o U' L ({ frames := 0, cells := 0, slots := 0, locals := 0 } : Room).cells ({ frames := 0, cells := 0, slots := 0, locals := 0 } : Room).slots) := by
  refine MetFree.of_bodySF (plainFor_of_name pn_own_add0) hisR ?_
  intro p e s m args below meth c s₁ Bd hml0 hP hK
  obtain ⟨rfl, hZ, hh⟩ := hP
  have hx := Bd.exec
  have hby := Bd.bytes
  have hml : c.maxLocals = 5 := hml0
  have hown : s.vm.findClass "com/example/xml_element_search/xmlelementsearch/ElementScores" = some m.cls := findClass_of_methodNamed Bd.named
  have hnm := (name_of_methodNamed Bd.named Bd.method).1
  have X0 : Stand p l e ({ frames := 0, cells := 0, slots := 0, locals := 0 } : Room) s m #[(.ref a1), (.long q1), (.double d1)] below meth c s₁ [] 0 0 := Stand.of_body Bd
  have e0 : s₁.heap = h0 := by rw [← hh, Bd.state]; rfl
  have N0 := Fr.nil n0
  have pre0 : ∀ t, Steps p.tables e below (s₁.setTop (mkF m 0 #[.val (.ref a1), .val (.long q1), .second, .val (.double d1), .second] [])) t → Steps p.tables e below (s₁.setTop (entryFrame m #[(.ref a1), (.long q1), (.double d1)] 5)) t := fun t k => castTop (ef_own_add0 m (a1) (q1) (d1)) k
  obtain ⟨T32, X32, e32, st32⟩ := getF X0 hx hZ hown (host := "") (Or.inl (hw _ (List.mem_of_getElem? (i := 40) rfl))) Via.refl e0 F_n (g := (mkF m 1 #[.val (.ref a1), .val (.long q1), .second, .val (.double d1), .second] [(.ref a1)])) rfl rfl (hb hby d8_1)
  obtain ⟨T33, X33, e33, st33⟩ := getF X32 hx hZ hown (host := "") (Or.inl (hw _ (List.mem_of_getElem? (i := 30) rfl))) Via.refl e32 F_e (g := (mkF m 5 #[.val (.ref a1), .val (.long q1), .second, .val (.double d1), .second] [(.ref a1), (.int (0 : Int32))])) rfl rfl (hb hby d8_5)
  obtain ⟨cl34, Ar34, qk34, S34, B34, H34, G34⟩ := id V_e
  obtain ⟨T35, X35, e35, st35⟩ := getF X33 hx hZ hown (host := "") (Or.inl (hw _ (List.mem_of_getElem? (i := 40) rfl))) Via.refl e33 F_n (g := (mkF m 55 #[.val (.ref a1), .val (.long q1), .second, .val (.double d1), .second] [(.ref a1)])) rfl rfl (hb hby d8_55)
  obtain ⟨T36, X36, e36, st36⟩ := getF X35 hx hZ hown (host := "") (Or.inl (hw _ (List.mem_of_getElem? (i := 42) rfl))) Via.refl e35 F_u (g := (mkF m 78 #[.val (.ref a1), .val (.long q1), .second, .val (.double d1), .second] [(.ref a1)])) rfl rfl (hb hby d8_78)
  obtain ⟨T37, X37, e37, st37⟩ := getF X36 hx hZ hown (host := "") (Or.inl (hw _ (List.mem_of_getElem? (i := 24) rfl))) Via.refl e36 F_r (g := (mkF m 82 #[.val (.ref a1), .val (.long q1), .second, .val (.double d1), .second] [(.ref a1), (.int (0 : Int32))])) rfl rfl (hb hby d8_82)
  obtain ⟨cl38, Ar38, qk38, S38, B38, H38, G38⟩ := id V_r
  obtain ⟨T39, X39, e39, st39⟩ := getF X37 hx hZ hown (host := "") (Or.inl (hw _ (List.mem_of_getElem? (i := 24) rfl))) Via.refl e37 F_r (g := (mkF m 107 #[.val (.ref a1), .val (.long q1), .second, .val (.double d1), .second] [(.ref a1)])) rfl rfl (hb hby d8_107)
  obtain ⟨T40, X40, e40, st40⟩ := getF X39 hx hZ hown (host := "") (Or.inl (hw _ (List.mem_of_getElem? (i := 42) rfl))) Via.refl e39 F_u (g := (mkF m 112 #[.val (.ref a1), .val (.long q1), .second, .val (.double d1), .second] [(.ref a1), (.ref a1), (.ref ar)])) rfl rfl (hb hby d8_112)
  obtain ⟨T41, h41, X41, e41, W41, st41⟩ := putF X40 hx hZ hown (host := "") (Or.inl (hw _ (List.mem_of_getElem? (i := 42) rfl))) Via.refl e40 F_u E_ (Or.inl (hw _ (List.mem_of_getElem? (i := 43) rfl))) (hw _ (List.mem_of_getElem? (i := 12) rfl)) (ty := .int) (by decide) rfl rfl (g := (mkF m 118 #[.val (.ref a1), .val (.long q1), .second, .val (.double d1), .second] [(.int ((0 : Int32) + (1 : Int32))), (.ref a1), (.int (0 : Int32)), (.ref ar)])) rfl rfl (hb hby d8_118)
  have Fw41 := F_u.same W41
  have N41 := Fr.snoc X41 N0 g_a1
  obtain ⟨T42, X42, e42, st42⟩ := getF X41 hx hZ hown (host := "") (Or.inl (hw _ (List.mem_of_getElem? (i := 40) rfl))) Via.refl e41 (F_n.other W41 (Or.inr (slot_ne (Or.inl (hw _ (List.mem_of_getElem? (i := 41) rfl))) (Or.inl (hw _ (List.mem_of_getElem? (i := 43) rfl))) (by decide) (t := .int) (t' := .int) (by decide) (by decide)))) (g := (mkF m 122 #[.val (.ref a1), .val (.long q1), .second, .val (.double d1), .second] [(.ref a1), (.int (0 : Int32)), (.ref ar)])) rfl rfl (hb hby d8_122)
  obtain ⟨cl43, Ar43, qk43, S43, B43, H43, G43⟩ := id (V_r.other W41 (Ne.symm (Nat.ne_of_lt l1)))
  have hin43 : ¬ ((0 : Int32) < 0 ∨ cl43.slots.size ≤ ((0 : Int32)).toNatClampNeg) := own_inb S43 ⟨by decide, rfl⟩ (by decide)
  obtain ⟨T43, h43, X43, e43, W43, st43⟩ := stI X42 hx hZ e42 Ar43 (j := (0 : Int32)) hin43 (g := (mkF m 125 #[.val (.ref a1), .val (.long q1), .second, .val (.double d1), .second] [(.int (0 : Int32)), (.int (0 : Int32)), (.ref ar)])) rfl rfl (hb hby d8_125)
  have V43 := own_set Ar43 qk43 S43 B43 H43 G43 rfl ⟨by decide, rfl⟩ W43
  have N43 := Fr.snoc X43 N41 g_ar
  obtain ⟨T44, X44, e44, st44⟩ := getF X43 hx hZ hown (host := "") (Or.inl (hw _ (List.mem_of_getElem? (i := 30) rfl))) Via.refl e43 ((F_e.other W41 (Or.inr (slot_ne (Or.inl (hw _ (List.mem_of_getElem? (i := 31) rfl))) (Or.inl (hw _ (List.mem_of_getElem? (i := 43) rfl))) (by decide) (t := (.array .long)) (t' := .int) (by decide) (by decide)))).other W43 (Or.inl (Nat.ne_of_lt l1))) (g := (mkF m 127 #[.val (.ref a1), .val (.long q1), .second, .val (.double d1), .second] [(.ref a1)])) rfl rfl (hb hby d8_127)
  obtain ⟨T45, X45, e45, st45⟩ := getF X44 hx hZ hown (host := "") (Or.inl (hw _ (List.mem_of_getElem? (i := 40) rfl))) Via.refl e44 ((F_n.other W41 (Or.inr (slot_ne (Or.inl (hw _ (List.mem_of_getElem? (i := 41) rfl))) (Or.inl (hw _ (List.mem_of_getElem? (i := 43) rfl))) (by decide) (t := .int) (t' := .int) (by decide) (by decide)))).other W43 (Or.inl (Nat.ne_of_lt l1))) (g := (mkF m 131 #[.val (.ref a1), .val (.long q1), .second, .val (.double d1), .second] [(.ref a1), (.ref ae)])) rfl rfl (hb hby d8_131)
  obtain ⟨cl46, Ar46, qk46, S46, B46, H46, G46⟩ := id ((V_e.other W41 (Ne.symm (Nat.ne_of_lt (Nat.lt_trans l1 l2)))).other W43 (Ne.symm (Nat.ne_of_lt l2)))
  have hin46 : ¬ ((0 : Int32) < 0 ∨ cl46.slots.size ≤ ((0 : Int32)).toNatClampNeg) := own_inb S46 ⟨by decide, rfl⟩ (by decide)
  obtain ⟨T46, h46, X46, e46, W46, st46⟩ := stJ X45 hx hZ e45 Ar46 (j := (0 : Int32)) hin46 (g := (mkF m 135 #[.val (.ref a1), .val (.long q1), .second, .val (.double d1), .second] [(.long q1), (.int (0 : Int32)), (.ref ae)])) rfl rfl (hb hby d8_135)
  have V46 := own_set Ar46 qk46 S46 B46 H46 G46 rfl ⟨by decide, rfl⟩ W46
  have N46 := Fr.snoc X46 N43 g_ae
  obtain ⟨T47, X47, e47, st47⟩ := getF X46 hx hZ hown (host := "") (Or.inl (hw _ (List.mem_of_getElem? (i := 33) rfl))) Via.refl e46 (((F_s.other W41 (Or.inr (slot_ne (Or.inl (hw _ (List.mem_of_getElem? (i := 34) rfl))) (Or.inl (hw _ (List.mem_of_getElem? (i := 43) rfl))) (by decide) (t := (.array .double)) (t' := .int) (by decide) (by decide)))).other W43 (Or.inl (Nat.ne_of_lt l1))).other W46 (Or.inl (Nat.ne_of_lt (Nat.lt_trans l1 l2)))) (g := (mkF m 137 #[.val (.ref a1), .val (.long q1), .second, .val (.double d1), .second] [(.ref a1)])) rfl rfl (hb hby d8_137)
  obtain ⟨T48, X48, e48, st48⟩ := getF X47 hx hZ hown (host := "") (Or.inl (hw _ (List.mem_of_getElem? (i := 40) rfl))) Via.refl e47 (((F_n.other W41 (Or.inr (slot_ne (Or.inl (hw _ (List.mem_of_getElem? (i := 41) rfl))) (Or.inl (hw _ (List.mem_of_getElem? (i := 43) rfl))) (by decide) (t := .int) (t' := .int) (by decide) (by decide)))).other W43 (Or.inl (Nat.ne_of_lt l1))).other W46 (Or.inl (Nat.ne_of_lt (Nat.lt_trans l1 l2)))) (g := (mkF m 142 #[.val (.ref a1), .val (.long q1), .second, .val (.double d1), .second] [(.ref a1), (.ref a1), (.ref as_)])) rfl rfl (hb hby d8_142)
  obtain ⟨T49, h49, X49, e49, W49, st49⟩ := putF X48 hx hZ hown (host := "") (Or.inl (hw _ (List.mem_of_getElem? (i := 40) rfl))) Via.refl e48 (((F_n.other W41 (Or.inr (slot_ne (Or.inl (hw _ (List.mem_of_getElem? (i := 41) rfl))) (Or.inl (hw _ (List.mem_of_getElem? (i := 43) rfl))) (by decide) (t := .int) (t' := .int) (by decide) (by decide)))).other W43 (Or.inl (Nat.ne_of_lt l1))).other W46 (Or.inl (Nat.ne_of_lt (Nat.lt_trans l1 l2)))) (((E_.wr W41).wr W43).wr W46) (Or.inl (hw _ (List.mem_of_getElem? (i := 41) rfl))) (hw _ (List.mem_of_getElem? (i := 12) rfl)) (ty := .int) (by decide) rfl rfl (g := (mkF m 148 #[.val (.ref a1), .val (.long q1), .second, .val (.double d1), .second] [(.int ((0 : Int32) + (1 : Int32))), (.ref a1), (.int (0 : Int32)), (.ref as_)])) rfl rfl (hb hby d8_148)
  have Fw49 := (((F_n.other W41 (Or.inr (slot_ne (Or.inl (hw _ (List.mem_of_getElem? (i := 41) rfl))) (Or.inl (hw _ (List.mem_of_getElem? (i := 43) rfl))) (by decide) (t := .int) (t' := .int) (by decide) (by decide)))).other W43 (Or.inl (Nat.ne_of_lt l1))).other W46 (Or.inl (Nat.ne_of_lt (Nat.lt_trans l1 l2)))).same W49
  have N49 := Fr.snoc X49 N46 g_a1
  obtain ⟨cl50, Ar50, qk50, S50, B50, H50, G50⟩ := id ((((V_s.other W41 (Ne.symm (Nat.ne_of_lt (Nat.lt_trans (Nat.lt_trans l1 l2) l3)))).other W43 (Ne.symm (Nat.ne_of_lt (Nat.lt_trans l2 l3)))).other W46 (Ne.symm (Nat.ne_of_lt l3))).other W49 (Ne.symm (Nat.ne_of_lt (Nat.lt_trans (Nat.lt_trans l1 l2) l3))))
  have hin50 : ¬ ((0 : Int32) < 0 ∨ cl50.slots.size ≤ ((0 : Int32)).toNatClampNeg) := own_inb S50 ⟨by decide, rfl⟩ (by decide)
  obtain ⟨T50, h50, X50, e50, W50, st50⟩ := own_stD X49 hx hZ e49 Ar50 (j := (0 : Int32)) hin50 (g := (mkF m 152 #[.val (.ref a1), .val (.long q1), .second, .val (.double d1), .second] [(.double d1), (.int (0 : Int32)), (.ref as_)])) rfl rfl (hb hby d8_152)
  have V50 := own_set Ar50 qk50 S50 B50 H50 G50 rfl ⟨by decide, rfl⟩ W50
  have N50 := Fr.snoc X50 N49 g_as_
  obtain ⟨fs, hr, hrun, hended, hW, hsame⟩ := X50.leave (v := none) (fun _ => rfl)
  refine ⟨_, _, pre0 _ ?_, hrun, hended, _, _, rfl, ?_, ⟨_, rfl⟩, hW, hsame.mono (by decide) (by decide)⟩
  · show Steps p.tables e below (s₁.setTop (mkF m 0 #[.val (.ref a1), .val (.long q1), .second, .val (.double d1), .second] [])) _
    refine XS.aloadN X0.here hx rfl (hb hby d8_0) rfl rfl ?_
    show Steps p.tables e below (s₁.setTop (mkF m 1 #[.val (.ref a1), .val (.long q1), .second, .val (.double d1), .second] [(.ref a1)])) _
    refine st32 _ ?_
    show Steps p.tables e below (T32.setTop (mkF m 4 #[.val (.ref a1), .val (.long q1), .second, .val (.double d1), .second] [(.int (0 : Int32))])) _
    refine XS.aloadN X32.here hx rfl (hb hby d8_4) rfl rfl ?_
    show Steps p.tables e below (T32.setTop (mkF m 5 #[.val (.ref a1), .val (.long q1), .second, .val (.double d1), .second] [(.ref a1), (.int (0 : Int32))])) _
    refine st33 _ ?_
    show Steps p.tables e below (T33.setTop (mkF m 8 #[.val (.ref a1), .val (.long q1), .second, .val (.double d1), .second] [(.ref ae), (.int (0 : Int32))])) _
    refine X33.arraylength hx (by rw [e33]; exact Ar34.1) (State.isArrayOf_alike hZ.alike Ar34.2.1) (g := (mkF m 8 #[.val (.ref a1), .val (.long q1), .second, .val (.double d1), .second] [(.ref ae), (.int (0 : Int32))])) rfl rfl (hb hby d8_8) _ ?_
    rw [S34]
    show Steps p.tables e below (T33.setTop (mkF m 9 #[.val (.ref a1), .val (.long q1), .second, .val (.double d1), .second] [(.int (8 : Int32)), (.int (0 : Int32))])) _
    refine XS.icmpYes X33.here hx rfl (pc0 := 9) (pc' := 54) rfl (hb hby d8_9) rfl (XT.ii_ne_t (by decide)) (by decide) (by decide) ?_
    show Steps p.tables e below (T33.setTop (mkF m 54 #[.val (.ref a1), .val (.long q1), .second, .val (.double d1), .second] [])) _
    refine XS.aloadN X33.here hx rfl (hb hby d8_54) rfl rfl ?_
    show Steps p.tables e below (T33.setTop (mkF m 55 #[.val (.ref a1), .val (.long q1), .second, .val (.double d1), .second] [(.ref a1)])) _
    refine st35 _ ?_
    show Steps p.tables e below (T35.setTop (mkF m 58 #[.val (.ref a1), .val (.long q1), .second, .val (.double d1), .second] [(.int (0 : Int32))])) _
    refine XS.ifYes X35.here hx rfl (pc0 := 58) (pc' := 77) rfl (hb hby d8_58) rfl (XT.i0_eq_t (by decide)) (by decide) (by decide) ?_
    show Steps p.tables e below (T35.setTop (mkF m 77 #[.val (.ref a1), .val (.long q1), .second, .val (.double d1), .second] [])) _
    refine XS.aloadN X35.here hx rfl (hb hby d8_77) rfl rfl ?_
    show Steps p.tables e below (T35.setTop (mkF m 78 #[.val (.ref a1), .val (.long q1), .second, .val (.double d1), .second] [(.ref a1)])) _
    refine st36 _ ?_
    show Steps p.tables e below (T36.setTop (mkF m 81 #[.val (.ref a1), .val (.long q1), .second, .val (.double d1), .second] [(.int (0 : Int32))])) _
    refine XS.aloadN X36.here hx rfl (hb hby d8_81) rfl rfl ?_
    show Steps p.tables e below (T36.setTop (mkF m 82 #[.val (.ref a1), .val (.long q1), .second, .val (.double d1), .second] [(.ref a1), (.int (0 : Int32))])) _
    refine st37 _ ?_
    show Steps p.tables e below (T37.setTop (mkF m 85 #[.val (.ref a1), .val (.long q1), .second, .val (.double d1), .second] [(.ref ar), (.int (0 : Int32))])) _
    refine X37.arraylength hx (by rw [e37]; exact Ar38.1) (State.isArrayOf_alike hZ.alike Ar38.2.1) (g := (mkF m 85 #[.val (.ref a1), .val (.long q1), .second, .val (.double d1), .second] [(.ref ar), (.int (0 : Int32))])) rfl rfl (hb hby d8_85) _ ?_
    rw [S38]
    show Steps p.tables e below (T37.setTop (mkF m 86 #[.val (.ref a1), .val (.long q1), .second, .val (.double d1), .second] [(.int (1 : Int32)), (.int (0 : Int32))])) _
    refine XS.icmpYes X37.here hx rfl (pc0 := 86) (pc' := 106) rfl (hb hby d8_86) rfl (XT.ii_ne_t (by decide)) (by decide) (by decide) ?_
    show Steps p.tables e below (T37.setTop (mkF m 106 #[.val (.ref a1), .val (.long q1), .second, .val (.double d1), .second] [])) _
    refine XS.aloadN X37.here hx rfl (hb hby d8_106) rfl rfl ?_
    show Steps p.tables e below (T37.setTop (mkF m 107 #[.val (.ref a1), .val (.long q1), .second, .val (.double d1), .second] [(.ref a1)])) _
    refine st39 _ ?_
    show Steps p.tables e below (T39.setTop (mkF m 110 #[.val (.ref a1), .val (.long q1), .second, .val (.double d1), .second] [(.ref ar)])) _
    refine XS.aloadN X39.here hx rfl (hb hby d8_110) rfl rfl ?_
    show Steps p.tables e below (T39.setTop (mkF m 111 #[.val (.ref a1), .val (.long q1), .second, .val (.double d1), .second] [(.ref a1), (.ref ar)])) _
    refine XS.dup X39.here hx rfl (hb hby d8_111) rfl rfl ?_
    show Steps p.tables e below (T39.setTop (mkF m 112 #[.val (.ref a1), .val (.long q1), .second, .val (.double d1), .second] [(.ref a1), (.ref a1), (.ref ar)])) _
    refine st40 _ ?_
    show Steps p.tables e below (T40.setTop (mkF m 115 #[.val (.ref a1), .val (.long q1), .second, .val (.double d1), .second] [(.int (0 : Int32)), (.ref a1), (.ref ar)])) _
    refine XT.dupX1 X40.here hx rfl (hb hby d8_115) rfl rfl rfl ?_
    show Steps p.tables e below (T40.setTop (mkF m 116 #[.val (.ref a1), .val (.long q1), .second, .val (.double d1), .second] [(.int (0 : Int32)), (.ref a1), (.int (0 : Int32)), (.ref ar)])) _
    refine XS.iconst X40.here hx rfl (hb hby d8_116) ?_
    show Steps p.tables e below (T40.setTop (mkF m 117 #[.val (.ref a1), .val (.long q1), .second, .val (.double d1), .second] [(.int (1 : Int32)), (.int (0 : Int32)), (.ref a1), (.int (0 : Int32)), (.ref ar)])) _
    refine XS.iadd X40.here hx rfl (hb hby d8_117) rfl ?_
    show Steps p.tables e below (T40.setTop (mkF m 118 #[.val (.ref a1), .val (.long q1), .second, .val (.double d1), .second] [(.int ((0 : Int32) + (1 : Int32))), (.ref a1), (.int (0 : Int32)), (.ref ar)])) _
    refine st41 _ ?_
    show Steps p.tables e below (T41.setTop (mkF m 121 #[.val (.ref a1), .val (.long q1), .second, .val (.double d1), .second] [(.int (0 : Int32)), (.ref ar)])) _
    refine XS.aloadN X41.here hx rfl (hb hby d8_121) rfl rfl ?_
    show Steps p.tables e below (T41.setTop (mkF m 122 #[.val (.ref a1), .val (.long q1), .second, .val (.double d1), .second] [(.ref a1), (.int (0 : Int32)), (.ref ar)])) _
    refine st42 _ ?_
    show Steps p.tables e below (T42.setTop (mkF m 125 #[.val (.ref a1), .val (.long q1), .second, .val (.double d1), .second] [(.int (0 : Int32)), (.int (0 : Int32)), (.ref ar)])) _
    refine st43 _ ?_
    show Steps p.tables e below (T43.setTop (mkF m 126 #[.val (.ref a1), .val (.long q1), .second, .val (.double d1), .second] [])) _
    refine XS.aloadN X43.here hx rfl (hb hby d8_126) rfl rfl ?_
    show Steps p.tables e below (T43.setTop (mkF m 127 #[.val (.ref a1), .val (.long q1), .second, .val (.double d1), .second] [(.ref a1)])) _
    refine st44 _ ?_
    show Steps p.tables e below (T44.setTop (mkF m 130 #[.val (.ref a1), .val (.long q1), .second, .val (.double d1), .second] [(.ref ae)])) _
    refine XS.aloadN X44.here hx rfl (hb hby d8_130) rfl rfl ?_
    show Steps p.tables e below (T44.setTop (mkF m 131 #[.val (.ref a1), .val (.long q1), .second, .val (.double d1), .second] [(.ref a1), (.ref ae)])) _
    refine st45 _ ?_
    show Steps p.tables e below (T45.setTop (mkF m 134 #[.val (.ref a1), .val (.long q1), .second, .val (.double d1), .second] [(.int (0 : Int32)), (.ref ae)])) _
    refine XT.lloadN X45.here hx rfl (hb hby d8_134) rfl ?_
    show Steps p.tables e below (T45.setTop (mkF m 135 #[.val (.ref a1), .val (.long q1), .second, .val (.double d1), .second] [(.long q1), (.int (0 : Int32)), (.ref ae)])) _
    refine st46 _ ?_
    show Steps p.tables e below (T46.setTop (mkF m 136 #[.val (.ref a1), .val (.long q1), .second, .val (.double d1), .second] [])) _
    refine XS.aloadN X46.here hx rfl (hb hby d8_136) rfl rfl ?_
    show Steps p.tables e below (T46.setTop (mkF m 137 #[.val (.ref a1), .val (.long q1), .second, .val (.double d1), .second] [(.ref a1)])) _
    refine st47 _ ?_
    show Steps p.tables e below (T47.setTop (mkF m 140 #[.val (.ref a1), .val (.long q1), .second, .val (.double d1), .second] [(.ref as_)])) _
    refine XS.aloadN X47.here hx rfl (hb hby d8_140) rfl rfl ?_
    show Steps p.tables e below (T47.setTop (mkF m 141 #[.val (.ref a1), .val (.long q1), .second, .val (.double d1), .second] [(.ref a1), (.ref as_)])) _
    refine XS.dup X47.here hx rfl (hb hby d8_141) rfl rfl ?_
    show Steps p.tables e below (T47.setTop (mkF m 142 #[.val (.ref a1), .val (.long q1), .second, .val (.double d1), .second] [(.ref a1), (.ref a1), (.ref as_)])) _
    refine st48 _ ?_
    show Steps p.tables e below (T48.setTop (mkF m 145 #[.val (.ref a1), .val (.long q1), .second, .val (.double d1), .second] [(.int (0 : Int32)), (.ref a1), (.ref as_)])) _
    refine XT.dupX1 X48.here hx rfl (hb hby d8_145) rfl rfl rfl ?_
    show Steps p.tables e below (T48.setTop (mkF m 146 #[.val (.ref a1), .val (.long q1), .second, .val (.double d1), .second] [(.int (0 : Int32)), (.ref a1), (.int (0 : Int32)), (.ref as_)])) _
    refine XS.iconst X48.here hx rfl (hb hby d8_146) ?_
    show Steps p.tables e below (T48.setTop (mkF m 147 #[.val (.ref a1), .val (.long q1), .second, .val (.double d1), .second] [(.int (1 : Int32)), (.int (0 : Int32)), (.ref a1), (.int (0 : Int32)), (.ref as_)])) _
    refine XS.iadd X48.here hx rfl (hb hby d8_147) rfl ?_
    show Steps p.tables e below (T48.setTop (mkF m 148 #[.val (.ref a1), .val (.long q1), .second, .val (.double d1), .second] [(.int ((0 : Int32) + (1 : Int32))), (.ref a1), (.int (0 : Int32)), (.ref as_)])) _
    refine st49 _ ?_
    show Steps p.tables e below (T49.setTop (mkF m 151 #[.val (.ref a1), .val (.long q1), .second, .val (.double d1), .second] [(.int (0 : Int32)), (.ref as_)])) _
    refine own_dloadN X49.here hx rfl (hb hby d8_151) rfl ?_
    show Steps p.tables e below (T49.setTop (mkF m 152 #[.val (.ref a1), .val (.long q1), .second, .val (.double d1), .second] [(.double d1), (.int (0 : Int32)), (.ref as_)])) _
    refine st50 _ ?_
    show Steps p.tables e below (T50.setTop (mkF m 153 #[.val (.ref a1), .val (.long q1), .second, .val (.double d1), .second] [])) _
    exact X50.returnOut hx Bd.returns (hb hby d8_153) hr
  · show Q_own_add0 Z a1 q1 d1 ae as_ ar ke ks kr fe fs_ fr h0 n0 _ T50.heap _
    rw [e50]
    exact ⟨rfl, N50, (((((E_.wr W41).wr W43).wr W46).wr W49).wr W50), (((((F_e.other W41 (Or.inr (slot_ne (Or.inl (hw _ (List.mem_of_getElem? (i := 31) rfl))) (Or.inl (hw _ (List.mem_of_getElem? (i := 43) rfl))) (by decide) (t := (.array .long)) (t' := .int) (by decide) (by decide)))).other W43 (Or.inl (Nat.ne_of_lt l1))).other W46 (Or.inl (Nat.ne_of_lt (Nat.lt_trans l1 l2)))).other W49 (Or.inr (slot_ne (Or.inl (hw _ (List.mem_of_getElem? (i := 31) rfl))) (Or.inl (hw _ (List.mem_of_getElem? (i := 41) rfl))) (by decide) (t := (.array .long)) (t' := .int) (by decide) (by decide)))).other W50 (Or.inl (Nat.ne_of_lt (Nat.lt_trans (Nat.lt_trans l1 l2) l3)))), (((((F_s.other W41 (Or.inr (slot_ne (Or.inl (hw _ (List.mem_of_getElem? (i := 34) rfl))) (Or.inl (hw _ (List.mem_of_getElem? (i := 43) rfl))) (by decide) (t := (.array .double)) (t' := .int) (by decide) (by decide)))).other W43 (Or.inl (Nat.ne_of_lt l1))).other W46 (Or.inl (Nat.ne_of_lt (Nat.lt_trans l1 l2)))).other W49 (Or.inr (slot_ne (Or.inl (hw _ (List.mem_of_getElem? (i := 34) rfl))) (Or.inl (hw _ (List.mem_of_getElem? (i := 41) rfl))) (by decide) (t := (.array .double)) (t' := .int) (by decide) (by decide)))).other W50 (Or.inl (Nat.ne_of_lt (Nat.lt_trans (Nat.lt_trans l1 l2) l3)))), (Fw49.other W50 (Or.inl (Nat.ne_of_lt (Nat.lt_trans (Nat.lt_trans l1 l2) l3)))), (((((F_r.other W41 (Or.inr (slot_ne (Or.inl (hw _ (List.mem_of_getElem? (i := 25) rfl))) (Or.inl (hw _ (List.mem_of_getElem? (i := 43) rfl))) (by decide) (t := (.array .int)) (t' := .int) (by decide) (by decide)))).other W43 (Or.inl (Nat.ne_of_lt l1))).other W46 (Or.inl (Nat.ne_of_lt (Nat.lt_trans l1 l2)))).other W49 (Or.inr (slot_ne (Or.inl (hw _ (List.mem_of_getElem? (i := 25) rfl))) (Or.inl (hw _ (List.mem_of_getElem? (i := 41) rfl))) (by decide) (t := (.array .int)) (t' := .int) (by decide) (by decide)))).other W50 (Or.inl (Nat.ne_of_lt (Nat.lt_trans (Nat.lt_trans l1 l2) l3)))), ((((Fw41.other W43 (Or.inl (Nat.ne_of_lt l1))).other W46 (Or.inl (Nat.ne_of_lt (Nat.lt_trans l1 l2)))).other W49 (Or.inr (slot_ne (Or.inl (hw _ (List.mem_of_getElem? (i := 43) rfl))) (Or.inl (hw _ (List.mem_of_getElem? (i := 41) rfl))) (by decide) (t := .int) (t' := .int) (by decide) (by decide)))).other W50 (Or.inl (Nat.ne_of_lt (Nat.lt_trans (Nat.lt_trans l1 l2) l3)))), ((V46.other W49 (Ne.symm (Nat.ne_of_lt (Nat.lt_trans l1 l2)))).other W50 (Nat.ne_of_lt l3)), V50, (((V43.other W46 (Nat.ne_of_lt l2)).other W49 (Ne.symm (Nat.ne_of_lt l1))).other W50 (Nat.ne_of_lt (Nat.lt_trans l2 l3)))⟩
theorem pn_own_add1 : plainName "com/example/xml_element_search/xmlelementsearch/ElementScores" = true := by first | (simp [plainName, overriddenIn]; done) | decide +kernel
theorem ef_own_add1 (m : MethodId) (x0 : Addr) (x1 : Int64) (x2 : UInt64) : entryFrame m #[(.ref x0), (.long x1), (.double x2)] 5 = mkF m 0 #[.val (.ref x0), .val (.long x1), .second, .val (.double x2), .second] [] := by first | (simp [entryFrame, mkF, argsToLocals, Value.category]; done) | rfl
def Q_own_add1 (Z : State) (a1 : Addr) (q1 : Int64) (d1 : UInt64) (ae : Addr) (as_ : Addr) (ar : Addr) (ke : ClassId) (ks : ClassId) (kr : ClassId) (fe : Nat → Value) (fs_ : Nat → Value) (fr : Nat → Value) (pv : Int64) (h0 : Heap) (n0 : Nat) (v : Option Value) (h : Heap) (L : List Loc) : Prop := v = none ∧ Fr n0 L ∧ Exa Z h a1 "com/example/xml_element_search/xmlelementsearch/ElementScores" ∧ Fld Z h a1 "com/example/xml_element_search/xmlelementsearch/ElementScores" "elements" "[J" (.ref ae) ∧ Fld Z h a1 "com/example/xml_element_search/xmlelementsearch/ElementScores" "scores" "[D" (.ref as_) ∧ Fld Z h a1 "com/example/xml_element_search/xmlelementsearch/ElementScores" "size" "I" (.int (2 : Int32)) ∧ Fld Z h a1 "com/example/xml_element_search/xmlelementsearch/ElementScores" "runStarts" "[I" (.ref ar) ∧ Fld Z h a1 "com/example/xml_element_search/xmlelementsearch/ElementScores" "runs" "I" (.int (1 : Int32)) ∧ Arf Z h ae ke .long 8 (upd fe 1 (.long q1)) ∧ Arf Z h as_ ks .double 8 (upd fs_ 1 (.double d1)) ∧ Arf Z h ar kr .int 1 fr
set_option maxRecDepth 65536 in
set_option maxHeartbeats 40000000 in
theorem own_add1 (l : Launch) (Z : State) (a0 : Array Value) (hw : ∀ d ∈ tables_1, d.before a0 Z = true) (ws : List Jvm.Cond) (a1 : Addr) (q1 : Int64) (d1 : UInt64) (ae : Addr) (as_ : Addr) (ar : Addr) (ke : ClassId) (ks : ClassId) (kr : ClassId) (fe : Nat → Value) (fs_ : Nat → Value) (fr : Nat → Value) (pv : Int64) (h0 : Heap) (n0 : Nat) (Z0 : n0 ≤ h0.size) (hpv : fe 0 = .long pv) (hlt : pv < q1) (g_a1 : n0 ≤ a1) (l1 : a1 < ar) (l2 : ar < ae) (l3 : ae < as_) (g_ar : n0 ≤ ar) (g_ae : n0 ≤ ae) (g_as_ : n0 ≤ as_) (E_ : Exa Z h0 a1 "com/example/xml_element_search/xmlelementsearch/ElementScores") (F_e : Fld Z h0 a1 "com/example/xml_element_search/xmlelementsearch/ElementScores" "elements" "[J" (.ref ae)) (F_s : Fld Z h0 a1 "com/example/xml_element_search/xmlelementsearch/ElementScores" "scores" "[D" (.ref as_)) (F_n : Fld Z h0 a1 "com/example/xml_element_search/xmlelementsearch/ElementScores" "size" "I" (.int (1 : Int32))) (F_r : Fld Z h0 a1 "com/example/xml_element_search/xmlelementsearch/ElementScores" "runStarts" "[I" (.ref ar)) (F_u : Fld Z h0 a1 "com/example/xml_element_search/xmlelementsearch/ElementScores" "runs" "I" (.int (1 : Int32))) (V_e : Arf Z h0 ae ke .long 8 fe) (V_s : Arf Z h0 as_ ks .double 8 fs_) (V_r : Arf Z h0 ar kr .int 1 fr) :
    MetFree l (⟨"com/example/xml_element_search/xmlelementsearch/ElementScores", "add", "(JD)V"⟩ : MethodName) (head1 (Jvm.Cond.code (⟨"com/example/xml_element_search/xmlelementsearch/ElementScores", "add", "(JD)V"⟩ : MethodName) prog_24_method_3_code 5 none :: ws) ({ frames := 0, cells := 0, slots := 0, locals := 0 } : Room)) (fun a U => a = #[(.ref a1), (.long q1), (.double d1)] ∧ Z.Warmed39 U.vm ∧ U.heap = h0) (fun _ _ _ _ _ => True) (fun _ U o U' => ∃ v L, o = .returned v ∧ Q_own_add1 Z a1 q1 d1 ae as_ ar ke ks kr fe fs_ fr pv h0 n0 v U'.heap L ∧ FrameEnd U o U' L ({ frames := 0, cells := 0, slots := 0, locals := 0 } : Room).cells ({ frames := 0, cells := 0, slots := 0, locals := 0 } : Room).slots) := by
  refine MetFree.of_bodySF (plainFor_of_name pn_own_add1) hisR ?_
  intro p e s m args below meth c s₁ Bd hml0 hP hK
  obtain ⟨rfl, hZ, hh⟩ := hP
  have hx := Bd.exec
  have hby := Bd.bytes
  have hml : c.maxLocals = 5 := hml0
  have hown : s.vm.findClass "com/example/xml_element_search/xmlelementsearch/ElementScores" = some m.cls := findClass_of_methodNamed Bd.named
  have hnm := (name_of_methodNamed Bd.named Bd.method).1
  have X0 : Stand p l e ({ frames := 0, cells := 0, slots := 0, locals := 0 } : Room) s m #[(.ref a1), (.long q1), (.double d1)] below meth c s₁ [] 0 0 := Stand.of_body Bd
  have e0 : s₁.heap = h0 := by rw [← hh, Bd.state]; rfl
  have N0 := Fr.nil n0
  have pre0 : ∀ t, Steps p.tables e below (s₁.setTop (mkF m 0 #[.val (.ref a1), .val (.long q1), .second, .val (.double d1), .second] [])) t → Steps p.tables e below (s₁.setTop (entryFrame m #[(.ref a1), (.long q1), (.double d1)] 5)) t := fun t k => castTop (ef_own_add1 m (a1) (q1) (d1)) k
  obtain ⟨T51, X51, e51, st51⟩ := getF X0 hx hZ hown (host := "") (Or.inl (hw _ (List.mem_of_getElem? (i := 40) rfl))) Via.refl e0 F_n (g := (mkF m 1 #[.val (.ref a1), .val (.long q1), .second, .val (.double d1), .second] [(.ref a1)])) rfl rfl (hb hby d8_1)
  obtain ⟨T52, X52, e52, st52⟩ := getF X51 hx hZ hown (host := "") (Or.inl (hw _ (List.mem_of_getElem? (i := 30) rfl))) Via.refl e51 F_e (g := (mkF m 5 #[.val (.ref a1), .val (.long q1), .second, .val (.double d1), .second] [(.ref a1), (.int (1 : Int32))])) rfl rfl (hb hby d8_5)
  obtain ⟨cl53, Ar53, qk53, S53, B53, H53, G53⟩ := id V_e
  obtain ⟨T54, X54, e54, st54⟩ := getF X52 hx hZ hown (host := "") (Or.inl (hw _ (List.mem_of_getElem? (i := 40) rfl))) Via.refl e52 F_n (g := (mkF m 55 #[.val (.ref a1), .val (.long q1), .second, .val (.double d1), .second] [(.ref a1)])) rfl rfl (hb hby d8_55)
  obtain ⟨T55, X55, e55, st55⟩ := getF X54 hx hZ hown (host := "") (Or.inl (hw _ (List.mem_of_getElem? (i := 30) rfl))) Via.refl e54 F_e (g := (mkF m 62 #[.val (.ref a1), .val (.long q1), .second, .val (.double d1), .second] [(.ref a1)])) rfl rfl (hb hby d8_62)
  obtain ⟨T56, X56, e56, st56⟩ := getF X55 hx hZ hown (host := "") (Or.inl (hw _ (List.mem_of_getElem? (i := 40) rfl))) Via.refl e55 F_n (g := (mkF m 66 #[.val (.ref a1), .val (.long q1), .second, .val (.double d1), .second] [(.ref a1), (.ref ae)])) rfl rfl (hb hby d8_66)
  obtain ⟨cl57, Ar57, qk57, S57, B57, H57, G57⟩ := id V_e
  have hin57 : ¬ (((1 : Int32) - (1 : Int32)) < 0 ∨ cl57.slots.size ≤ (((1 : Int32) - (1 : Int32))).toNatClampNeg) := own_inb S57 ⟨by decide, rfl⟩ (by decide)
  have hat57 : cl57.slots[(((1 : Int32) - (1 : Int32))).toNatClampNeg]? = some (.long pv) := own_hat H57 ⟨by decide, rfl⟩ (by decide) hpv
  obtain ⟨T58, X58, e58, st58⟩ := getF X56 hx hZ hown (host := "") (Or.inl (hw _ (List.mem_of_getElem? (i := 30) rfl))) Via.refl e56 F_e (g := (mkF m 127 #[.val (.ref a1), .val (.long q1), .second, .val (.double d1), .second] [(.ref a1)])) rfl rfl (hb hby d8_127)
  obtain ⟨T59, X59, e59, st59⟩ := getF X58 hx hZ hown (host := "") (Or.inl (hw _ (List.mem_of_getElem? (i := 40) rfl))) Via.refl e58 F_n (g := (mkF m 131 #[.val (.ref a1), .val (.long q1), .second, .val (.double d1), .second] [(.ref a1), (.ref ae)])) rfl rfl (hb hby d8_131)
  obtain ⟨cl60, Ar60, qk60, S60, B60, H60, G60⟩ := id V_e
  have hin60 : ¬ ((1 : Int32) < 0 ∨ cl60.slots.size ≤ ((1 : Int32)).toNatClampNeg) := own_inb S60 ⟨by decide, rfl⟩ (by decide)
  obtain ⟨T60, h60, X60, e60, W60, st60⟩ := stJ X59 hx hZ e59 Ar60 (j := (1 : Int32)) hin60 (g := (mkF m 135 #[.val (.ref a1), .val (.long q1), .second, .val (.double d1), .second] [(.long q1), (.int (1 : Int32)), (.ref ae)])) rfl rfl (hb hby d8_135)
  have V60 := own_set Ar60 qk60 S60 B60 H60 G60 rfl ⟨by decide, rfl⟩ W60
  have N60 := Fr.snoc X60 N0 g_ae
  obtain ⟨T61, X61, e61, st61⟩ := getF X60 hx hZ hown (host := "") (Or.inl (hw _ (List.mem_of_getElem? (i := 33) rfl))) Via.refl e60 (F_s.other W60 (Or.inl (Nat.ne_of_lt (Nat.lt_trans l1 l2)))) (g := (mkF m 137 #[.val (.ref a1), .val (.long q1), .second, .val (.double d1), .second] [(.ref a1)])) rfl rfl (hb hby d8_137)
  obtain ⟨T62, X62, e62, st62⟩ := getF X61 hx hZ hown (host := "") (Or.inl (hw _ (List.mem_of_getElem? (i := 40) rfl))) Via.refl e61 (F_n.other W60 (Or.inl (Nat.ne_of_lt (Nat.lt_trans l1 l2)))) (g := (mkF m 142 #[.val (.ref a1), .val (.long q1), .second, .val (.double d1), .second] [(.ref a1), (.ref a1), (.ref as_)])) rfl rfl (hb hby d8_142)
  obtain ⟨T63, h63, X63, e63, W63, st63⟩ := putF X62 hx hZ hown (host := "") (Or.inl (hw _ (List.mem_of_getElem? (i := 40) rfl))) Via.refl e62 (F_n.other W60 (Or.inl (Nat.ne_of_lt (Nat.lt_trans l1 l2)))) (E_.wr W60) (Or.inl (hw _ (List.mem_of_getElem? (i := 41) rfl))) (hw _ (List.mem_of_getElem? (i := 12) rfl)) (ty := .int) (by decide) rfl rfl (g := (mkF m 148 #[.val (.ref a1), .val (.long q1), .second, .val (.double d1), .second] [(.int ((1 : Int32) + (1 : Int32))), (.ref a1), (.int (1 : Int32)), (.ref as_)])) rfl rfl (hb hby d8_148)
  have Fw63 := (F_n.other W60 (Or.inl (Nat.ne_of_lt (Nat.lt_trans l1 l2)))).same W63
  have N63 := Fr.snoc X63 N60 g_a1
  obtain ⟨cl64, Ar64, qk64, S64, B64, H64, G64⟩ := id ((V_s.other W60 (Ne.symm (Nat.ne_of_lt l3))).other W63 (Ne.symm (Nat.ne_of_lt (Nat.lt_trans (Nat.lt_trans l1 l2) l3))))
  have hin64 : ¬ ((1 : Int32) < 0 ∨ cl64.slots.size ≤ ((1 : Int32)).toNatClampNeg) := own_inb S64 ⟨by decide, rfl⟩ (by decide)
  obtain ⟨T64, h64, X64, e64, W64, st64⟩ := own_stD X63 hx hZ e63 Ar64 (j := (1 : Int32)) hin64 (g := (mkF m 152 #[.val (.ref a1), .val (.long q1), .second, .val (.double d1), .second] [(.double d1), (.int (1 : Int32)), (.ref as_)])) rfl rfl (hb hby d8_152)
  have V64 := own_set Ar64 qk64 S64 B64 H64 G64 rfl ⟨by decide, rfl⟩ W64
  have N64 := Fr.snoc X64 N63 g_as_
  obtain ⟨fs, hr, hrun, hended, hW, hsame⟩ := X64.leave (v := none) (fun _ => rfl)
  refine ⟨_, _, pre0 _ ?_, hrun, hended, _, _, rfl, ?_, ⟨_, rfl⟩, hW, hsame.mono (by decide) (by decide)⟩
  · show Steps p.tables e below (s₁.setTop (mkF m 0 #[.val (.ref a1), .val (.long q1), .second, .val (.double d1), .second] [])) _
    refine XS.aloadN X0.here hx rfl (hb hby d8_0) rfl rfl ?_
    show Steps p.tables e below (s₁.setTop (mkF m 1 #[.val (.ref a1), .val (.long q1), .second, .val (.double d1), .second] [(.ref a1)])) _
    refine st51 _ ?_
    show Steps p.tables e below (T51.setTop (mkF m 4 #[.val (.ref a1), .val (.long q1), .second, .val (.double d1), .second] [(.int (1 : Int32))])) _
    refine XS.aloadN X51.here hx rfl (hb hby d8_4) rfl rfl ?_
    show Steps p.tables e below (T51.setTop (mkF m 5 #[.val (.ref a1), .val (.long q1), .second, .val (.double d1), .second] [(.ref a1), (.int (1 : Int32))])) _
    refine st52 _ ?_
    show Steps p.tables e below (T52.setTop (mkF m 8 #[.val (.ref a1), .val (.long q1), .second, .val (.double d1), .second] [(.ref ae), (.int (1 : Int32))])) _
    refine X52.arraylength hx (by rw [e52]; exact Ar53.1) (State.isArrayOf_alike hZ.alike Ar53.2.1) (g := (mkF m 8 #[.val (.ref a1), .val (.long q1), .second, .val (.double d1), .second] [(.ref ae), (.int (1 : Int32))])) rfl rfl (hb hby d8_8) _ ?_
    rw [S53]
    show Steps p.tables e below (T52.setTop (mkF m 9 #[.val (.ref a1), .val (.long q1), .second, .val (.double d1), .second] [(.int (8 : Int32)), (.int (1 : Int32))])) _
    refine XS.icmpYes X52.here hx rfl (pc0 := 9) (pc' := 54) rfl (hb hby d8_9) rfl (XT.ii_ne_t (by decide)) (by decide) (by decide) ?_
    show Steps p.tables e below (T52.setTop (mkF m 54 #[.val (.ref a1), .val (.long q1), .second, .val (.double d1), .second] [])) _
    refine XS.aloadN X52.here hx rfl (hb hby d8_54) rfl rfl ?_
    show Steps p.tables e below (T52.setTop (mkF m 55 #[.val (.ref a1), .val (.long q1), .second, .val (.double d1), .second] [(.ref a1)])) _
    refine st54 _ ?_
    show Steps p.tables e below (T54.setTop (mkF m 58 #[.val (.ref a1), .val (.long q1), .second, .val (.double d1), .second] [(.int (1 : Int32))])) _
    refine XS.ifNo X54.here hx rfl (hb hby d8_58) rfl (XT.i0_eq_f (by decide)) ?_
    show Steps p.tables e below (T54.setTop (mkF m 61 #[.val (.ref a1), .val (.long q1), .second, .val (.double d1), .second] [])) _
    refine XS.aloadN X54.here hx rfl (hb hby d8_61) rfl rfl ?_
    show Steps p.tables e below (T54.setTop (mkF m 62 #[.val (.ref a1), .val (.long q1), .second, .val (.double d1), .second] [(.ref a1)])) _
    refine st55 _ ?_
    show Steps p.tables e below (T55.setTop (mkF m 65 #[.val (.ref a1), .val (.long q1), .second, .val (.double d1), .second] [(.ref ae)])) _
    refine XS.aloadN X55.here hx rfl (hb hby d8_65) rfl rfl ?_
    show Steps p.tables e below (T55.setTop (mkF m 66 #[.val (.ref a1), .val (.long q1), .second, .val (.double d1), .second] [(.ref a1), (.ref ae)])) _
    refine st56 _ ?_
    show Steps p.tables e below (T56.setTop (mkF m 69 #[.val (.ref a1), .val (.long q1), .second, .val (.double d1), .second] [(.int (1 : Int32)), (.ref ae)])) _
    refine XS.iconst X56.here hx rfl (hb hby d8_69) ?_
    show Steps p.tables e below (T56.setTop (mkF m 70 #[.val (.ref a1), .val (.long q1), .second, .val (.double d1), .second] [(.int (1 : Int32)), (.int (1 : Int32)), (.ref ae)])) _
    refine XS.isub X56.here hx rfl (hb hby d8_70) rfl ?_
    show Steps p.tables e below (T56.setTop (mkF m 71 #[.val (.ref a1), .val (.long q1), .second, .val (.double d1), .second] [(.int ((1 : Int32) - (1 : Int32))), (.ref ae)])) _
    refine X56.laload hx (j := ((1 : Int32) - (1 : Int32))) (v := (.long pv)) (by rw [e56]; exact Ar57.1) (State.isArrayOf_alike hZ.alike Ar57.2.1) Ar57.2.2 hin57 hat57 (g := (mkF m 71 #[.val (.ref a1), .val (.long q1), .second, .val (.double d1), .second] [(.int ((1 : Int32) - (1 : Int32))), (.ref ae)])) rfl rfl (hb hby d8_71) _ ?_
    show Steps p.tables e below (T56.setTop (mkF m 72 #[.val (.ref a1), .val (.long q1), .second, .val (.double d1), .second] [(.long pv)])) _
    refine XT.lloadN X56.here hx rfl (hb hby d8_72) rfl ?_
    show Steps p.tables e below (T56.setTop (mkF m 73 #[.val (.ref a1), .val (.long q1), .second, .val (.double d1), .second] [(.long q1), (.long pv)])) _
    refine XT.lcmp X56.here hx rfl (hb hby d8_73) rfl ?_
    show Steps p.tables e below (T56.setTop (mkF m 74 #[.val (.ref a1), .val (.long q1), .second, .val (.double d1), .second] [(.int (XT.cmpL pv q1))])) _
    refine XS.ifYes X56.here hx rfl (pc0 := 74) (pc' := 126) rfl (hb hby d8_74) rfl (XT.ll_lt_t hlt) (by decide) (by decide) ?_
    show Steps p.tables e below (T56.setTop (mkF m 126 #[.val (.ref a1), .val (.long q1), .second, .val (.double d1), .second] [])) _
    refine XS.aloadN X56.here hx rfl (hb hby d8_126) rfl rfl ?_
    show Steps p.tables e below (T56.setTop (mkF m 127 #[.val (.ref a1), .val (.long q1), .second, .val (.double d1), .second] [(.ref a1)])) _
    refine st58 _ ?_
    show Steps p.tables e below (T58.setTop (mkF m 130 #[.val (.ref a1), .val (.long q1), .second, .val (.double d1), .second] [(.ref ae)])) _
    refine XS.aloadN X58.here hx rfl (hb hby d8_130) rfl rfl ?_
    show Steps p.tables e below (T58.setTop (mkF m 131 #[.val (.ref a1), .val (.long q1), .second, .val (.double d1), .second] [(.ref a1), (.ref ae)])) _
    refine st59 _ ?_
    show Steps p.tables e below (T59.setTop (mkF m 134 #[.val (.ref a1), .val (.long q1), .second, .val (.double d1), .second] [(.int (1 : Int32)), (.ref ae)])) _
    refine XT.lloadN X59.here hx rfl (hb hby d8_134) rfl ?_
    show Steps p.tables e below (T59.setTop (mkF m 135 #[.val (.ref a1), .val (.long q1), .second, .val (.double d1), .second] [(.long q1), (.int (1 : Int32)), (.ref ae)])) _
    refine st60 _ ?_
    show Steps p.tables e below (T60.setTop (mkF m 136 #[.val (.ref a1), .val (.long q1), .second, .val (.double d1), .second] [])) _
    refine XS.aloadN X60.here hx rfl (hb hby d8_136) rfl rfl ?_
    show Steps p.tables e below (T60.setTop (mkF m 137 #[.val (.ref a1), .val (.long q1), .second, .val (.double d1), .second] [(.ref a1)])) _
    refine st61 _ ?_
    show Steps p.tables e below (T61.setTop (mkF m 140 #[.val (.ref a1), .val (.long q1), .second, .val (.double d1), .second] [(.ref as_)])) _
    refine XS.aloadN X61.here hx rfl (hb hby d8_140) rfl rfl ?_
    show Steps p.tables e below (T61.setTop (mkF m 141 #[.val (.ref a1), .val (.long q1), .second, .val (.double d1), .second] [(.ref a1), (.ref as_)])) _
    refine XS.dup X61.here hx rfl (hb hby d8_141) rfl rfl ?_
    show Steps p.tables e below (T61.setTop (mkF m 142 #[.val (.ref a1), .val (.long q1), .second, .val (.double d1), .second] [(.ref a1), (.ref a1), (.ref as_)])) _
    refine st62 _ ?_
    show Steps p.tables e below (T62.setTop (mkF m 145 #[.val (.ref a1), .val (.long q1), .second, .val (.double d1), .second] [(.int (1 : Int32)), (.ref a1), (.ref as_)])) _
    refine XT.dupX1 X62.here hx rfl (hb hby d8_145) rfl rfl rfl ?_
    show Steps p.tables e below (T62.setTop (mkF m 146 #[.val (.ref a1), .val (.long q1), .second, .val (.double d1), .second] [(.int (1 : Int32)), (.ref a1), (.int (1 : Int32)), (.ref as_)])) _
    refine XS.iconst X62.here hx rfl (hb hby d8_146) ?_
    show Steps p.tables e below (T62.setTop (mkF m 147 #[.val (.ref a1), .val (.long q1), .second, .val (.double d1), .second] [(.int (1 : Int32)), (.int (1 : Int32)), (.ref a1), (.int (1 : Int32)), (.ref as_)])) _
    refine XS.iadd X62.here hx rfl (hb hby d8_147) rfl ?_
    show Steps p.tables e below (T62.setTop (mkF m 148 #[.val (.ref a1), .val (.long q1), .second, .val (.double d1), .second] [(.int ((1 : Int32) + (1 : Int32))), (.ref a1), (.int (1 : Int32)), (.ref as_)])) _
    refine st63 _ ?_
    show Steps p.tables e below (T63.setTop (mkF m 151 #[.val (.ref a1), .val (.long q1), .second, .val (.double d1), .second] [(.int (1 : Int32)), (.ref as_)])) _
    refine own_dloadN X63.here hx rfl (hb hby d8_151) rfl ?_
    show Steps p.tables e below (T63.setTop (mkF m 152 #[.val (.ref a1), .val (.long q1), .second, .val (.double d1), .second] [(.double d1), (.int (1 : Int32)), (.ref as_)])) _
    refine st64 _ ?_
    show Steps p.tables e below (T64.setTop (mkF m 153 #[.val (.ref a1), .val (.long q1), .second, .val (.double d1), .second] [])) _
    exact X64.returnOut hx Bd.returns (hb hby d8_153) hr
  · show Q_own_add1 Z a1 q1 d1 ae as_ ar ke ks kr fe fs_ fr pv h0 n0 _ T64.heap _
    rw [e64]
    exact ⟨rfl, N64, (((E_.wr W60).wr W63).wr W64), (((F_e.other W60 (Or.inl (Nat.ne_of_lt (Nat.lt_trans l1 l2)))).other W63 (Or.inr (slot_ne (Or.inl (hw _ (List.mem_of_getElem? (i := 31) rfl))) (Or.inl (hw _ (List.mem_of_getElem? (i := 41) rfl))) (by decide) (t := (.array .long)) (t' := .int) (by decide) (by decide)))).other W64 (Or.inl (Nat.ne_of_lt (Nat.lt_trans (Nat.lt_trans l1 l2) l3)))), (((F_s.other W60 (Or.inl (Nat.ne_of_lt (Nat.lt_trans l1 l2)))).other W63 (Or.inr (slot_ne (Or.inl (hw _ (List.mem_of_getElem? (i := 34) rfl))) (Or.inl (hw _ (List.mem_of_getElem? (i := 41) rfl))) (by decide) (t := (.array .double)) (t' := .int) (by decide) (by decide)))).other W64 (Or.inl (Nat.ne_of_lt (Nat.lt_trans (Nat.lt_trans l1 l2) l3)))), (Fw63.other W64 (Or.inl (Nat.ne_of_lt (Nat.lt_trans (Nat.lt_trans l1 l2) l3)))), (((F_r.other W60 (Or.inl (Nat.ne_of_lt (Nat.lt_trans l1 l2)))).other W63 (Or.inr (slot_ne (Or.inl (hw _ (List.mem_of_getElem? (i := 25) rfl))) (Or.inl (hw _ (List.mem_of_getElem? (i := 41) rfl))) (by decide) (t := (.array .int)) (t' := .int) (by decide) (by decide)))).other W64 (Or.inl (Nat.ne_of_lt (Nat.lt_trans (Nat.lt_trans l1 l2) l3)))), (((F_u.other W60 (Or.inl (Nat.ne_of_lt (Nat.lt_trans l1 l2)))).other W63 (Or.inr (slot_ne (Or.inl (hw _ (List.mem_of_getElem? (i := 43) rfl))) (Or.inl (hw _ (List.mem_of_getElem? (i := 41) rfl))) (by decide) (t := .int) (t' := .int) (by decide) (by decide)))).other W64 (Or.inl (Nat.ne_of_lt (Nat.lt_trans (Nat.lt_trans l1 l2) l3)))), ((V60.other W63 (Ne.symm (Nat.ne_of_lt (Nat.lt_trans l1 l2)))).other W64 (Nat.ne_of_lt l3)), V64, (((V_r.other W60 (Nat.ne_of_lt l2)).other W63 (Ne.symm (Nat.ne_of_lt l1))).other W64 (Nat.ne_of_lt (Nat.lt_trans l2 l3)))⟩
theorem pn_own_add2 : plainName "com/example/xml_element_search/xmlelementsearch/ElementScores" = true := by first | (simp [plainName, overriddenIn]; done) | decide +kernel
theorem ef_own_add2 (m : MethodId) (x0 : Addr) (x1 : Int64) (x2 : UInt64) : entryFrame m #[(.ref x0), (.long x1), (.double x2)] 5 = mkF m 0 #[.val (.ref x0), .val (.long x1), .second, .val (.double x2), .second] [] := by first | (simp [entryFrame, mkF, argsToLocals, Value.category]; done) | rfl
def Q_own_add2 (Z : State) (a1 : Addr) (q1 : Int64) (d1 : UInt64) (ae : Addr) (as_ : Addr) (ar : Addr) (ke : ClassId) (ks : ClassId) (kr : ClassId) (fe : Nat → Value) (fs_ : Nat → Value) (fr : Nat → Value) (pv : Int64) (h0 : Heap) (n0 : Nat) (v : Option Value) (h : Heap) (L : List Loc) : Prop := v = none ∧ Fr n0 L ∧ Exa Z h a1 "com/example/xml_element_search/xmlelementsearch/ElementScores" ∧ Fld Z h a1 "com/example/xml_element_search/xmlelementsearch/ElementScores" "elements" "[J" (.ref ae) ∧ Fld Z h a1 "com/example/xml_element_search/xmlelementsearch/ElementScores" "scores" "[D" (.ref as_) ∧ Fld Z h a1 "com/example/xml_element_search/xmlelementsearch/ElementScores" "size" "I" (.int (3 : Int32)) ∧ Fld Z h a1 "com/example/xml_element_search/xmlelementsearch/ElementScores" "runStarts" "[I" (.ref ar) ∧ Fld Z h a1 "com/example/xml_element_search/xmlelementsearch/ElementScores" "runs" "I" (.int (1 : Int32)) ∧ Arf Z h ae ke .long 8 (upd fe 2 (.long q1)) ∧ Arf Z h as_ ks .double 8 (upd fs_ 2 (.double d1)) ∧ Arf Z h ar kr .int 1 fr
set_option maxRecDepth 65536 in
set_option maxHeartbeats 40000000 in
theorem own_add2 (l : Launch) (Z : State) (a0 : Array Value) (hw : ∀ d ∈ tables_1, d.before a0 Z = true) (ws : List Jvm.Cond) (a1 : Addr) (q1 : Int64) (d1 : UInt64) (ae : Addr) (as_ : Addr) (ar : Addr) (ke : ClassId) (ks : ClassId) (kr : ClassId) (fe : Nat → Value) (fs_ : Nat → Value) (fr : Nat → Value) (pv : Int64) (h0 : Heap) (n0 : Nat) (Z0 : n0 ≤ h0.size) (hpv : fe 1 = .long pv) (hlt : pv < q1) (g_a1 : n0 ≤ a1) (l1 : a1 < ar) (l2 : ar < ae) (l3 : ae < as_) (g_ar : n0 ≤ ar) (g_ae : n0 ≤ ae) (g_as_ : n0 ≤ as_) (E_ : Exa Z h0 a1 "com/example/xml_element_search/xmlelementsearch/ElementScores") (F_e : Fld Z h0 a1 "com/example/xml_element_search/xmlelementsearch/ElementScores" "elements" "[J" (.ref ae)) (F_s : Fld Z h0 a1 "com/example/xml_element_search/xmlelementsearch/ElementScores" "scores" "[D" (.ref as_)) (F_n : Fld Z h0 a1 "com/example/xml_element_search/xmlelementsearch/ElementScores" "size" "I" (.int (2 : Int32))) (F_r : Fld Z h0 a1 "com/example/xml_element_search/xmlelementsearch/ElementScores" "runStarts" "[I" (.ref ar)) (F_u : Fld Z h0 a1 "com/example/xml_element_search/xmlelementsearch/ElementScores" "runs" "I" (.int (1 : Int32))) (V_e : Arf Z h0 ae ke .long 8 fe) (V_s : Arf Z h0 as_ ks .double 8 fs_) (V_r : Arf Z h0 ar kr .int 1 fr) :
    MetFree l (⟨"com/example/xml_element_search/xmlelementsearch/ElementScores", "add", "(JD)V"⟩ : MethodName) (head1 (Jvm.Cond.code (⟨"com/example/xml_element_search/xmlelementsearch/ElementScores", "add", "(JD)V"⟩ : MethodName) prog_24_method_3_code 5 none :: ws) ({ frames := 0, cells := 0, slots := 0, locals := 0 } : Room)) (fun a U => a = #[(.ref a1), (.long q1), (.double d1)] ∧ Z.Warmed39 U.vm ∧ U.heap = h0) (fun _ _ _ _ _ => True) (fun _ U o U' => ∃ v L, o = .returned v ∧ Q_own_add2 Z a1 q1 d1 ae as_ ar ke ks kr fe fs_ fr pv h0 n0 v U'.heap L ∧ FrameEnd U o U' L ({ frames := 0, cells := 0, slots := 0, locals := 0 } : Room).cells ({ frames := 0, cells := 0, slots := 0, locals := 0 } : Room).slots) := by
  refine MetFree.of_bodySF (plainFor_of_name pn_own_add2) hisR ?_
  intro p e s m args below meth c s₁ Bd hml0 hP hK
  obtain ⟨rfl, hZ, hh⟩ := hP
  have hx := Bd.exec
  have hby := Bd.bytes
  have hml : c.maxLocals = 5 := hml0
  have hown : s.vm.findClass "com/example/xml_element_search/xmlelementsearch/ElementScores" = some m.cls := findClass_of_methodNamed Bd.named
  have hnm := (name_of_methodNamed Bd.named Bd.method).1
  have X0 : Stand p l e ({ frames := 0, cells := 0, slots := 0, locals := 0 } : Room) s m #[(.ref a1), (.long q1), (.double d1)] below meth c s₁ [] 0 0 := Stand.of_body Bd
  have e0 : s₁.heap = h0 := by rw [← hh, Bd.state]; rfl
  have N0 := Fr.nil n0
  have pre0 : ∀ t, Steps p.tables e below (s₁.setTop (mkF m 0 #[.val (.ref a1), .val (.long q1), .second, .val (.double d1), .second] [])) t → Steps p.tables e below (s₁.setTop (entryFrame m #[(.ref a1), (.long q1), (.double d1)] 5)) t := fun t k => castTop (ef_own_add2 m (a1) (q1) (d1)) k
  obtain ⟨T65, X65, e65, st65⟩ := getF X0 hx hZ hown (host := "") (Or.inl (hw _ (List.mem_of_getElem? (i := 40) rfl))) Via.refl e0 F_n (g := (mkF m 1 #[.val (.ref a1), .val (.long q1), .second, .val (.double d1), .second] [(.ref a1)])) rfl rfl (hb hby d8_1)
  obtain ⟨T66, X66, e66, st66⟩ := getF X65 hx hZ hown (host := "") (Or.inl (hw _ (List.mem_of_getElem? (i := 30) rfl))) Via.refl e65 F_e (g := (mkF m 5 #[.val (.ref a1), .val (.long q1), .second, .val (.double d1), .second] [(.ref a1), (.int (2 : Int32))])) rfl rfl (hb hby d8_5)
  obtain ⟨cl67, Ar67, qk67, S67, B67, H67, G67⟩ := id V_e
  obtain ⟨T68, X68, e68, st68⟩ := getF X66 hx hZ hown (host := "") (Or.inl (hw _ (List.mem_of_getElem? (i := 40) rfl))) Via.refl e66 F_n (g := (mkF m 55 #[.val (.ref a1), .val (.long q1), .second, .val (.double d1), .second] [(.ref a1)])) rfl rfl (hb hby d8_55)
  obtain ⟨T69, X69, e69, st69⟩ := getF X68 hx hZ hown (host := "") (Or.inl (hw _ (List.mem_of_getElem? (i := 30) rfl))) Via.refl e68 F_e (g := (mkF m 62 #[.val (.ref a1), .val (.long q1), .second, .val (.double d1), .second] [(.ref a1)])) rfl rfl (hb hby d8_62)
  obtain ⟨T70, X70, e70, st70⟩ := getF X69 hx hZ hown (host := "") (Or.inl (hw _ (List.mem_of_getElem? (i := 40) rfl))) Via.refl e69 F_n (g := (mkF m 66 #[.val (.ref a1), .val (.long q1), .second, .val (.double d1), .second] [(.ref a1), (.ref ae)])) rfl rfl (hb hby d8_66)
  obtain ⟨cl71, Ar71, qk71, S71, B71, H71, G71⟩ := id V_e
  have hin71 : ¬ (((2 : Int32) - (1 : Int32)) < 0 ∨ cl71.slots.size ≤ (((2 : Int32) - (1 : Int32))).toNatClampNeg) := own_inb S71 ⟨by decide, rfl⟩ (by decide)
  have hat71 : cl71.slots[(((2 : Int32) - (1 : Int32))).toNatClampNeg]? = some (.long pv) := own_hat H71 ⟨by decide, rfl⟩ (by decide) hpv
  obtain ⟨T72, X72, e72, st72⟩ := getF X70 hx hZ hown (host := "") (Or.inl (hw _ (List.mem_of_getElem? (i := 30) rfl))) Via.refl e70 F_e (g := (mkF m 127 #[.val (.ref a1), .val (.long q1), .second, .val (.double d1), .second] [(.ref a1)])) rfl rfl (hb hby d8_127)
  obtain ⟨T73, X73, e73, st73⟩ := getF X72 hx hZ hown (host := "") (Or.inl (hw _ (List.mem_of_getElem? (i := 40) rfl))) Via.refl e72 F_n (g := (mkF m 131 #[.val (.ref a1), .val (.long q1), .second, .val (.double d1), .second] [(.ref a1), (.ref ae)])) rfl rfl (hb hby d8_131)
  obtain ⟨cl74, Ar74, qk74, S74, B74, H74, G74⟩ := id V_e
  have hin74 : ¬ ((2 : Int32) < 0 ∨ cl74.slots.size ≤ ((2 : Int32)).toNatClampNeg) := own_inb S74 ⟨by decide, rfl⟩ (by decide)
  obtain ⟨T74, h74, X74, e74, W74, st74⟩ := stJ X73 hx hZ e73 Ar74 (j := (2 : Int32)) hin74 (g := (mkF m 135 #[.val (.ref a1), .val (.long q1), .second, .val (.double d1), .second] [(.long q1), (.int (2 : Int32)), (.ref ae)])) rfl rfl (hb hby d8_135)
  have V74 := own_set Ar74 qk74 S74 B74 H74 G74 rfl ⟨by decide, rfl⟩ W74
  have N74 := Fr.snoc X74 N0 g_ae
  obtain ⟨T75, X75, e75, st75⟩ := getF X74 hx hZ hown (host := "") (Or.inl (hw _ (List.mem_of_getElem? (i := 33) rfl))) Via.refl e74 (F_s.other W74 (Or.inl (Nat.ne_of_lt (Nat.lt_trans l1 l2)))) (g := (mkF m 137 #[.val (.ref a1), .val (.long q1), .second, .val (.double d1), .second] [(.ref a1)])) rfl rfl (hb hby d8_137)
  obtain ⟨T76, X76, e76, st76⟩ := getF X75 hx hZ hown (host := "") (Or.inl (hw _ (List.mem_of_getElem? (i := 40) rfl))) Via.refl e75 (F_n.other W74 (Or.inl (Nat.ne_of_lt (Nat.lt_trans l1 l2)))) (g := (mkF m 142 #[.val (.ref a1), .val (.long q1), .second, .val (.double d1), .second] [(.ref a1), (.ref a1), (.ref as_)])) rfl rfl (hb hby d8_142)
  obtain ⟨T77, h77, X77, e77, W77, st77⟩ := putF X76 hx hZ hown (host := "") (Or.inl (hw _ (List.mem_of_getElem? (i := 40) rfl))) Via.refl e76 (F_n.other W74 (Or.inl (Nat.ne_of_lt (Nat.lt_trans l1 l2)))) (E_.wr W74) (Or.inl (hw _ (List.mem_of_getElem? (i := 41) rfl))) (hw _ (List.mem_of_getElem? (i := 12) rfl)) (ty := .int) (by decide) rfl rfl (g := (mkF m 148 #[.val (.ref a1), .val (.long q1), .second, .val (.double d1), .second] [(.int ((2 : Int32) + (1 : Int32))), (.ref a1), (.int (2 : Int32)), (.ref as_)])) rfl rfl (hb hby d8_148)
  have Fw77 := (F_n.other W74 (Or.inl (Nat.ne_of_lt (Nat.lt_trans l1 l2)))).same W77
  have N77 := Fr.snoc X77 N74 g_a1
  obtain ⟨cl78, Ar78, qk78, S78, B78, H78, G78⟩ := id ((V_s.other W74 (Ne.symm (Nat.ne_of_lt l3))).other W77 (Ne.symm (Nat.ne_of_lt (Nat.lt_trans (Nat.lt_trans l1 l2) l3))))
  have hin78 : ¬ ((2 : Int32) < 0 ∨ cl78.slots.size ≤ ((2 : Int32)).toNatClampNeg) := own_inb S78 ⟨by decide, rfl⟩ (by decide)
  obtain ⟨T78, h78, X78, e78, W78, st78⟩ := own_stD X77 hx hZ e77 Ar78 (j := (2 : Int32)) hin78 (g := (mkF m 152 #[.val (.ref a1), .val (.long q1), .second, .val (.double d1), .second] [(.double d1), (.int (2 : Int32)), (.ref as_)])) rfl rfl (hb hby d8_152)
  have V78 := own_set Ar78 qk78 S78 B78 H78 G78 rfl ⟨by decide, rfl⟩ W78
  have N78 := Fr.snoc X78 N77 g_as_
  obtain ⟨fs, hr, hrun, hended, hW, hsame⟩ := X78.leave (v := none) (fun _ => rfl)
  refine ⟨_, _, pre0 _ ?_, hrun, hended, _, _, rfl, ?_, ⟨_, rfl⟩, hW, hsame.mono (by decide) (by decide)⟩
  · show Steps p.tables e below (s₁.setTop (mkF m 0 #[.val (.ref a1), .val (.long q1), .second, .val (.double d1), .second] [])) _
    refine XS.aloadN X0.here hx rfl (hb hby d8_0) rfl rfl ?_
    show Steps p.tables e below (s₁.setTop (mkF m 1 #[.val (.ref a1), .val (.long q1), .second, .val (.double d1), .second] [(.ref a1)])) _
    refine st65 _ ?_
    show Steps p.tables e below (T65.setTop (mkF m 4 #[.val (.ref a1), .val (.long q1), .second, .val (.double d1), .second] [(.int (2 : Int32))])) _
    refine XS.aloadN X65.here hx rfl (hb hby d8_4) rfl rfl ?_
    show Steps p.tables e below (T65.setTop (mkF m 5 #[.val (.ref a1), .val (.long q1), .second, .val (.double d1), .second] [(.ref a1), (.int (2 : Int32))])) _
    refine st66 _ ?_
    show Steps p.tables e below (T66.setTop (mkF m 8 #[.val (.ref a1), .val (.long q1), .second, .val (.double d1), .second] [(.ref ae), (.int (2 : Int32))])) _
    refine X66.arraylength hx (by rw [e66]; exact Ar67.1) (State.isArrayOf_alike hZ.alike Ar67.2.1) (g := (mkF m 8 #[.val (.ref a1), .val (.long q1), .second, .val (.double d1), .second] [(.ref ae), (.int (2 : Int32))])) rfl rfl (hb hby d8_8) _ ?_
    rw [S67]
    show Steps p.tables e below (T66.setTop (mkF m 9 #[.val (.ref a1), .val (.long q1), .second, .val (.double d1), .second] [(.int (8 : Int32)), (.int (2 : Int32))])) _
    refine XS.icmpYes X66.here hx rfl (pc0 := 9) (pc' := 54) rfl (hb hby d8_9) rfl (XT.ii_ne_t (by decide)) (by decide) (by decide) ?_
    show Steps p.tables e below (T66.setTop (mkF m 54 #[.val (.ref a1), .val (.long q1), .second, .val (.double d1), .second] [])) _
    refine XS.aloadN X66.here hx rfl (hb hby d8_54) rfl rfl ?_
    show Steps p.tables e below (T66.setTop (mkF m 55 #[.val (.ref a1), .val (.long q1), .second, .val (.double d1), .second] [(.ref a1)])) _
    refine st68 _ ?_
    show Steps p.tables e below (T68.setTop (mkF m 58 #[.val (.ref a1), .val (.long q1), .second, .val (.double d1), .second] [(.int (2 : Int32))])) _
    refine XS.ifNo X68.here hx rfl (hb hby d8_58) rfl (XT.i0_eq_f (by decide)) ?_
    show Steps p.tables e below (T68.setTop (mkF m 61 #[.val (.ref a1), .val (.long q1), .second, .val (.double d1), .second] [])) _
    refine XS.aloadN X68.here hx rfl (hb hby d8_61) rfl rfl ?_
    show Steps p.tables e below (T68.setTop (mkF m 62 #[.val (.ref a1), .val (.long q1), .second, .val (.double d1), .second] [(.ref a1)])) _
    refine st69 _ ?_
    show Steps p.tables e below (T69.setTop (mkF m 65 #[.val (.ref a1), .val (.long q1), .second, .val (.double d1), .second] [(.ref ae)])) _
    refine XS.aloadN X69.here hx rfl (hb hby d8_65) rfl rfl ?_
    show Steps p.tables e below (T69.setTop (mkF m 66 #[.val (.ref a1), .val (.long q1), .second, .val (.double d1), .second] [(.ref a1), (.ref ae)])) _
    refine st70 _ ?_
    show Steps p.tables e below (T70.setTop (mkF m 69 #[.val (.ref a1), .val (.long q1), .second, .val (.double d1), .second] [(.int (2 : Int32)), (.ref ae)])) _
    refine XS.iconst X70.here hx rfl (hb hby d8_69) ?_
    show Steps p.tables e below (T70.setTop (mkF m 70 #[.val (.ref a1), .val (.long q1), .second, .val (.double d1), .second] [(.int (1 : Int32)), (.int (2 : Int32)), (.ref ae)])) _
    refine XS.isub X70.here hx rfl (hb hby d8_70) rfl ?_
    show Steps p.tables e below (T70.setTop (mkF m 71 #[.val (.ref a1), .val (.long q1), .second, .val (.double d1), .second] [(.int ((2 : Int32) - (1 : Int32))), (.ref ae)])) _
    refine X70.laload hx (j := ((2 : Int32) - (1 : Int32))) (v := (.long pv)) (by rw [e70]; exact Ar71.1) (State.isArrayOf_alike hZ.alike Ar71.2.1) Ar71.2.2 hin71 hat71 (g := (mkF m 71 #[.val (.ref a1), .val (.long q1), .second, .val (.double d1), .second] [(.int ((2 : Int32) - (1 : Int32))), (.ref ae)])) rfl rfl (hb hby d8_71) _ ?_
    show Steps p.tables e below (T70.setTop (mkF m 72 #[.val (.ref a1), .val (.long q1), .second, .val (.double d1), .second] [(.long pv)])) _
    refine XT.lloadN X70.here hx rfl (hb hby d8_72) rfl ?_
    show Steps p.tables e below (T70.setTop (mkF m 73 #[.val (.ref a1), .val (.long q1), .second, .val (.double d1), .second] [(.long q1), (.long pv)])) _
    refine XT.lcmp X70.here hx rfl (hb hby d8_73) rfl ?_
    show Steps p.tables e below (T70.setTop (mkF m 74 #[.val (.ref a1), .val (.long q1), .second, .val (.double d1), .second] [(.int (XT.cmpL pv q1))])) _
    refine XS.ifYes X70.here hx rfl (pc0 := 74) (pc' := 126) rfl (hb hby d8_74) rfl (XT.ll_lt_t hlt) (by decide) (by decide) ?_
    show Steps p.tables e below (T70.setTop (mkF m 126 #[.val (.ref a1), .val (.long q1), .second, .val (.double d1), .second] [])) _
    refine XS.aloadN X70.here hx rfl (hb hby d8_126) rfl rfl ?_
    show Steps p.tables e below (T70.setTop (mkF m 127 #[.val (.ref a1), .val (.long q1), .second, .val (.double d1), .second] [(.ref a1)])) _
    refine st72 _ ?_
    show Steps p.tables e below (T72.setTop (mkF m 130 #[.val (.ref a1), .val (.long q1), .second, .val (.double d1), .second] [(.ref ae)])) _
    refine XS.aloadN X72.here hx rfl (hb hby d8_130) rfl rfl ?_
    show Steps p.tables e below (T72.setTop (mkF m 131 #[.val (.ref a1), .val (.long q1), .second, .val (.double d1), .second] [(.ref a1), (.ref ae)])) _
    refine st73 _ ?_
    show Steps p.tables e below (T73.setTop (mkF m 134 #[.val (.ref a1), .val (.long q1), .second, .val (.double d1), .second] [(.int (2 : Int32)), (.ref ae)])) _
    refine XT.lloadN X73.here hx rfl (hb hby d8_134) rfl ?_
    show Steps p.tables e below (T73.setTop (mkF m 135 #[.val (.ref a1), .val (.long q1), .second, .val (.double d1), .second] [(.long q1), (.int (2 : Int32)), (.ref ae)])) _
    refine st74 _ ?_
    show Steps p.tables e below (T74.setTop (mkF m 136 #[.val (.ref a1), .val (.long q1), .second, .val (.double d1), .second] [])) _
    refine XS.aloadN X74.here hx rfl (hb hby d8_136) rfl rfl ?_
    show Steps p.tables e below (T74.setTop (mkF m 137 #[.val (.ref a1), .val (.long q1), .second, .val (.double d1), .second] [(.ref a1)])) _
    refine st75 _ ?_
    show Steps p.tables e below (T75.setTop (mkF m 140 #[.val (.ref a1), .val (.long q1), .second, .val (.double d1), .second] [(.ref as_)])) _
    refine XS.aloadN X75.here hx rfl (hb hby d8_140) rfl rfl ?_
    show Steps p.tables e below (T75.setTop (mkF m 141 #[.val (.ref a1), .val (.long q1), .second, .val (.double d1), .second] [(.ref a1), (.ref as_)])) _
    refine XS.dup X75.here hx rfl (hb hby d8_141) rfl rfl ?_
    show Steps p.tables e below (T75.setTop (mkF m 142 #[.val (.ref a1), .val (.long q1), .second, .val (.double d1), .second] [(.ref a1), (.ref a1), (.ref as_)])) _
    refine st76 _ ?_
    show Steps p.tables e below (T76.setTop (mkF m 145 #[.val (.ref a1), .val (.long q1), .second, .val (.double d1), .second] [(.int (2 : Int32)), (.ref a1), (.ref as_)])) _
    refine XT.dupX1 X76.here hx rfl (hb hby d8_145) rfl rfl rfl ?_
    show Steps p.tables e below (T76.setTop (mkF m 146 #[.val (.ref a1), .val (.long q1), .second, .val (.double d1), .second] [(.int (2 : Int32)), (.ref a1), (.int (2 : Int32)), (.ref as_)])) _
    refine XS.iconst X76.here hx rfl (hb hby d8_146) ?_
    show Steps p.tables e below (T76.setTop (mkF m 147 #[.val (.ref a1), .val (.long q1), .second, .val (.double d1), .second] [(.int (1 : Int32)), (.int (2 : Int32)), (.ref a1), (.int (2 : Int32)), (.ref as_)])) _
    refine XS.iadd X76.here hx rfl (hb hby d8_147) rfl ?_
    show Steps p.tables e below (T76.setTop (mkF m 148 #[.val (.ref a1), .val (.long q1), .second, .val (.double d1), .second] [(.int ((2 : Int32) + (1 : Int32))), (.ref a1), (.int (2 : Int32)), (.ref as_)])) _
    refine st77 _ ?_
    show Steps p.tables e below (T77.setTop (mkF m 151 #[.val (.ref a1), .val (.long q1), .second, .val (.double d1), .second] [(.int (2 : Int32)), (.ref as_)])) _
    refine own_dloadN X77.here hx rfl (hb hby d8_151) rfl ?_
    show Steps p.tables e below (T77.setTop (mkF m 152 #[.val (.ref a1), .val (.long q1), .second, .val (.double d1), .second] [(.double d1), (.int (2 : Int32)), (.ref as_)])) _
    refine st78 _ ?_
    show Steps p.tables e below (T78.setTop (mkF m 153 #[.val (.ref a1), .val (.long q1), .second, .val (.double d1), .second] [])) _
    exact X78.returnOut hx Bd.returns (hb hby d8_153) hr
  · show Q_own_add2 Z a1 q1 d1 ae as_ ar ke ks kr fe fs_ fr pv h0 n0 _ T78.heap _
    rw [e78]
    exact ⟨rfl, N78, (((E_.wr W74).wr W77).wr W78), (((F_e.other W74 (Or.inl (Nat.ne_of_lt (Nat.lt_trans l1 l2)))).other W77 (Or.inr (slot_ne (Or.inl (hw _ (List.mem_of_getElem? (i := 31) rfl))) (Or.inl (hw _ (List.mem_of_getElem? (i := 41) rfl))) (by decide) (t := (.array .long)) (t' := .int) (by decide) (by decide)))).other W78 (Or.inl (Nat.ne_of_lt (Nat.lt_trans (Nat.lt_trans l1 l2) l3)))), (((F_s.other W74 (Or.inl (Nat.ne_of_lt (Nat.lt_trans l1 l2)))).other W77 (Or.inr (slot_ne (Or.inl (hw _ (List.mem_of_getElem? (i := 34) rfl))) (Or.inl (hw _ (List.mem_of_getElem? (i := 41) rfl))) (by decide) (t := (.array .double)) (t' := .int) (by decide) (by decide)))).other W78 (Or.inl (Nat.ne_of_lt (Nat.lt_trans (Nat.lt_trans l1 l2) l3)))), (Fw77.other W78 (Or.inl (Nat.ne_of_lt (Nat.lt_trans (Nat.lt_trans l1 l2) l3)))), (((F_r.other W74 (Or.inl (Nat.ne_of_lt (Nat.lt_trans l1 l2)))).other W77 (Or.inr (slot_ne (Or.inl (hw _ (List.mem_of_getElem? (i := 25) rfl))) (Or.inl (hw _ (List.mem_of_getElem? (i := 41) rfl))) (by decide) (t := (.array .int)) (t' := .int) (by decide) (by decide)))).other W78 (Or.inl (Nat.ne_of_lt (Nat.lt_trans (Nat.lt_trans l1 l2) l3)))), (((F_u.other W74 (Or.inl (Nat.ne_of_lt (Nat.lt_trans l1 l2)))).other W77 (Or.inr (slot_ne (Or.inl (hw _ (List.mem_of_getElem? (i := 43) rfl))) (Or.inl (hw _ (List.mem_of_getElem? (i := 41) rfl))) (by decide) (t := .int) (t' := .int) (by decide) (by decide)))).other W78 (Or.inl (Nat.ne_of_lt (Nat.lt_trans (Nat.lt_trans l1 l2) l3)))), ((V74.other W77 (Ne.symm (Nat.ne_of_lt (Nat.lt_trans l1 l2)))).other W78 (Nat.ne_of_lt l3)), V78, (((V_r.other W74 (Nat.ne_of_lt l2)).other W77 (Ne.symm (Nat.ne_of_lt l1))).other W78 (Nat.ne_of_lt (Nat.lt_trans l2 l3)))⟩
theorem d9_0 : decode jdk_31_method_10_code 0 = .ok (.aload_n 0, 1) := by decide +kernel
theorem d9_1 : decode jdk_31_method_10_code 1 = .ok (.ifnonnull 11, 3) := by decide +kernel
theorem d9_12 : decode jdk_31_method_10_code 12 = .ok (.aload_n 0, 1) := by decide +kernel
theorem d9_13 : decode jdk_31_method_10_code 13 = .ok (.areturn, 1) := by decide +kernel
theorem pn_own_rnn : plainName "java/util/Objects" = true := by first | (simp [plainName, overriddenIn]; done) | decide +kernel
theorem ef_own_rnn (m : MethodId) (x0 : Addr) : entryFrame m #[(.ref x0)] 1 = mkF m 0 #[.val (.ref x0)] [] := by first | (simp [entryFrame, mkF, argsToLocals, Value.category]; done) | rfl
def Q_own_rnn (Z : State) (a1 : Addr)  (h0 : Heap) (n0 : Nat) (v : Option Value) (h : Heap) (L : List Loc) : Prop := v = some (.ref a1) ∧ Fr n0 L ∧ h = h0
set_option maxRecDepth 65536 in
set_option maxHeartbeats 40000000 in
theorem own_rnn (l : Launch) (Z : State) (a0 : Array Value) (hw : ∀ d ∈ tables_1, d.before a0 Z = true) (ws : List Jvm.Cond) (a1 : Addr)  (h0 : Heap) (n0 : Nat) (Z0 : n0 ≤ h0.size)  :
    MetFree l (⟨"java/util/Objects", "requireNonNull", "(Ljava/lang/Object;)Ljava/lang/Object;"⟩ : MethodName) (head1 (Jvm.Cond.code (⟨"java/util/Objects", "requireNonNull", "(Ljava/lang/Object;)Ljava/lang/Object;"⟩ : MethodName) jdk_31_method_10_code 1 (some (.object "java/lang/Object")) :: ws) ({ frames := 0, cells := 0, slots := 0, locals := 0 } : Room)) (fun a U => a = #[(.ref a1)] ∧ Z.Warmed39 U.vm ∧ U.heap = h0) (fun _ _ _ _ _ => True) (fun _ U o U' => ∃ v L, o = .returned v ∧ Q_own_rnn Z a1  h0 n0 v U'.heap L ∧ FrameEnd U o U' L ({ frames := 0, cells := 0, slots := 0, locals := 0 } : Room).cells ({ frames := 0, cells := 0, slots := 0, locals := 0 } : Room).slots) := by
  refine MetFree.of_bodySF (plainFor_of_name pn_own_rnn) hisR ?_
  intro p e s m args below meth c s₁ Bd hml0 hP hK
  obtain ⟨rfl, hZ, hh⟩ := hP
  have hx := Bd.exec
  have hby := Bd.bytes
  have hml : c.maxLocals = 1 := hml0
  have hown : s.vm.findClass "java/util/Objects" = some m.cls := findClass_of_methodNamed Bd.named
  have hnm := (name_of_methodNamed Bd.named Bd.method).1
  have X0 : Stand p l e ({ frames := 0, cells := 0, slots := 0, locals := 0 } : Room) s m #[(.ref a1)] below meth c s₁ [] 0 0 := Stand.of_body Bd
  have e0 : s₁.heap = h0 := by rw [← hh, Bd.state]; rfl
  have N0 := Fr.nil n0
  have pre0 : ∀ t, Steps p.tables e below (s₁.setTop (mkF m 0 #[.val (.ref a1)] [])) t → Steps p.tables e below (s₁.setTop (entryFrame m #[(.ref a1)] 1)) t := fun t k => castTop (ef_own_rnn m (a1)) k
  obtain ⟨fs, hr, hrun, hended, hW, hsame⟩ := X0.leave (v := some (.ref a1)) (fun h => by rw [Bd.returns] at h; cases h)
  refine ⟨_, _, pre0 _ ?_, hrun, hended, _, _, rfl, ?_, ⟨_, rfl⟩, hW, hsame.mono (by decide) (by decide)⟩
  · show Steps p.tables e below (s₁.setTop (mkF m 0 #[.val (.ref a1)] [])) _
    refine XS.aloadN X0.here hx rfl (hb hby d9_0) rfl rfl ?_
    show Steps p.tables e below (s₁.setTop (mkF m 1 #[.val (.ref a1)] [(.ref a1)])) _
    refine XT.ifnonnullYes X0.here hx rfl (pc0 := 1) (pc' := 12) rfl (hb hby d9_1) rfl (by decide) (by decide) ?_
    show Steps p.tables e below (s₁.setTop (mkF m 12 #[.val (.ref a1)] [])) _
    refine XS.aloadN X0.here hx rfl (hb hby d9_12) rfl rfl ?_
    show Steps p.tables e below (s₁.setTop (mkF m 13 #[.val (.ref a1)] [(.ref a1)])) _
    exact retOut X0 hx (t := (.object "java/lang/Object")) Bd.returns rfl (Or.inr (Or.inr (Or.inr (Or.inr ⟨rfl, rfl, rfl⟩)))) (hb hby d9_13) hr
  · show Q_own_rnn Z a1  h0 n0 _ s₁.heap _
    rw [e0]
    exact ⟨rfl, N0, rfl⟩
theorem d10_0 : decode prog_25_method_1_code 0 = .ok (.aload_n 0, 1) := by decide +kernel
theorem d10_1 : decode prog_25_method_1_code 1 = .ok (.aload_n 1, 1) := by decide +kernel
theorem d10_2 : decode prog_25_method_1_code 2 = .ok (.putfield 1, 3) := by decide +kernel
theorem d10_5 : decode prog_25_method_1_code 5 = .ok (.aload_n 0, 1) := by decide +kernel
theorem d10_6 : decode prog_25_method_1_code 6 = .ok (.invokespecial 7, 3) := by decide +kernel
theorem d10_9 : decode prog_25_method_1_code 9 = .ok (.return_, 1) := by decide +kernel
theorem pn_own_ci : plainName "com/example/xml_element_search/xmlelementsearch/ElementScores$Cursor" = true := by first | (simp [plainName, overriddenIn]; done) | decide +kernel
theorem ef_own_ci (m : MethodId) (x0 : Addr) (x1 : Addr) : entryFrame m #[(.ref x0), (.ref x1)] 2 = mkF m 0 #[.val (.ref x0), .val (.ref x1)] [] := by first | (simp [entryFrame, mkF, argsToLocals, Value.category]; done) | rfl
def Q_own_ci (Z : State) (a1 : Addr) (a2 : Addr)  (h0 : Heap) (n0 : Nat) (v : Option Value) (h : Heap) (L : List Loc) : Prop := v = none ∧ Fr n0 L ∧ Keep h0 h [a1] ∧ Fld Z h a1 "com/example/xml_element_search/xmlelementsearch/ElementScores$Cursor" "this$0" "Lcom/example/xml_element_search/xmlelementsearch/ElementScores;" (.ref a2) ∧ Fld Z h a1 "com/example/xml_element_search/xmlelementsearch/ElementScores$Cursor" "at" "I" (.int (0 : Int32)) ∧ Exa Z h a1 "com/example/xml_element_search/xmlelementsearch/ElementScores$Cursor"
set_option maxRecDepth 65536 in
set_option maxHeartbeats 40000000 in
theorem own_ci (l : Launch) (Z : State) (a0 : Array Value) (hw : ∀ d ∈ tables_1, d.before a0 Z = true) (ws : List Jvm.Cond) (a1 : Addr) (a2 : Addr)  (h0 : Heap) (n0 : Nat) (Z0 : n0 ≤ h0.size) (E_ : Exa Z h0 a1 "com/example/xml_element_search/xmlelementsearch/ElementScores$Cursor") (F_t : Fld Z h0 a1 "com/example/xml_element_search/xmlelementsearch/ElementScores$Cursor" "this$0" "Lcom/example/xml_element_search/xmlelementsearch/ElementScores;" .null) (F_a : Fld Z h0 a1 "com/example/xml_element_search/xmlelementsearch/ElementScores$Cursor" "at" "I" (.int (0 : Int32))) (g_a1 : n0 ≤ a1) :
    MetFree l (⟨"com/example/xml_element_search/xmlelementsearch/ElementScores$Cursor", "<init>", "(Lcom/example/xml_element_search/xmlelementsearch/ElementScores;)V"⟩ : MethodName) (head1 (Jvm.Cond.code (⟨"com/example/xml_element_search/xmlelementsearch/ElementScores$Cursor", "<init>", "(Lcom/example/xml_element_search/xmlelementsearch/ElementScores;)V"⟩ : MethodName) prog_25_method_1_code 2 none :: ws) ({ frames := 1, cells := 0, slots := 0, locals := 12 } : Room)) (fun a U => a = #[(.ref a1), (.ref a2)] ∧ Z.Warmed39 U.vm ∧ U.heap = h0) (fun _ _ _ _ _ => True) (fun _ U o U' => ∃ v L, o = .returned v ∧ Q_own_ci Z a1 a2  h0 n0 v U'.heap L ∧ FrameEnd U o U' L ({ frames := 1, cells := 0, slots := 0, locals := 12 } : Room).cells ({ frames := 1, cells := 0, slots := 0, locals := 12 } : Room).slots) := by
  refine MetFree.of_bodySF (plainFor_of_name pn_own_ci) hisR ?_
  intro p e s m args below meth c s₁ Bd hml0 hP hK
  obtain ⟨rfl, hZ, hh⟩ := hP
  have hx := Bd.exec
  have hby := Bd.bytes
  have hml : c.maxLocals = 2 := hml0
  have hown : s.vm.findClass "com/example/xml_element_search/xmlelementsearch/ElementScores$Cursor" = some m.cls := findClass_of_methodNamed Bd.named
  have hnm := (name_of_methodNamed Bd.named Bd.method).1
  have X0 : Stand p l e ({ frames := 1, cells := 0, slots := 0, locals := 12 } : Room) s m #[(.ref a1), (.ref a2)] below meth c s₁ [] 0 0 := Stand.of_body Bd
  have e0 : s₁.heap = h0 := by rw [← hh, Bd.state]; rfl
  have N0 := Fr.nil n0
  have pre0 : ∀ t, Steps p.tables e below (s₁.setTop (mkF m 0 #[.val (.ref a1), .val (.ref a2)] [])) t → Steps p.tables e below (s₁.setTop (entryFrame m #[(.ref a1), (.ref a2)] 2)) t := fun t k => castTop (ef_own_ci m (a1) (a2)) k
  obtain ⟨T79, h79, X79, e79, W79, st79⟩ := putF X0 hx hZ hown (host := "") (Or.inl (hw _ (List.mem_of_getElem? (i := 55) rfl))) Via.refl e0 F_t E_ (Or.inr ⟨(hw _ (List.mem_of_getElem? (i := 56) rfl)), rfl, hnm⟩) (hw _ (List.mem_of_getElem? (i := 46) rfl)) (ty := (.object "com/example/xml_element_search/xmlelementsearch/ElementScores")) (by decide) rfl rfl (g := (mkF m 2 #[.val (.ref a1), .val (.ref a2)] [(.ref a2), (.ref a1)])) rfl rfl (hb hby d10_2)
  have Fw79 := F_t.same W79
  have N79 := Fr.snoc X79 N0 g_a1
  have K79 : Keep h0 h79 [a1] := (Keep.refl h0 [a1]).wr W79 (Or.inl (List.mem_of_getElem? (i := 0) rfl))
  obtain ⟨T80, X80, e80, st80⟩ := initO X79 hx hZ hown (hw _ (List.mem_of_getElem? (i := 57) rfl)) (hw _ (List.mem_of_getElem? (i := 21) rfl)) (hw _ (List.mem_of_getElem? (i := 22) rfl)) e79 (g := (mkF m 6 #[.val (.ref a1), .val (.ref a2)] [(.ref a1)])) rfl (by rw [hml]; rfl) rfl (hb hby d10_6) (by decide) (W := 0) (by show 2 * 0 + _ ≤ _; exact Nat.le_of_eq rfl) (by decide)
  obtain ⟨fs, hr, hrun, hended, hW, hsame⟩ := X80.leave (v := none) (fun _ => rfl)
  refine ⟨_, _, pre0 _ ?_, hrun, hended, _, _, rfl, ?_, ⟨_, rfl⟩, hW, hsame.mono (by decide) (by decide)⟩
  · show Steps p.tables e below (s₁.setTop (mkF m 0 #[.val (.ref a1), .val (.ref a2)] [])) _
    refine XS.aloadN X0.here hx rfl (hb hby d10_0) rfl rfl ?_
    show Steps p.tables e below (s₁.setTop (mkF m 1 #[.val (.ref a1), .val (.ref a2)] [(.ref a1)])) _
    refine XS.aloadN X0.here hx rfl (hb hby d10_1) rfl rfl ?_
    show Steps p.tables e below (s₁.setTop (mkF m 2 #[.val (.ref a1), .val (.ref a2)] [(.ref a2), (.ref a1)])) _
    refine st79 _ ?_
    show Steps p.tables e below (T79.setTop (mkF m 5 #[.val (.ref a1), .val (.ref a2)] [])) _
    refine XS.aloadN X79.here hx rfl (hb hby d10_5) rfl rfl ?_
    show Steps p.tables e below (T79.setTop (mkF m 6 #[.val (.ref a1), .val (.ref a2)] [(.ref a1)])) _
    refine st80 _ ?_
    show Steps p.tables e below (T80.setTop (mkF m 9 #[.val (.ref a1), .val (.ref a2)] [])) _
    exact X80.returnOut hx Bd.returns (hb hby d10_9) hr
  · show Q_own_ci Z a1 a2  h0 n0 _ T80.heap _
    rw [e80]
    exact ⟨rfl, N79, K79, Fw79, (F_a.other W79 (Or.inr (slot_ne (Or.inl (hw _ (List.mem_of_getElem? (i := 64) rfl))) (Or.inr (hw _ (List.mem_of_getElem? (i := 56) rfl))) (by decide) (t := .int) (t' := (.object "com/example/xml_element_search/xmlelementsearch/ElementScores")) (by decide) (by decide)))), (E_.wr W79)⟩
theorem d11_0 : decode prog_25_method_2_code 0 = .ok (.aload_n 0, 1) := by decide +kernel
theorem d11_1 : decode prog_25_method_2_code 1 = .ok (.getfield 13, 3) := by decide +kernel
theorem d11_4 : decode prog_25_method_2_code 4 = .ok (.aload_n 0, 1) := by decide +kernel
theorem d11_5 : decode prog_25_method_2_code 5 = .ok (.getfield 1, 3) := by decide +kernel
theorem d11_8 : decode prog_25_method_2_code 8 = .ok (.getfield 17, 3) := by decide +kernel
theorem d11_11 : decode prog_25_method_2_code 11 = .ok (.if_icmp .ge 33, 3) := by decide +kernel
theorem d11_14 : decode prog_25_method_2_code 14 = .ok (.aload_n 0, 1) := by decide +kernel
theorem d11_15 : decode prog_25_method_2_code 15 = .ok (.getfield 1, 3) := by decide +kernel
theorem d11_18 : decode prog_25_method_2_code 18 = .ok (.getfield 22, 3) := by decide +kernel
theorem d11_21 : decode prog_25_method_2_code 21 = .ok (.aload_n 0, 1) := by decide +kernel
theorem d11_22 : decode prog_25_method_2_code 22 = .ok (.getfield 13, 3) := by decide +kernel
theorem d11_25 : decode prog_25_method_2_code 25 = .ok (.laload, 1) := by decide +kernel
theorem d11_26 : decode prog_25_method_2_code 26 = .ok (.lload_n 1, 1) := by decide +kernel
theorem d11_27 : decode prog_25_method_2_code 27 = .ok (.lcmp, 1) := by decide +kernel
theorem d11_28 : decode prog_25_method_2_code 28 = .ok (.ifCond .ge 16, 3) := by decide +kernel
theorem d11_31 : decode prog_25_method_2_code 31 = .ok (.aload_n 0, 1) := by decide +kernel
theorem d11_32 : decode prog_25_method_2_code 32 = .ok (.dup, 1) := by decide +kernel
theorem d11_33 : decode prog_25_method_2_code 33 = .ok (.getfield 13, 3) := by decide +kernel
theorem d11_36 : decode prog_25_method_2_code 36 = .ok (.iconst 1, 1) := by decide +kernel
theorem d11_37 : decode prog_25_method_2_code 37 = .ok (.iadd, 1) := by decide +kernel
theorem d11_38 : decode prog_25_method_2_code 38 = .ok (.putfield 13, 3) := by decide +kernel
theorem d11_41 : decode prog_25_method_2_code 41 = .ok (.goto (-41), 3) := by decide +kernel
theorem d11_44 : decode prog_25_method_2_code 44 = .ok (.aload_n 0, 1) := by decide +kernel
theorem d11_45 : decode prog_25_method_2_code 45 = .ok (.getfield 13, 3) := by decide +kernel
theorem d11_48 : decode prog_25_method_2_code 48 = .ok (.aload_n 0, 1) := by decide +kernel
theorem d11_49 : decode prog_25_method_2_code 49 = .ok (.getfield 1, 3) := by decide +kernel
theorem d11_52 : decode prog_25_method_2_code 52 = .ok (.getfield 17, 3) := by decide +kernel
theorem d11_55 : decode prog_25_method_2_code 55 = .ok (.if_icmp .ge 24, 3) := by decide +kernel
theorem d11_58 : decode prog_25_method_2_code 58 = .ok (.aload_n 0, 1) := by decide +kernel
theorem d11_59 : decode prog_25_method_2_code 59 = .ok (.getfield 1, 3) := by decide +kernel
theorem d11_62 : decode prog_25_method_2_code 62 = .ok (.getfield 22, 3) := by decide +kernel
theorem d11_65 : decode prog_25_method_2_code 65 = .ok (.aload_n 0, 1) := by decide +kernel
theorem d11_66 : decode prog_25_method_2_code 66 = .ok (.getfield 13, 3) := by decide +kernel
theorem d11_69 : decode prog_25_method_2_code 69 = .ok (.laload, 1) := by decide +kernel
theorem d11_70 : decode prog_25_method_2_code 70 = .ok (.lload_n 1, 1) := by decide +kernel
theorem d11_71 : decode prog_25_method_2_code 71 = .ok (.lcmp, 1) := by decide +kernel
theorem d11_72 : decode prog_25_method_2_code 72 = .ok (.ifCond .ne 7, 3) := by decide +kernel
theorem d11_75 : decode prog_25_method_2_code 75 = .ok (.iconst 1, 1) := by decide +kernel
theorem d11_76 : decode prog_25_method_2_code 76 = .ok (.goto 4, 3) := by decide +kernel
theorem d11_79 : decode prog_25_method_2_code 79 = .ok (.iconst 0, 1) := by decide +kernel
theorem d11_80 : decode prog_25_method_2_code 80 = .ok (.ireturn, 1) := by decide +kernel
theorem pn_own_hol : plainName "com/example/xml_element_search/xmlelementsearch/ElementScores$Cursor" = true := by first | (simp [plainName, overriddenIn]; done) | decide +kernel
set_option maxRecDepth 65536 in
set_option maxHeartbeats 40000000 in
theorem own_ht {p : Program} {l : Launch} {e : Env} {s : State} {m : MethodId} {args : Array Value} {below : List Frame} {meth : Method} {c : Code} {T : State} {locs : List Loc} {Z : State} {a0 : Array Value} {h : Heap} {n0 : Nat} (hw : ∀ d ∈ tables_1, d.before a0 Z = true) (X : Stand p l e ({ frames := 0, cells := 0, slots := 0, locals := 0 } : Room) s m args below meth c T locs 0 0) (hx : p.tables.exec = Jvm.exec) (hZ : Z.Warmed39 s.vm) (hby : c.code = prog_25_method_2_code) (hml : c.maxLocals = 3) (hown : s.vm.findClass "com/example/xml_element_search/xmlelementsearch/ElementScores$Cursor" = some m.cls) (eT : T.heap = h) (N : Fr n0 locs) (Z0 : n0 ≤ h.size) (a1 : Addr) (q : Int64) (ao : Addr) (ae : Addr) (ke : ClassId) (f : Nat → Value) (ta : Int32) (nn : Int32) (i : Nat) (wv : Int64) (E_ : Exa Z h a1 "com/example/xml_element_search/xmlelementsearch/ElementScores$Cursor") (g_a1 : n0 ≤ a1) (F_t : Fld Z h a1 "com/example/xml_element_search/xmlelementsearch/ElementScores$Cursor" "this$0" "Lcom/example/xml_element_search/xmlelementsearch/ElementScores;" (.ref ao)) (F_a : Fld Z h a1 "com/example/xml_element_search/xmlelementsearch/ElementScores$Cursor" "at" "I" (.int ta)) (F_n : Fld Z h ao "com/example/xml_element_search/xmlelementsearch/ElementScores" "size" "I" (.int nn)) (F_e : Fld Z h ao "com/example/xml_element_search/xmlelementsearch/ElementScores" "elements" "[J" (.ref ae)) (V_e : Arf Z h ae ke .long 8 f) (hix : ¬ ta < 0 ∧ ta.toNatClampNeg = i) (hi : i < 8) (hv : f i = .long wv) (hlt : ta < nn) (hwq : wv < q) :
    ∃ T' h' L', Stand p l e ({ frames := 0, cells := 0, slots := 0, locals := 0 } : Room) s m args below meth c T' L' 0 0 ∧ T'.heap = h' ∧ Fr n0 L' ∧ Keep h h' [a1] ∧ Fld Z h' a1 "com/example/xml_element_search/xmlelementsearch/ElementScores$Cursor" "this$0" "Lcom/example/xml_element_search/xmlelementsearch/ElementScores;" (.ref ao) ∧ Fld Z h' a1 "com/example/xml_element_search/xmlelementsearch/ElementScores$Cursor" "at" "I" (.int (ta + (1 : Int32))) ∧ Exa Z h' a1 "com/example/xml_element_search/xmlelementsearch/ElementScores$Cursor" ∧ ∀ target, Steps p.tables e below (T'.setTop (mkF m 0 #[.val (.ref a1), .val (.long q), .second] [])) target → Steps p.tables e below (T.setTop (mkF m 0 #[.val (.ref a1), .val (.long q), .second] [])) target := by
  obtain ⟨T81, X81, e81, st81⟩ := getF X hx hZ hown (host := "") (Or.inl (hw _ (List.mem_of_getElem? (i := 63) rfl))) Via.refl eT F_a (g := (mkF m 1 #[.val (.ref a1), .val (.long q), .second] [(.ref a1)])) rfl rfl (hb hby d11_1)
  obtain ⟨T82, X82, e82, st82⟩ := getF X81 hx hZ hown (host := "") (Or.inl (hw _ (List.mem_of_getElem? (i := 55) rfl))) Via.refl e81 F_t (g := (mkF m 5 #[.val (.ref a1), .val (.long q), .second] [(.ref a1), (.int ta)])) rfl rfl (hb hby d11_5)
  obtain ⟨T83, X83, e83, st83⟩ := getF X82 hx hZ hown (Or.inr (hw _ (List.mem_of_getElem? (i := 65) rfl))) Via.refl e82 F_n (g := (mkF m 8 #[.val (.ref a1), .val (.long q), .second] [(.ref ao), (.int ta)])) rfl rfl (hb hby d11_8)
  obtain ⟨T84, X84, e84, st84⟩ := getF X83 hx hZ hown (host := "") (Or.inl (hw _ (List.mem_of_getElem? (i := 55) rfl))) Via.refl e83 F_t (g := (mkF m 15 #[.val (.ref a1), .val (.long q), .second] [(.ref a1)])) rfl rfl (hb hby d11_15)
  obtain ⟨T85, X85, e85, st85⟩ := getF X84 hx hZ hown (Or.inr (hw _ (List.mem_of_getElem? (i := 66) rfl))) Via.refl e84 F_e (g := (mkF m 18 #[.val (.ref a1), .val (.long q), .second] [(.ref ao)])) rfl rfl (hb hby d11_18)
  obtain ⟨T86, X86, e86, st86⟩ := getF X85 hx hZ hown (host := "") (Or.inl (hw _ (List.mem_of_getElem? (i := 63) rfl))) Via.refl e85 F_a (g := (mkF m 22 #[.val (.ref a1), .val (.long q), .second] [(.ref a1), (.ref ae)])) rfl rfl (hb hby d11_22)
  obtain ⟨cl87, Ar87, qk87, S87, B87, H87, G87⟩ := id V_e
  have hin87 : ¬ (ta < 0 ∨ cl87.slots.size ≤ (ta).toNatClampNeg) := own_inb S87 hix hi
  have hat87 : cl87.slots[(ta).toNatClampNeg]? = some (.long wv) := own_hat H87 hix hi hv
  obtain ⟨T88, X88, e88, st88⟩ := getF X86 hx hZ hown (host := "") (Or.inl (hw _ (List.mem_of_getElem? (i := 63) rfl))) Via.refl e86 F_a (g := (mkF m 33 #[.val (.ref a1), .val (.long q), .second] [(.ref a1), (.ref a1)])) rfl rfl (hb hby d11_33)
  obtain ⟨T89, h89, X89, e89, W89, st89⟩ := putF X88 hx hZ hown (host := "") (Or.inl (hw _ (List.mem_of_getElem? (i := 63) rfl))) Via.refl e88 F_a E_ (Or.inl (hw _ (List.mem_of_getElem? (i := 64) rfl))) (hw _ (List.mem_of_getElem? (i := 46) rfl)) (ty := .int) (by decide) rfl rfl (g := (mkF m 38 #[.val (.ref a1), .val (.long q), .second] [(.int (ta + (1 : Int32))), (.ref a1)])) rfl rfl (hb hby d11_38)
  have Fw89 := F_a.same W89
  have N89 := Fr.snoc X89 N g_a1
  refine ⟨T89, h89, _, X89, e89, N89, (Keep.of_wr W89), (F_t.other W89 (Or.inr (slot_ne (Or.inr (hw _ (List.mem_of_getElem? (i := 56) rfl))) (Or.inl (hw _ (List.mem_of_getElem? (i := 64) rfl))) (by decide) (t := (.object "com/example/xml_element_search/xmlelementsearch/ElementScores")) (t' := .int) (by decide) (by decide)))), Fw89, (E_.wr W89), fun target k => ?_⟩
  show Steps p.tables e below (T.setTop (mkF m 0 #[.val (.ref a1), .val (.long q), .second] [])) _
  refine XS.aloadN X.here hx rfl (hb hby d11_0) rfl rfl ?_
  show Steps p.tables e below (T.setTop (mkF m 1 #[.val (.ref a1), .val (.long q), .second] [(.ref a1)])) _
  refine st81 _ ?_
  show Steps p.tables e below (T81.setTop (mkF m 4 #[.val (.ref a1), .val (.long q), .second] [(.int ta)])) _
  refine XS.aloadN X81.here hx rfl (hb hby d11_4) rfl rfl ?_
  show Steps p.tables e below (T81.setTop (mkF m 5 #[.val (.ref a1), .val (.long q), .second] [(.ref a1), (.int ta)])) _
  refine st82 _ ?_
  show Steps p.tables e below (T82.setTop (mkF m 8 #[.val (.ref a1), .val (.long q), .second] [(.ref ao), (.int ta)])) _
  refine st83 _ ?_
  show Steps p.tables e below (T83.setTop (mkF m 11 #[.val (.ref a1), .val (.long q), .second] [(.int nn), (.int ta)])) _
  refine XS.icmpNo X83.here hx rfl (hb hby d11_11) rfl (XT.ii_ge_f hlt) ?_
  show Steps p.tables e below (T83.setTop (mkF m 14 #[.val (.ref a1), .val (.long q), .second] [])) _
  refine XS.aloadN X83.here hx rfl (hb hby d11_14) rfl rfl ?_
  show Steps p.tables e below (T83.setTop (mkF m 15 #[.val (.ref a1), .val (.long q), .second] [(.ref a1)])) _
  refine st84 _ ?_
  show Steps p.tables e below (T84.setTop (mkF m 18 #[.val (.ref a1), .val (.long q), .second] [(.ref ao)])) _
  refine st85 _ ?_
  show Steps p.tables e below (T85.setTop (mkF m 21 #[.val (.ref a1), .val (.long q), .second] [(.ref ae)])) _
  refine XS.aloadN X85.here hx rfl (hb hby d11_21) rfl rfl ?_
  show Steps p.tables e below (T85.setTop (mkF m 22 #[.val (.ref a1), .val (.long q), .second] [(.ref a1), (.ref ae)])) _
  refine st86 _ ?_
  show Steps p.tables e below (T86.setTop (mkF m 25 #[.val (.ref a1), .val (.long q), .second] [(.int ta), (.ref ae)])) _
  refine X86.laload hx (j := ta) (v := (.long wv)) (by rw [e86]; exact Ar87.1) (State.isArrayOf_alike hZ.alike Ar87.2.1) Ar87.2.2 hin87 hat87 (g := (mkF m 25 #[.val (.ref a1), .val (.long q), .second] [(.int ta), (.ref ae)])) rfl rfl (hb hby d11_25) _ ?_
  show Steps p.tables e below (T86.setTop (mkF m 26 #[.val (.ref a1), .val (.long q), .second] [(.long wv)])) _
  refine XT.lloadN X86.here hx rfl (hb hby d11_26) rfl ?_
  show Steps p.tables e below (T86.setTop (mkF m 27 #[.val (.ref a1), .val (.long q), .second] [(.long q), (.long wv)])) _
  refine XT.lcmp X86.here hx rfl (hb hby d11_27) rfl ?_
  show Steps p.tables e below (T86.setTop (mkF m 28 #[.val (.ref a1), .val (.long q), .second] [(.int (XT.cmpL wv q))])) _
  refine XS.ifNo X86.here hx rfl (hb hby d11_28) rfl (XT.ll_ge_f hwq) ?_
  show Steps p.tables e below (T86.setTop (mkF m 31 #[.val (.ref a1), .val (.long q), .second] [])) _
  refine XS.aloadN X86.here hx rfl (hb hby d11_31) rfl rfl ?_
  show Steps p.tables e below (T86.setTop (mkF m 32 #[.val (.ref a1), .val (.long q), .second] [(.ref a1)])) _
  refine XS.dup X86.here hx rfl (hb hby d11_32) rfl rfl ?_
  show Steps p.tables e below (T86.setTop (mkF m 33 #[.val (.ref a1), .val (.long q), .second] [(.ref a1), (.ref a1)])) _
  refine st88 _ ?_
  show Steps p.tables e below (T88.setTop (mkF m 36 #[.val (.ref a1), .val (.long q), .second] [(.int ta), (.ref a1)])) _
  refine XS.iconst X88.here hx rfl (hb hby d11_36) ?_
  show Steps p.tables e below (T88.setTop (mkF m 37 #[.val (.ref a1), .val (.long q), .second] [(.int (1 : Int32)), (.int ta), (.ref a1)])) _
  refine XS.iadd X88.here hx rfl (hb hby d11_37) rfl ?_
  show Steps p.tables e below (T88.setTop (mkF m 38 #[.val (.ref a1), .val (.long q), .second] [(.int (ta + (1 : Int32))), (.ref a1)])) _
  refine st89 _ ?_
  show Steps p.tables e below (T89.setTop (mkF m 41 #[.val (.ref a1), .val (.long q), .second] [])) _
  refine XS.goto X89.here hx rfl (pc0 := 41) (pc' := 0) rfl (hb hby d11_41) (by decide) (by decide) ?_
  show Steps p.tables e below (T89.setTop (mkF m 0 #[.val (.ref a1), .val (.long q), .second] [])) _
  exact k
set_option maxRecDepth 65536 in
set_option maxHeartbeats 40000000 in
theorem own_hx {p : Program} {l : Launch} {e : Env} {s : State} {m : MethodId} {args : Array Value} {below : List Frame} {meth : Method} {c : Code} {T : State} {locs : List Loc} {Z : State} {a0 : Array Value} {h : Heap} {n0 : Nat} (hw : ∀ d ∈ tables_1, d.before a0 Z = true) (X : Stand p l e ({ frames := 0, cells := 0, slots := 0, locals := 0 } : Room) s m args below meth c T locs 0 0) (hx : p.tables.exec = Jvm.exec) (hZ : Z.Warmed39 s.vm) (hby : c.code = prog_25_method_2_code) (hml : c.maxLocals = 3) (hown : s.vm.findClass "com/example/xml_element_search/xmlelementsearch/ElementScores$Cursor" = some m.cls) (eT : T.heap = h) (N : Fr n0 locs) (Z0 : n0 ≤ h.size) (a1 : Addr) (q : Int64) (ao : Addr) (ae : Addr) (ke : ClassId) (f : Nat → Value) (ta : Int32) (nn : Int32) (F_t : Fld Z h a1 "com/example/xml_element_search/xmlelementsearch/ElementScores$Cursor" "this$0" "Lcom/example/xml_element_search/xmlelementsearch/ElementScores;" (.ref ao)) (F_a : Fld Z h a1 "com/example/xml_element_search/xmlelementsearch/ElementScores$Cursor" "at" "I" (.int ta)) (F_n : Fld Z h ao "com/example/xml_element_search/xmlelementsearch/ElementScores" "size" "I" (.int nn)) (F_e : Fld Z h ao "com/example/xml_element_search/xmlelementsearch/ElementScores" "elements" "[J" (.ref ae)) (V_e : Arf Z h ae ke .long 8 f) (hge : ¬ ta < nn) :
    ∃ T' L', Stand p l e ({ frames := 0, cells := 0, slots := 0, locals := 0 } : Room) s m args below meth c T' L' 0 0 ∧ T'.heap = h ∧ Fr n0 L' ∧ ∀ target, Steps p.tables e below (T'.setTop (mkF m 44 #[.val (.ref a1), .val (.long q), .second] [])) target → Steps p.tables e below (T.setTop (mkF m 0 #[.val (.ref a1), .val (.long q), .second] [])) target := by
  obtain ⟨T90, X90, e90, st90⟩ := getF X hx hZ hown (host := "") (Or.inl (hw _ (List.mem_of_getElem? (i := 63) rfl))) Via.refl eT F_a (g := (mkF m 1 #[.val (.ref a1), .val (.long q), .second] [(.ref a1)])) rfl rfl (hb hby d11_1)
  obtain ⟨T91, X91, e91, st91⟩ := getF X90 hx hZ hown (host := "") (Or.inl (hw _ (List.mem_of_getElem? (i := 55) rfl))) Via.refl e90 F_t (g := (mkF m 5 #[.val (.ref a1), .val (.long q), .second] [(.ref a1), (.int ta)])) rfl rfl (hb hby d11_5)
  obtain ⟨T92, X92, e92, st92⟩ := getF X91 hx hZ hown (Or.inr (hw _ (List.mem_of_getElem? (i := 65) rfl))) Via.refl e91 F_n (g := (mkF m 8 #[.val (.ref a1), .val (.long q), .second] [(.ref ao), (.int ta)])) rfl rfl (hb hby d11_8)
  refine ⟨T92, _, X92, e92, N, fun target k => ?_⟩
  show Steps p.tables e below (T.setTop (mkF m 0 #[.val (.ref a1), .val (.long q), .second] [])) _
  refine XS.aloadN X.here hx rfl (hb hby d11_0) rfl rfl ?_
  show Steps p.tables e below (T.setTop (mkF m 1 #[.val (.ref a1), .val (.long q), .second] [(.ref a1)])) _
  refine st90 _ ?_
  show Steps p.tables e below (T90.setTop (mkF m 4 #[.val (.ref a1), .val (.long q), .second] [(.int ta)])) _
  refine XS.aloadN X90.here hx rfl (hb hby d11_4) rfl rfl ?_
  show Steps p.tables e below (T90.setTop (mkF m 5 #[.val (.ref a1), .val (.long q), .second] [(.ref a1), (.int ta)])) _
  refine st91 _ ?_
  show Steps p.tables e below (T91.setTop (mkF m 8 #[.val (.ref a1), .val (.long q), .second] [(.ref ao), (.int ta)])) _
  refine st92 _ ?_
  show Steps p.tables e below (T92.setTop (mkF m 11 #[.val (.ref a1), .val (.long q), .second] [(.int nn), (.int ta)])) _
  refine XS.icmpYes X92.here hx rfl (pc0 := 11) (pc' := 44) rfl (hb hby d11_11) rfl (XT.ii_ge_t hge) (by decide) (by decide) ?_
  show Steps p.tables e below (T92.setTop (mkF m 44 #[.val (.ref a1), .val (.long q), .second] [])) _
  exact k
set_option maxRecDepth 65536 in
set_option maxHeartbeats 40000000 in
theorem own_hy {p : Program} {l : Launch} {e : Env} {s : State} {m : MethodId} {args : Array Value} {below : List Frame} {meth : Method} {c : Code} {T : State} {locs : List Loc} {Z : State} {a0 : Array Value} {h : Heap} {n0 : Nat} (hw : ∀ d ∈ tables_1, d.before a0 Z = true) (X : Stand p l e ({ frames := 0, cells := 0, slots := 0, locals := 0 } : Room) s m args below meth c T locs 0 0) (hx : p.tables.exec = Jvm.exec) (hZ : Z.Warmed39 s.vm) (hby : c.code = prog_25_method_2_code) (hml : c.maxLocals = 3) (hown : s.vm.findClass "com/example/xml_element_search/xmlelementsearch/ElementScores$Cursor" = some m.cls) (eT : T.heap = h) (N : Fr n0 locs) (Z0 : n0 ≤ h.size) (a1 : Addr) (q : Int64) (ao : Addr) (ae : Addr) (ke : ClassId) (f : Nat → Value) (ta : Int32) (nn : Int32) (i : Nat) (wv : Int64) (F_t : Fld Z h a1 "com/example/xml_element_search/xmlelementsearch/ElementScores$Cursor" "this$0" "Lcom/example/xml_element_search/xmlelementsearch/ElementScores;" (.ref ao)) (F_a : Fld Z h a1 "com/example/xml_element_search/xmlelementsearch/ElementScores$Cursor" "at" "I" (.int ta)) (F_n : Fld Z h ao "com/example/xml_element_search/xmlelementsearch/ElementScores" "size" "I" (.int nn)) (F_e : Fld Z h ao "com/example/xml_element_search/xmlelementsearch/ElementScores" "elements" "[J" (.ref ae)) (V_e : Arf Z h ae ke .long 8 f) (hix : ¬ ta < 0 ∧ ta.toNatClampNeg = i) (hi : i < 8) (hv : f i = .long wv) (hlt : ta < nn) (hwq : ¬ wv < q) :
    ∃ T' L', Stand p l e ({ frames := 0, cells := 0, slots := 0, locals := 0 } : Room) s m args below meth c T' L' 0 0 ∧ T'.heap = h ∧ Fr n0 L' ∧ ∀ target, Steps p.tables e below (T'.setTop (mkF m 44 #[.val (.ref a1), .val (.long q), .second] [])) target → Steps p.tables e below (T.setTop (mkF m 0 #[.val (.ref a1), .val (.long q), .second] [])) target := by
  obtain ⟨T93, X93, e93, st93⟩ := getF X hx hZ hown (host := "") (Or.inl (hw _ (List.mem_of_getElem? (i := 63) rfl))) Via.refl eT F_a (g := (mkF m 1 #[.val (.ref a1), .val (.long q), .second] [(.ref a1)])) rfl rfl (hb hby d11_1)
  obtain ⟨T94, X94, e94, st94⟩ := getF X93 hx hZ hown (host := "") (Or.inl (hw _ (List.mem_of_getElem? (i := 55) rfl))) Via.refl e93 F_t (g := (mkF m 5 #[.val (.ref a1), .val (.long q), .second] [(.ref a1), (.int ta)])) rfl rfl (hb hby d11_5)
  obtain ⟨T95, X95, e95, st95⟩ := getF X94 hx hZ hown (Or.inr (hw _ (List.mem_of_getElem? (i := 65) rfl))) Via.refl e94 F_n (g := (mkF m 8 #[.val (.ref a1), .val (.long q), .second] [(.ref ao), (.int ta)])) rfl rfl (hb hby d11_8)
  obtain ⟨T96, X96, e96, st96⟩ := getF X95 hx hZ hown (host := "") (Or.inl (hw _ (List.mem_of_getElem? (i := 55) rfl))) Via.refl e95 F_t (g := (mkF m 15 #[.val (.ref a1), .val (.long q), .second] [(.ref a1)])) rfl rfl (hb hby d11_15)
  obtain ⟨T97, X97, e97, st97⟩ := getF X96 hx hZ hown (Or.inr (hw _ (List.mem_of_getElem? (i := 66) rfl))) Via.refl e96 F_e (g := (mkF m 18 #[.val (.ref a1), .val (.long q), .second] [(.ref ao)])) rfl rfl (hb hby d11_18)
  obtain ⟨T98, X98, e98, st98⟩ := getF X97 hx hZ hown (host := "") (Or.inl (hw _ (List.mem_of_getElem? (i := 63) rfl))) Via.refl e97 F_a (g := (mkF m 22 #[.val (.ref a1), .val (.long q), .second] [(.ref a1), (.ref ae)])) rfl rfl (hb hby d11_22)
  obtain ⟨cl99, Ar99, qk99, S99, B99, H99, G99⟩ := id V_e
  have hin99 : ¬ (ta < 0 ∨ cl99.slots.size ≤ (ta).toNatClampNeg) := own_inb S99 hix hi
  have hat99 : cl99.slots[(ta).toNatClampNeg]? = some (.long wv) := own_hat H99 hix hi hv
  refine ⟨T98, _, X98, e98, N, fun target k => ?_⟩
  show Steps p.tables e below (T.setTop (mkF m 0 #[.val (.ref a1), .val (.long q), .second] [])) _
  refine XS.aloadN X.here hx rfl (hb hby d11_0) rfl rfl ?_
  show Steps p.tables e below (T.setTop (mkF m 1 #[.val (.ref a1), .val (.long q), .second] [(.ref a1)])) _
  refine st93 _ ?_
  show Steps p.tables e below (T93.setTop (mkF m 4 #[.val (.ref a1), .val (.long q), .second] [(.int ta)])) _
  refine XS.aloadN X93.here hx rfl (hb hby d11_4) rfl rfl ?_
  show Steps p.tables e below (T93.setTop (mkF m 5 #[.val (.ref a1), .val (.long q), .second] [(.ref a1), (.int ta)])) _
  refine st94 _ ?_
  show Steps p.tables e below (T94.setTop (mkF m 8 #[.val (.ref a1), .val (.long q), .second] [(.ref ao), (.int ta)])) _
  refine st95 _ ?_
  show Steps p.tables e below (T95.setTop (mkF m 11 #[.val (.ref a1), .val (.long q), .second] [(.int nn), (.int ta)])) _
  refine XS.icmpNo X95.here hx rfl (hb hby d11_11) rfl (XT.ii_ge_f hlt) ?_
  show Steps p.tables e below (T95.setTop (mkF m 14 #[.val (.ref a1), .val (.long q), .second] [])) _
  refine XS.aloadN X95.here hx rfl (hb hby d11_14) rfl rfl ?_
  show Steps p.tables e below (T95.setTop (mkF m 15 #[.val (.ref a1), .val (.long q), .second] [(.ref a1)])) _
  refine st96 _ ?_
  show Steps p.tables e below (T96.setTop (mkF m 18 #[.val (.ref a1), .val (.long q), .second] [(.ref ao)])) _
  refine st97 _ ?_
  show Steps p.tables e below (T97.setTop (mkF m 21 #[.val (.ref a1), .val (.long q), .second] [(.ref ae)])) _
  refine XS.aloadN X97.here hx rfl (hb hby d11_21) rfl rfl ?_
  show Steps p.tables e below (T97.setTop (mkF m 22 #[.val (.ref a1), .val (.long q), .second] [(.ref a1), (.ref ae)])) _
  refine st98 _ ?_
  show Steps p.tables e below (T98.setTop (mkF m 25 #[.val (.ref a1), .val (.long q), .second] [(.int ta), (.ref ae)])) _
  refine X98.laload hx (j := ta) (v := (.long wv)) (by rw [e98]; exact Ar99.1) (State.isArrayOf_alike hZ.alike Ar99.2.1) Ar99.2.2 hin99 hat99 (g := (mkF m 25 #[.val (.ref a1), .val (.long q), .second] [(.int ta), (.ref ae)])) rfl rfl (hb hby d11_25) _ ?_
  show Steps p.tables e below (T98.setTop (mkF m 26 #[.val (.ref a1), .val (.long q), .second] [(.long wv)])) _
  refine XT.lloadN X98.here hx rfl (hb hby d11_26) rfl ?_
  show Steps p.tables e below (T98.setTop (mkF m 27 #[.val (.ref a1), .val (.long q), .second] [(.long q), (.long wv)])) _
  refine XT.lcmp X98.here hx rfl (hb hby d11_27) rfl ?_
  show Steps p.tables e below (T98.setTop (mkF m 28 #[.val (.ref a1), .val (.long q), .second] [(.int (XT.cmpL wv q))])) _
  refine XS.ifYes X98.here hx rfl (pc0 := 28) (pc' := 44) rfl (hb hby d11_28) rfl (XT.ll_ge_t hwq) (by decide) (by decide) ?_
  show Steps p.tables e below (T98.setTop (mkF m 44 #[.val (.ref a1), .val (.long q), .second] [])) _
  exact k
theorem own_addn (a b : Nat) : (a + b).toInt32 = a.toInt32 + b.toInt32 := Int32.ofNat_add a b
theorem own_succ (n : Nat) : (n + 1).toInt32 = n.toInt32 + (1 : Int32) := own_addn n 1
theorem own_lt {a b : Nat} (ha : a < 2 ^ 31) (hb : b < 2 ^ 31) : a.toInt32 < b.toInt32 ↔ a < b := by
  rw [Int32.lt_iff_toInt_lt, len_toInt ha, len_toInt hb]; omega
set_option maxRecDepth 65536 in
set_option maxHeartbeats 40000000 in
theorem own_loop {p : Program} {l : Launch} {e : Env} {s : State} {m : MethodId} {args : Array Value} {below : List Frame} {meth : Method} {c : Code} {Z : State} {a0 : Array Value} {n0 : Nat} (hw : ∀ d ∈ tables_1, d.before a0 Z = true) (hx : p.tables.exec = Jvm.exec) (hZ : Z.Warmed39 s.vm) (hby : c.code = prog_25_method_2_code) (hml : c.maxLocals = 3) (hown : s.vm.findClass "com/example/xml_element_search/xmlelementsearch/ElementScores$Cursor" = some m.cls) (a1 ao ae : Addr) (g_a1 : n0 ≤ a1) (ne_o : ao ≠ a1) (ne_e : ae ≠ a1) (q : Int64) (ke : ClassId) (f : Nat → Value) (ev : Nat → Int64) (N_ : Nat) (hN : N_ ≤ 3) (hf : ∀ j, j < N_ → f j = .long (ev j)) :
    ∀ (d t0 : Nat), t0 + d = N_ → ∀ (T : State) (locs : List Loc) (h : Heap), Stand p l e ({ frames := 0, cells := 0, slots := 0, locals := 0 } : Room) s m args below meth c T locs 0 0 → T.heap = h → Fr n0 locs → n0 ≤ h.size → Exa Z h a1 "com/example/xml_element_search/xmlelementsearch/ElementScores$Cursor" → Fld Z h a1 "com/example/xml_element_search/xmlelementsearch/ElementScores$Cursor" "this$0" "Lcom/example/xml_element_search/xmlelementsearch/ElementScores;" (.ref ao) → Fld Z h a1 "com/example/xml_element_search/xmlelementsearch/ElementScores$Cursor" "at" "I" (.int t0.toInt32) → Fld Z h ao "com/example/xml_element_search/xmlelementsearch/ElementScores" "size" "I" (.int N_.toInt32) → Fld Z h ao "com/example/xml_element_search/xmlelementsearch/ElementScores" "elements" "[J" (.ref ae) → Arf Z h ae ke .long 8 f →
    ∃ T' h' L', Stand p l e ({ frames := 0, cells := 0, slots := 0, locals := 0 } : Room) s m args below meth c T' L' 0 0 ∧ T'.heap = h' ∧ Fr n0 L' ∧ Keep h h' [a1] ∧ Fld Z h' a1 "com/example/xml_element_search/xmlelementsearch/ElementScores$Cursor" "this$0" "Lcom/example/xml_element_search/xmlelementsearch/ElementScores;" (.ref ao) ∧ Exa Z h' a1 "com/example/xml_element_search/xmlelementsearch/ElementScores$Cursor" ∧ (∃ t : Nat, Fld Z h' a1 "com/example/xml_element_search/xmlelementsearch/ElementScores$Cursor" "at" "I" (.int t.toInt32) ∧ (t0 ≤ t ∧ t ≤ N_ ∧ (∀ j, t0 ≤ j → j < t → ev j < q) ∧ (t = N_ ∨ ¬ ev t < q))) ∧ ∀ target, Steps p.tables e below (T'.setTop (mkF m 44 #[.val (.ref a1), .val (.long q), .second] [])) target → Steps p.tables e below (T.setTop (mkF m 0 #[.val (.ref a1), .val (.long q), .second] [])) target := by
  intro d
  induction d with
  | zero =>
    intro t0 ht T locs h X eT N Z0 E_ F_t F_a F_n F_e V_e
    obtain ⟨T1, L1, X1, e1, N1, st1⟩ := own_hx hw X hx hZ hby hml hown eT N Z0 a1 q ao ae ke f t0.toInt32 N_.toInt32 F_t F_a F_n F_e V_e (by rw [own_lt (by omega) (by omega)]; omega)
    exact ⟨T1, h, L1, X1, e1, N1, Keep.refl _ _, F_t, E_, ⟨t0, F_a, Nat.le_refl _, by omega, fun j h1 h2 => by omega, Or.inl (by omega)⟩, st1⟩
  | succ d ih =>
    intro t0 ht T locs h X eT N Z0 E_ F_t F_a F_n F_e V_e
    have hlt : t0.toInt32 < N_.toInt32 := by rw [own_lt (by omega) (by omega)]; omega
    by_cases hq : ev t0 < q
    · obtain ⟨T1, h1, L1, X1, e1, N1, K1, Ft1, Fa1, E1, st1⟩ := own_ht hw X hx hZ hby hml hown eT N Z0 a1 q ao ae ke f t0.toInt32 N_.toInt32 t0 (ev t0) E_ g_a1 F_t F_a F_n F_e V_e (own_ix (by omega)) (by omega) (hf t0 (by omega)) hlt hq
      rw [← own_succ] at Fa1
      obtain ⟨T2, h2, L2, X2, e2, N2, K2, Ft2, E2, ⟨t, Fa2, a1_, a2_, a3_, a4_⟩, st2⟩ := ih (t0 + 1) (by omega) T1 L1 h1 X1 e1 N1 (Nat.le_trans Z0 K1.1) E1 Ft1 Fa1 (F_n.keep K1 (ninS ne_o nin0)) (F_e.keep K1 (ninS ne_o nin0)) (V_e.keep K1 (ninS ne_e nin0))
      refine ⟨T2, h2, L2, X2, e2, N2, K1.trans K2 (fun x hx => Or.inl hx), Ft2, E2, ⟨t, Fa2, by omega, a2_, fun j q1 q2 => ?_, a4_⟩, fun target k => st1 target (st2 target k)⟩
      by_cases z : j = t0
      · rw [z]; exact hq
      · exact a3_ j (by omega) q2
    · obtain ⟨T1, L1, X1, e1, N1, st1⟩ := own_hy hw X hx hZ hby hml hown eT N Z0 a1 q ao ae ke f t0.toInt32 N_.toInt32 t0 (ev t0) F_t F_a F_n F_e V_e (own_ix (by omega)) (by omega) (hf t0 (by omega)) hlt hq
      exact ⟨T1, h, L1, X1, e1, N1, Keep.refl _ _, F_t, E_, ⟨t0, F_a, Nat.le_refl _, by omega, fun j h1 h2 => by omega, Or.inr hq⟩, st1⟩
theorem ef_own_hol (m : MethodId) (x0 : Addr) (x1 : Int64) : entryFrame m #[(.ref x0), (.long x1)] 3 = mkF m 0 #[.val (.ref x0), .val (.long x1), .second] [] := by first | (simp [entryFrame, mkF, argsToLocals, Value.category]; done) | rfl
def Q_own_hol (Z : State) (a1 : Addr) (q : Int64) (ao : Addr) (ae : Addr) (ke : ClassId) (f : Nat → Value) (ev : Nat → Int64) (N_ : Nat) (t0 : Nat) (h0 : Heap) (n0 : Nat) (v : Option Value) (h : Heap) (L : List Loc) : Prop := ∃ t : Nat, v = some (.int (if (t < N_ ∧ ev t = q) then (1 : Int32) else (0 : Int32))) ∧ Fr n0 L ∧ Keep h0 h [a1] ∧ Fld Z h a1 "com/example/xml_element_search/xmlelementsearch/ElementScores$Cursor" "this$0" "Lcom/example/xml_element_search/xmlelementsearch/ElementScores;" (.ref ao) ∧ Fld Z h a1 "com/example/xml_element_search/xmlelementsearch/ElementScores$Cursor" "at" "I" (.int t.toInt32) ∧ Exa Z h a1 "com/example/xml_element_search/xmlelementsearch/ElementScores$Cursor" ∧ (t0 ≤ t ∧ t ≤ N_ ∧ (∀ j, t0 ≤ j → j < t → ev j < q) ∧ (t = N_ ∨ ¬ ev t < q))
set_option maxRecDepth 65536 in
set_option maxHeartbeats 40000000 in
theorem own_hol (l : Launch) (Z : State) (a0 : Array Value) (hw : ∀ d ∈ tables_1, d.before a0 Z = true) (ws : List Jvm.Cond) (a1 : Addr) (q : Int64) (ao : Addr) (ae : Addr) (ke : ClassId) (f : Nat → Value) (ev : Nat → Int64) (N_ : Nat) (t0 : Nat) (h0 : Heap) (n0 : Nat) (Z0 : n0 ≤ h0.size) (hN : N_ ≤ 3) (ht0 : t0 ≤ N_) (hf : ∀ j, j < N_ → f j = .long (ev j)) (g_a1 : n0 ≤ a1) (ne_o : ao ≠ a1) (ne_e : ae ≠ a1) (E_ : Exa Z h0 a1 "com/example/xml_element_search/xmlelementsearch/ElementScores$Cursor") (F_t : Fld Z h0 a1 "com/example/xml_element_search/xmlelementsearch/ElementScores$Cursor" "this$0" "Lcom/example/xml_element_search/xmlelementsearch/ElementScores;" (.ref ao)) (F_a : Fld Z h0 a1 "com/example/xml_element_search/xmlelementsearch/ElementScores$Cursor" "at" "I" (.int t0.toInt32)) (F_n : Fld Z h0 ao "com/example/xml_element_search/xmlelementsearch/ElementScores" "size" "I" (.int N_.toInt32)) (F_e : Fld Z h0 ao "com/example/xml_element_search/xmlelementsearch/ElementScores" "elements" "[J" (.ref ae)) (V_e : Arf Z h0 ae ke .long 8 f) :
    MetFree l (⟨"com/example/xml_element_search/xmlelementsearch/ElementScores$Cursor", "holds", "(J)Z"⟩ : MethodName) (head1 (Jvm.Cond.code (⟨"com/example/xml_element_search/xmlelementsearch/ElementScores$Cursor", "holds", "(J)Z"⟩ : MethodName) prog_25_method_2_code 3 (some .boolean) :: ws) ({ frames := 0, cells := 0, slots := 0, locals := 0 } : Room)) (fun a U => a = #[(.ref a1), (.long q)] ∧ Z.Warmed39 U.vm ∧ U.heap = h0) (fun _ _ _ _ _ => True) (fun _ U o U' => ∃ v L, o = .returned v ∧ Q_own_hol Z a1 q ao ae ke f ev N_ t0 h0 n0 v U'.heap L ∧ FrameEnd U o U' L ({ frames := 0, cells := 0, slots := 0, locals := 0 } : Room).cells ({ frames := 0, cells := 0, slots := 0, locals := 0 } : Room).slots) := by
  refine MetFree.of_bodySF (plainFor_of_name pn_own_hol) hisR ?_
  intro p e s m args below meth c s₁ Bd hml0 hP hK
  obtain ⟨rfl, hZ, hh⟩ := hP
  have hx := Bd.exec
  have hby := Bd.bytes
  have hml : c.maxLocals = 3 := hml0
  have hown : s.vm.findClass "com/example/xml_element_search/xmlelementsearch/ElementScores$Cursor" = some m.cls := findClass_of_methodNamed Bd.named
  have hnm := (name_of_methodNamed Bd.named Bd.method).1
  have X0 : Stand p l e ({ frames := 0, cells := 0, slots := 0, locals := 0 } : Room) s m #[(.ref a1), (.long q)] below meth c s₁ [] 0 0 := Stand.of_body Bd
  have e0 : s₁.heap = h0 := by rw [← hh, Bd.state]; rfl
  have N0 := Fr.nil n0
  have pre0 : ∀ t, Steps p.tables e below (s₁.setTop (mkF m 0 #[.val (.ref a1), .val (.long q), .second] [])) t → Steps p.tables e below (s₁.setTop (entryFrame m #[(.ref a1), (.long q)] 3)) t := fun t k => castTop (ef_own_hol m (a1) (q)) k
  obtain ⟨T100, h100, L100, X100, e100, N100, K100, Ft100, E100, ⟨t, Fa100, pr100⟩, st100⟩ := own_loop hw hx hZ hby hml hown a1 ao ae g_a1 ne_o ne_e q ke f ev N_ hN hf (N_ - t0) t0 (by omega) s₁ _ h0 X0 e0 N0 Z0 E_ F_t F_a F_n F_e V_e
  obtain ⟨T101, X101, e101, st101⟩ := getF X100 hx hZ hown (host := "") (Or.inl (hw _ (List.mem_of_getElem? (i := 63) rfl))) Via.refl e100 Fa100 (g := (mkF m 45 #[.val (.ref a1), .val (.long q), .second] [(.ref a1)])) rfl rfl (hb hby d11_45)
  obtain ⟨T102, X102, e102, st102⟩ := getF X101 hx hZ hown (host := "") (Or.inl (hw _ (List.mem_of_getElem? (i := 55) rfl))) Via.refl e101 Ft100 (g := (mkF m 49 #[.val (.ref a1), .val (.long q), .second] [(.ref a1), (.int t.toInt32)])) rfl rfl (hb hby d11_49)
  obtain ⟨T103, X103, e103, st103⟩ := getF X102 hx hZ hown (Or.inr (hw _ (List.mem_of_getElem? (i := 65) rfl))) Via.refl e102 (F_n.keep K100 (ninS ne_o nin0)) (g := (mkF m 52 #[.val (.ref a1), .val (.long q), .second] [(.ref ao), (.int t.toInt32)])) rfl rfl (hb hby d11_52)
  by_cases hn_ : t.toInt32 < N_.toInt32
  · obtain ⟨T105, X105, e105, st105⟩ := getF X103 hx hZ hown (host := "") (Or.inl (hw _ (List.mem_of_getElem? (i := 55) rfl))) Via.refl e103 Ft100 (g := (mkF m 59 #[.val (.ref a1), .val (.long q), .second] [(.ref a1)])) rfl rfl (hb hby d11_59)
    obtain ⟨T106, X106, e106, st106⟩ := getF X105 hx hZ hown (Or.inr (hw _ (List.mem_of_getElem? (i := 66) rfl))) Via.refl e105 (F_e.keep K100 (ninS ne_o nin0)) (g := (mkF m 62 #[.val (.ref a1), .val (.long q), .second] [(.ref ao)])) rfl rfl (hb hby d11_62)
    obtain ⟨T107, X107, e107, st107⟩ := getF X106 hx hZ hown (host := "") (Or.inl (hw _ (List.mem_of_getElem? (i := 63) rfl))) Via.refl e106 Fa100 (g := (mkF m 66 #[.val (.ref a1), .val (.long q), .second] [(.ref a1), (.ref ae)])) rfl rfl (hb hby d11_66)
    obtain ⟨cl108, Ar108, qk108, S108, B108, H108, G108⟩ := id (V_e.keep K100 (ninS ne_e nin0))
    have hin108 : ¬ (t.toInt32 < 0 ∨ cl108.slots.size ≤ (t.toInt32).toNatClampNeg) := own_inb S108 (own_ix (by omega)) (by have := (own_lt (by omega) (by omega)).mp hn_; omega)
    have hat108 : cl108.slots[(t.toInt32).toNatClampNeg]? = some (.long (ev t)) := own_hat H108 (own_ix (by omega)) (by have := (own_lt (by omega) (by omega)).mp hn_; omega) (hf t ((own_lt (by omega) (by omega)).mp hn_))
    by_cases he_ : (ev t) = q
    · obtain ⟨fs, hr, hrun, hended, hW, hsame⟩ := X107.leave (v := some (.int (1 : Int32))) (fun h => by rw [Bd.returns] at h; cases h)
      refine ⟨_, _, pre0 _ ?_, hrun, hended, _, _, rfl, ?_, ⟨_, rfl⟩, hW, hsame.mono (by decide) (by decide)⟩
      · show Steps p.tables e below (s₁.setTop (mkF m 0 #[.val (.ref a1), .val (.long q), .second] [])) _
        refine st100 _ ?_
        show Steps p.tables e below (T100.setTop (mkF m 44 #[.val (.ref a1), .val (.long q), .second] [])) _
        refine XS.aloadN X100.here hx rfl (hb hby d11_44) rfl rfl ?_
        show Steps p.tables e below (T100.setTop (mkF m 45 #[.val (.ref a1), .val (.long q), .second] [(.ref a1)])) _
        refine st101 _ ?_
        show Steps p.tables e below (T101.setTop (mkF m 48 #[.val (.ref a1), .val (.long q), .second] [(.int t.toInt32)])) _
        refine XS.aloadN X101.here hx rfl (hb hby d11_48) rfl rfl ?_
        show Steps p.tables e below (T101.setTop (mkF m 49 #[.val (.ref a1), .val (.long q), .second] [(.ref a1), (.int t.toInt32)])) _
        refine st102 _ ?_
        show Steps p.tables e below (T102.setTop (mkF m 52 #[.val (.ref a1), .val (.long q), .second] [(.ref ao), (.int t.toInt32)])) _
        refine st103 _ ?_
        show Steps p.tables e below (T103.setTop (mkF m 55 #[.val (.ref a1), .val (.long q), .second] [(.int N_.toInt32), (.int t.toInt32)])) _
        refine XS.icmpNo X103.here hx rfl (hb hby d11_55) rfl (XT.ii_ge_f hn_) ?_
        show Steps p.tables e below (T103.setTop (mkF m 58 #[.val (.ref a1), .val (.long q), .second] [])) _
        refine XS.aloadN X103.here hx rfl (hb hby d11_58) rfl rfl ?_
        show Steps p.tables e below (T103.setTop (mkF m 59 #[.val (.ref a1), .val (.long q), .second] [(.ref a1)])) _
        refine st105 _ ?_
        show Steps p.tables e below (T105.setTop (mkF m 62 #[.val (.ref a1), .val (.long q), .second] [(.ref ao)])) _
        refine st106 _ ?_
        show Steps p.tables e below (T106.setTop (mkF m 65 #[.val (.ref a1), .val (.long q), .second] [(.ref ae)])) _
        refine XS.aloadN X106.here hx rfl (hb hby d11_65) rfl rfl ?_
        show Steps p.tables e below (T106.setTop (mkF m 66 #[.val (.ref a1), .val (.long q), .second] [(.ref a1), (.ref ae)])) _
        refine st107 _ ?_
        show Steps p.tables e below (T107.setTop (mkF m 69 #[.val (.ref a1), .val (.long q), .second] [(.int t.toInt32), (.ref ae)])) _
        refine X107.laload hx (j := t.toInt32) (v := (.long (ev t))) (by rw [e107]; exact Ar108.1) (State.isArrayOf_alike hZ.alike Ar108.2.1) Ar108.2.2 hin108 hat108 (g := (mkF m 69 #[.val (.ref a1), .val (.long q), .second] [(.int t.toInt32), (.ref ae)])) rfl rfl (hb hby d11_69) _ ?_
        show Steps p.tables e below (T107.setTop (mkF m 70 #[.val (.ref a1), .val (.long q), .second] [(.long (ev t))])) _
        refine XT.lloadN X107.here hx rfl (hb hby d11_70) rfl ?_
        show Steps p.tables e below (T107.setTop (mkF m 71 #[.val (.ref a1), .val (.long q), .second] [(.long q), (.long (ev t))])) _
        refine XT.lcmp X107.here hx rfl (hb hby d11_71) rfl ?_
        show Steps p.tables e below (T107.setTop (mkF m 72 #[.val (.ref a1), .val (.long q), .second] [(.int (XT.cmpL (ev t) q))])) _
        refine XS.ifNo X107.here hx rfl (hb hby d11_72) rfl (XT.ll_ne_f he_) ?_
        show Steps p.tables e below (T107.setTop (mkF m 75 #[.val (.ref a1), .val (.long q), .second] [])) _
        refine XS.iconst X107.here hx rfl (hb hby d11_75) ?_
        show Steps p.tables e below (T107.setTop (mkF m 76 #[.val (.ref a1), .val (.long q), .second] [(.int (1 : Int32))])) _
        refine XS.goto X107.here hx rfl (pc0 := 76) (pc' := 80) rfl (hb hby d11_76) (by decide) (by decide) ?_
        show Steps p.tables e below (T107.setTop (mkF m 80 #[.val (.ref a1), .val (.long q), .second] [(.int (1 : Int32))])) _
        exact retN X107 hx (t := .boolean) Bd.returns (by simp) (hb hby d11_80) hr
      · show Q_own_hol Z a1 q ao ae ke f ev N_ t0 h0 n0 _ T107.heap _
        rw [e107]
        exact ⟨t, by rw [if_pos ⟨(own_lt (by omega) (by omega)).mp hn_, he_⟩], N100, K100, Ft100, Fa100, E100, pr100⟩
    · obtain ⟨fs, hr, hrun, hended, hW, hsame⟩ := X107.leave (v := some (.int (0 : Int32))) (fun h => by rw [Bd.returns] at h; cases h)
      refine ⟨_, _, pre0 _ ?_, hrun, hended, _, _, rfl, ?_, ⟨_, rfl⟩, hW, hsame.mono (by decide) (by decide)⟩
      · show Steps p.tables e below (s₁.setTop (mkF m 0 #[.val (.ref a1), .val (.long q), .second] [])) _
        refine st100 _ ?_
        show Steps p.tables e below (T100.setTop (mkF m 44 #[.val (.ref a1), .val (.long q), .second] [])) _
        refine XS.aloadN X100.here hx rfl (hb hby d11_44) rfl rfl ?_
        show Steps p.tables e below (T100.setTop (mkF m 45 #[.val (.ref a1), .val (.long q), .second] [(.ref a1)])) _
        refine st101 _ ?_
        show Steps p.tables e below (T101.setTop (mkF m 48 #[.val (.ref a1), .val (.long q), .second] [(.int t.toInt32)])) _
        refine XS.aloadN X101.here hx rfl (hb hby d11_48) rfl rfl ?_
        show Steps p.tables e below (T101.setTop (mkF m 49 #[.val (.ref a1), .val (.long q), .second] [(.ref a1), (.int t.toInt32)])) _
        refine st102 _ ?_
        show Steps p.tables e below (T102.setTop (mkF m 52 #[.val (.ref a1), .val (.long q), .second] [(.ref ao), (.int t.toInt32)])) _
        refine st103 _ ?_
        show Steps p.tables e below (T103.setTop (mkF m 55 #[.val (.ref a1), .val (.long q), .second] [(.int N_.toInt32), (.int t.toInt32)])) _
        refine XS.icmpNo X103.here hx rfl (hb hby d11_55) rfl (XT.ii_ge_f hn_) ?_
        show Steps p.tables e below (T103.setTop (mkF m 58 #[.val (.ref a1), .val (.long q), .second] [])) _
        refine XS.aloadN X103.here hx rfl (hb hby d11_58) rfl rfl ?_
        show Steps p.tables e below (T103.setTop (mkF m 59 #[.val (.ref a1), .val (.long q), .second] [(.ref a1)])) _
        refine st105 _ ?_
        show Steps p.tables e below (T105.setTop (mkF m 62 #[.val (.ref a1), .val (.long q), .second] [(.ref ao)])) _
        refine st106 _ ?_
        show Steps p.tables e below (T106.setTop (mkF m 65 #[.val (.ref a1), .val (.long q), .second] [(.ref ae)])) _
        refine XS.aloadN X106.here hx rfl (hb hby d11_65) rfl rfl ?_
        show Steps p.tables e below (T106.setTop (mkF m 66 #[.val (.ref a1), .val (.long q), .second] [(.ref a1), (.ref ae)])) _
        refine st107 _ ?_
        show Steps p.tables e below (T107.setTop (mkF m 69 #[.val (.ref a1), .val (.long q), .second] [(.int t.toInt32), (.ref ae)])) _
        refine X107.laload hx (j := t.toInt32) (v := (.long (ev t))) (by rw [e107]; exact Ar108.1) (State.isArrayOf_alike hZ.alike Ar108.2.1) Ar108.2.2 hin108 hat108 (g := (mkF m 69 #[.val (.ref a1), .val (.long q), .second] [(.int t.toInt32), (.ref ae)])) rfl rfl (hb hby d11_69) _ ?_
        show Steps p.tables e below (T107.setTop (mkF m 70 #[.val (.ref a1), .val (.long q), .second] [(.long (ev t))])) _
        refine XT.lloadN X107.here hx rfl (hb hby d11_70) rfl ?_
        show Steps p.tables e below (T107.setTop (mkF m 71 #[.val (.ref a1), .val (.long q), .second] [(.long q), (.long (ev t))])) _
        refine XT.lcmp X107.here hx rfl (hb hby d11_71) rfl ?_
        show Steps p.tables e below (T107.setTop (mkF m 72 #[.val (.ref a1), .val (.long q), .second] [(.int (XT.cmpL (ev t) q))])) _
        refine XS.ifYes X107.here hx rfl (pc0 := 72) (pc' := 79) rfl (hb hby d11_72) rfl (XT.ll_ne_t he_) (by decide) (by decide) ?_
        show Steps p.tables e below (T107.setTop (mkF m 79 #[.val (.ref a1), .val (.long q), .second] [])) _
        refine XS.iconst X107.here hx rfl (hb hby d11_79) ?_
        show Steps p.tables e below (T107.setTop (mkF m 80 #[.val (.ref a1), .val (.long q), .second] [(.int (0 : Int32))])) _
        exact retN X107 hx (t := .boolean) Bd.returns (by simp) (hb hby d11_80) hr
      · show Q_own_hol Z a1 q ao ae ke f ev N_ t0 h0 n0 _ T107.heap _
        rw [e107]
        exact ⟨t, by rw [if_neg (fun z => he_ z.2)], N100, K100, Ft100, Fa100, E100, pr100⟩
  · obtain ⟨fs, hr, hrun, hended, hW, hsame⟩ := X103.leave (v := some (.int (0 : Int32))) (fun h => by rw [Bd.returns] at h; cases h)
    refine ⟨_, _, pre0 _ ?_, hrun, hended, _, _, rfl, ?_, ⟨_, rfl⟩, hW, hsame.mono (by decide) (by decide)⟩
    · show Steps p.tables e below (s₁.setTop (mkF m 0 #[.val (.ref a1), .val (.long q), .second] [])) _
      refine st100 _ ?_
      show Steps p.tables e below (T100.setTop (mkF m 44 #[.val (.ref a1), .val (.long q), .second] [])) _
      refine XS.aloadN X100.here hx rfl (hb hby d11_44) rfl rfl ?_
      show Steps p.tables e below (T100.setTop (mkF m 45 #[.val (.ref a1), .val (.long q), .second] [(.ref a1)])) _
      refine st101 _ ?_
      show Steps p.tables e below (T101.setTop (mkF m 48 #[.val (.ref a1), .val (.long q), .second] [(.int t.toInt32)])) _
      refine XS.aloadN X101.here hx rfl (hb hby d11_48) rfl rfl ?_
      show Steps p.tables e below (T101.setTop (mkF m 49 #[.val (.ref a1), .val (.long q), .second] [(.ref a1), (.int t.toInt32)])) _
      refine st102 _ ?_
      show Steps p.tables e below (T102.setTop (mkF m 52 #[.val (.ref a1), .val (.long q), .second] [(.ref ao), (.int t.toInt32)])) _
      refine st103 _ ?_
      show Steps p.tables e below (T103.setTop (mkF m 55 #[.val (.ref a1), .val (.long q), .second] [(.int N_.toInt32), (.int t.toInt32)])) _
      refine XS.icmpYes X103.here hx rfl (pc0 := 55) (pc' := 79) rfl (hb hby d11_55) rfl (XT.ii_ge_t hn_) (by decide) (by decide) ?_
      show Steps p.tables e below (T103.setTop (mkF m 79 #[.val (.ref a1), .val (.long q), .second] [])) _
      refine XS.iconst X103.here hx rfl (hb hby d11_79) ?_
      show Steps p.tables e below (T103.setTop (mkF m 80 #[.val (.ref a1), .val (.long q), .second] [(.int (0 : Int32))])) _
      exact retN X103 hx (t := .boolean) Bd.returns (by simp) (hb hby d11_80) hr
    · show Q_own_hol Z a1 q ao ae ke f ev N_ t0 h0 n0 _ T103.heap _
      rw [e103]
      exact ⟨t, by rw [if_neg (fun z => hn_ ((own_lt (by omega) (by omega)).mpr z.1))], N100, K100, Ft100, Fa100, E100, pr100⟩
theorem d13_0 : decode prog_25_method_3_code 0 = .ok (.aload_n 0, 1) := by decide +kernel
theorem d13_1 : decode prog_25_method_3_code 1 = .ok (.getfield 1, 3) := by decide +kernel
theorem d13_4 : decode prog_25_method_3_code 4 = .ok (.getfield 26, 3) := by decide +kernel
theorem d13_7 : decode prog_25_method_3_code 7 = .ok (.aload_n 0, 1) := by decide +kernel
theorem d13_8 : decode prog_25_method_3_code 8 = .ok (.getfield 13, 3) := by decide +kernel
theorem d13_11 : decode prog_25_method_3_code 11 = .ok (.daload, 1) := by decide +kernel
theorem d13_12 : decode prog_25_method_3_code 12 = .ok (.dreturn, 1) := by decide +kernel
theorem pn_own_sco : plainName "com/example/xml_element_search/xmlelementsearch/ElementScores$Cursor" = true := by first | (simp [plainName, overriddenIn]; done) | decide +kernel
theorem ef_own_sco (m : MethodId) (x0 : Addr) : entryFrame m #[(.ref x0)] 1 = mkF m 0 #[.val (.ref x0)] [] := by first | (simp [entryFrame, mkF, argsToLocals, Value.category]; done) | rfl
def Q_own_sco (Z : State) (a1 : Addr) (ao : Addr) (as_ : Addr) (ks : ClassId) (f : Nat → Value) (ta : Int32) (i : Nat) (wv : UInt64) (h0 : Heap) (n0 : Nat) (v : Option Value) (h : Heap) (L : List Loc) : Prop := v = some (.double wv) ∧ Fr n0 L ∧ h = h0
set_option maxRecDepth 65536 in
set_option maxHeartbeats 40000000 in
theorem own_sco (l : Launch) (Z : State) (a0 : Array Value) (hw : ∀ d ∈ tables_1, d.before a0 Z = true) (ws : List Jvm.Cond) (a1 : Addr) (ao : Addr) (as_ : Addr) (ks : ClassId) (f : Nat → Value) (ta : Int32) (i : Nat) (wv : UInt64) (h0 : Heap) (n0 : Nat) (Z0 : n0 ≤ h0.size) (F_t : Fld Z h0 a1 "com/example/xml_element_search/xmlelementsearch/ElementScores$Cursor" "this$0" "Lcom/example/xml_element_search/xmlelementsearch/ElementScores;" (.ref ao)) (F_a : Fld Z h0 a1 "com/example/xml_element_search/xmlelementsearch/ElementScores$Cursor" "at" "I" (.int ta)) (F_s : Fld Z h0 ao "com/example/xml_element_search/xmlelementsearch/ElementScores" "scores" "[D" (.ref as_)) (V_s : Arf Z h0 as_ ks .double 8 f) (hix : ¬ ta < 0 ∧ ta.toNatClampNeg = i) (hi : i < 8) (hv : f i = .double wv) :
    MetFree l (⟨"com/example/xml_element_search/xmlelementsearch/ElementScores$Cursor", "score", "()D"⟩ : MethodName) (head1 (Jvm.Cond.code (⟨"com/example/xml_element_search/xmlelementsearch/ElementScores$Cursor", "score", "()D"⟩ : MethodName) prog_25_method_3_code 1 (some .double) :: ws) ({ frames := 0, cells := 0, slots := 0, locals := 0 } : Room)) (fun a U => a = #[(.ref a1)] ∧ Z.Warmed39 U.vm ∧ U.heap = h0) (fun _ _ _ _ _ => True) (fun _ U o U' => ∃ v L, o = .returned v ∧ Q_own_sco Z a1 ao as_ ks f ta i wv h0 n0 v U'.heap L ∧ FrameEnd U o U' L ({ frames := 0, cells := 0, slots := 0, locals := 0 } : Room).cells ({ frames := 0, cells := 0, slots := 0, locals := 0 } : Room).slots) := by
  refine MetFree.of_bodySF (plainFor_of_name pn_own_sco) hisR ?_
  intro p e s m args below meth c s₁ Bd hml0 hP hK
  obtain ⟨rfl, hZ, hh⟩ := hP
  have hx := Bd.exec
  have hby := Bd.bytes
  have hml : c.maxLocals = 1 := hml0
  have hown : s.vm.findClass "com/example/xml_element_search/xmlelementsearch/ElementScores$Cursor" = some m.cls := findClass_of_methodNamed Bd.named
  have hnm := (name_of_methodNamed Bd.named Bd.method).1
  have X0 : Stand p l e ({ frames := 0, cells := 0, slots := 0, locals := 0 } : Room) s m #[(.ref a1)] below meth c s₁ [] 0 0 := Stand.of_body Bd
  have e0 : s₁.heap = h0 := by rw [← hh, Bd.state]; rfl
  have N0 := Fr.nil n0
  have pre0 : ∀ t, Steps p.tables e below (s₁.setTop (mkF m 0 #[.val (.ref a1)] [])) t → Steps p.tables e below (s₁.setTop (entryFrame m #[(.ref a1)] 1)) t := fun t k => castTop (ef_own_sco m (a1)) k
  obtain ⟨T110, X110, e110, st110⟩ := getF X0 hx hZ hown (host := "") (Or.inl (hw _ (List.mem_of_getElem? (i := 55) rfl))) Via.refl e0 F_t (g := (mkF m 1 #[.val (.ref a1)] [(.ref a1)])) rfl rfl (hb hby d13_1)
  obtain ⟨T111, X111, e111, st111⟩ := getF X110 hx hZ hown (Or.inr (hw _ (List.mem_of_getElem? (i := 76) rfl))) Via.refl e110 F_s (g := (mkF m 4 #[.val (.ref a1)] [(.ref ao)])) rfl rfl (hb hby d13_4)
  obtain ⟨T112, X112, e112, st112⟩ := getF X111 hx hZ hown (host := "") (Or.inl (hw _ (List.mem_of_getElem? (i := 63) rfl))) Via.refl e111 F_a (g := (mkF m 8 #[.val (.ref a1)] [(.ref a1), (.ref as_)])) rfl rfl (hb hby d13_8)
  obtain ⟨cl113, Ar113, qk113, S113, B113, H113, G113⟩ := id V_s
  have hin113 : ¬ (ta < 0 ∨ cl113.slots.size ≤ (ta).toNatClampNeg) := own_inb S113 hix hi
  have hat113 : cl113.slots[(ta).toNatClampNeg]? = some (.double wv) := own_hat H113 hix hi hv
  obtain ⟨fs, hr, hrun, hended, hW, hsame⟩ := X112.leave (v := some (.double wv)) (fun h => by rw [Bd.returns] at h; cases h)
  refine ⟨_, _, pre0 _ ?_, hrun, hended, _, _, rfl, ?_, ⟨_, rfl⟩, hW, hsame.mono (by decide) (by decide)⟩
  · show Steps p.tables e below (s₁.setTop (mkF m 0 #[.val (.ref a1)] [])) _
    refine XS.aloadN X0.here hx rfl (hb hby d13_0) rfl rfl ?_
    show Steps p.tables e below (s₁.setTop (mkF m 1 #[.val (.ref a1)] [(.ref a1)])) _
    refine st110 _ ?_
    show Steps p.tables e below (T110.setTop (mkF m 4 #[.val (.ref a1)] [(.ref ao)])) _
    refine st111 _ ?_
    show Steps p.tables e below (T111.setTop (mkF m 7 #[.val (.ref a1)] [(.ref as_)])) _
    refine XS.aloadN X111.here hx rfl (hb hby d13_7) rfl rfl ?_
    show Steps p.tables e below (T111.setTop (mkF m 8 #[.val (.ref a1)] [(.ref a1), (.ref as_)])) _
    refine st112 _ ?_
    show Steps p.tables e below (T112.setTop (mkF m 11 #[.val (.ref a1)] [(.int ta), (.ref as_)])) _
    refine X112.daload hx (j := ta) (v := (.double wv)) (by rw [e112]; exact Ar113.1) (State.isArrayOf_alike hZ.alike Ar113.2.1) Ar113.2.2 hin113 hat113 (g := (mkF m 11 #[.val (.ref a1)] [(.int ta), (.ref as_)])) rfl rfl (hb hby d13_11) _ ?_
    show Steps p.tables e below (T112.setTop (mkF m 12 #[.val (.ref a1)] [(.double wv)])) _
    exact retOut X112 hx (t := .double) Bd.returns rfl (Or.inr (Or.inr (Or.inl ⟨rfl, rfl, _, rfl⟩))) (hb hby d13_12) hr
  · show Q_own_sco Z a1 ao as_ ks f ta i wv h0 n0 _ T112.heap _
    rw [e112]
    exact ⟨rfl, N0, rfl⟩
def own_e (a b d : Int64) : Nat → Int64
  | 0 => a
  | 1 => b
  | _ => d
def own_sc : Nat → UInt64
  | 0 => 4607182418800017408
  | 1 => 4611686018427387904
  | _ => 4613937818241073152
theorem own_scv (t : Nat) (h : t < 3) : (cmpValue (FP.dcmp (own_sc t) (FP.i2d (t.toInt32 + (1 : Int32)))) .l) = 0 := by
  match t, h with
  | 0, _ => decide +kernel
  | 1, _ => decide +kernel
  | 2, _ => decide +kernel
theorem own_nn (t : Nat) (h : t < 3) : ¬ t.toInt32 < 0 := (own_ix (by omega)).1
theorem own_idxT (q a b d : Int64) (N_ t : Nat) (hN : N_ ≤ 3) (hasc : ∀ i j, i < j → j < N_ → own_e a b d i < own_e a b d j) (h : t < N_ ∧ own_e a b d t = q) : own_idx q N_.toInt32 a b d = t.toInt32 := by
  obtain ⟨h1, rfl⟩ := h
  have irr : ∀ x : Int64, ¬ x < x := fun x => Int64.lt_irrefl
  have l0 : (0 : Int32) < N_.toInt32 ↔ 0 < N_ := own_lt (a := 0) (by decide) (by omega)
  have l1 : (1 : Int32) < N_.toInt32 ↔ 1 < N_ := own_lt (a := 1) (by decide) (by omega)
  have l2 : (2 : Int32) < N_.toInt32 ↔ 2 < N_ := own_lt (a := 2) (by decide) (by omega)
  unfold own_idx
  match t, h1 with
  | 0, h1 => rw [if_pos ⟨l0.mpr h1, rfl⟩]; rfl
  | 1, h1 =>
    have q := hasc 0 1 (by decide) h1
    rw [if_neg (fun z => irr _ (by have z2 := z.2; change b = a at z2; change a < b at q; rw [z2] at q; exact q)), if_pos ⟨l1.mpr h1, rfl⟩]; rfl
  | 2, h1 =>
    have q := hasc 0 2 (by decide) h1
    have r := hasc 1 2 (by decide) h1
    rw [if_neg (fun z => irr _ (by have z2 := z.2; change d = a at z2; change a < d at q; rw [z2] at q; exact q)), if_neg (fun z => irr _ (by have z2 := z.2; change d = b at z2; change b < d at r; rw [z2] at r; exact r)), if_pos ⟨l2.mpr h1, rfl⟩]; rfl
  | n + 3, h1 => omega
theorem own_idxF (q a b d : Int64) (N_ : Nat) (hN : N_ ≤ 3) (h : ∀ j, j < N_ → ¬ own_e a b d j = q) : own_idx q N_.toInt32 a b d = (-1 : Int32) := by
  have l0 : (0 : Int32) < N_.toInt32 ↔ 0 < N_ := own_lt (a := 0) (by decide) (by omega)
  have l1 : (1 : Int32) < N_.toInt32 ↔ 1 < N_ := own_lt (a := 1) (by decide) (by omega)
  have l2 : (2 : Int32) < N_.toInt32 ↔ 2 < N_ := own_lt (a := 2) (by decide) (by omega)
  unfold own_idx
  rw [if_neg (fun z => h 0 (l0.mp z.1) z.2.symm), if_neg (fun z => h 1 (l1.mp z.1) z.2.symm), if_neg (fun z => h 2 (l2.mp z.1) z.2.symm)]
theorem own_none (q : Int64) (ev : Nat → Int64) (N_ t : Nat) (hasc : ∀ i j, i < j → j < N_ → ev i < ev j) (hlow : ∀ j, j < t → ev j < q) (hst : t = N_ ∨ ¬ ev t < q) (hno : ¬ (t < N_ ∧ ev t = q)) : ∀ j, j < N_ → ¬ ev j = q := fun j hj z => by
  have irr : ∀ x : Int64, ¬ x < x := fun x => Int64.lt_irrefl
  rcases Nat.lt_trichotomy j t with w | w | w
  · have := hlow j w; rw [z] at this; exact irr _ this
  · subst w; exact hno ⟨hj, z⟩
  · rcases hst with r | r
    · omega
    · exact r (by rw [← z]; exact hasc t j w hj)
theorem own_trans {x y z : Int64} (h1 : x < y) (h2 : ¬ z < y) : x < z := by
  rw [Int64.lt_iff_toInt_lt] at *; omega
set_option maxRecDepth 65536 in
set_option maxHeartbeats 40000000 in
theorem own_tail {p : Program} {l : Launch} {e : Env} {s : State} {m : MethodId} {args : Array Value} {below : List Frame} {meth : Method} {c : Code} {T : State} {locs : List Loc} {Z : State} {a0 : Array Value} {h : Heap} {n0 : Nat} (hw : ∀ d ∈ tables_1, d.before a0 Z = true) (X : Stand p l e room_1 s m args below meth c T locs 4 22) (hx : p.tables.exec = Jvm.exec) (hZ : Z.Warmed39 s.vm) (hby : c.code = code) (hml : c.maxLocals = 36) (hown : s.vm.findClass "com/example/xml_element_search/xmlelementsearch/ElementScoresHoldsPinLaw" = some m.cls) (eT : T.heap = h) (N : Fr n0 locs) (Z0 : n0 ≤ h.size) (x0 : Slot) (x1 : Slot) (x2 : Slot) (x3 : Slot) (x4 : Slot) (x5 : Slot) (x6 : Slot) (x7 : Slot) (x8 : Slot) (x9 : Slot) (x10 : Slot) (a : Int64) (d : Int64) (b : Int64) (x18 : Slot) (x19 : Slot) (x20 : Slot) (x21 : Slot) (x22 : Slot) (x23 : Slot) (x24 : Slot) (x25 : Slot) (q1 : Int64) (q2 : Int64) (ao : Addr) (ae : Addr) (as_ : Addr) (ke : ClassId) (ks : ClassId) (fe : Nat → Value) (fs_ : Nat → Value) (N_ : Nat) (hN : N_ ≤ 3) (hasc : ∀ i j, i < j → j < N_ → own_e a b d i < own_e a b d j) (hq : ¬ q2 < q1) (hfe : ∀ j, j < N_ → fe j = .long (own_e a b d j)) (hfs : ∀ j, j < N_ → fs_ j = .double (own_sc j)) (E_o : Exa Z h ao "com/example/xml_element_search/xmlelementsearch/ElementScores") (F_n : Fld Z h ao "com/example/xml_element_search/xmlelementsearch/ElementScores" "size" "I" (.int N_.toInt32)) (F_e : Fld Z h ao "com/example/xml_element_search/xmlelementsearch/ElementScores" "elements" "[J" (.ref ae)) (F_s : Fld Z h ao "com/example/xml_element_search/xmlelementsearch/ElementScores" "scores" "[D" (.ref as_)) (V_e : Arf Z h ae ke .long 8 fe) (V_s : Arf Z h as_ ks .double 8 fs_) :
    ∃ T' h' L' y31 y32 y33 y34 y35, Stand p l e room_1 s m args below meth c T' L' 5 24 ∧ T'.heap = h' ∧ Fr n0 L' ∧ True ∧ ∀ target, Steps p.tables e below (T'.setTop (mkF m 374 #[x0, x1, x2, x3, x4, x5, x6, x7, x8, x9, x10, .val (.int N_.toInt32), .val (.long a), .second, .val (.long d), .second, .val (.long b), .second, x18, x19, x20, x21, x22, x23, x24, x25, .val (.long q1), .second, .val (.long q2), .second, .val (.ref ao), y31, y32, y33, y34, y35] [])) target → Steps p.tables e below (T.setTop (mkF m 234 #[x0, x1, x2, x3, x4, x5, x6, x7, x8, x9, x10, .val (.int N_.toInt32), .val (.long a), .second, .val (.long d), .second, .val (.long b), .second, x18, x19, x20, x21, x22, x23, x24, x25, .val (.long q1), .second, .val (.long q2), .second, .val (.ref ao), .unset, .unset, .unset, .unset, .unset] [])) target := by
  obtain ⟨T114, h114, X114, e114, E114, A114, D114, -, st114⟩ := newO X hx hZ hown (hw _ (List.mem_of_getElem? (i := 45) rfl)) (hw _ (List.mem_of_getElem? (i := 46) rfl)) (hw _ (List.mem_of_getElem? (i := 47) rfl)) eT (g := (mkF m 234 #[x0, x1, x2, x3, x4, x5, x6, x7, x8, x9, x10, .val (.int N_.toInt32), .val (.long a), .second, .val (.long d), .second, .val (.long b), .second, x18, x19, x20, x21, x22, x23, x24, x25, .val (.long q1), .second, .val (.long q2), .second, .val (.ref ao), .unset, .unset, .unset, .unset, .unset] [])) rfl (hb hby at_234) (by decide) (by decide)
  obtain ⟨b114, g114⟩ : ∃ z, z = h.size := ⟨_, rfl⟩
  rw [← g114] at A114 D114 st114
  have g_b114 : n0 ≤ b114 := Nat.le_trans Z0 (Nat.le_of_eq g114.symm)
  have lt_ao_b114 : ao < b114 := Nat.lt_of_lt_of_eq E_o.lt g114.symm
  have lt_ae_b114 : ae < b114 := Nat.lt_of_lt_of_eq V_e.lt g114.symm
  have lt_as__b114 : as_ < b114 := Nat.lt_of_lt_of_eq V_s.lt g114.symm
  have F114_this_0 : Fld Z h114 b114 "com/example/xml_element_search/xmlelementsearch/ElementScores$Cursor" "this$0" "Lcom/example/xml_element_search/xmlelementsearch/ElementScores;" .null := D114 (Or.inr (hw _ (List.mem_of_getElem? (i := 56) rfl))) (ty := (.object "com/example/xml_element_search/xmlelementsearch/ElementScores")) (by decide)
  have F114_at : Fld Z h114 b114 "com/example/xml_element_search/xmlelementsearch/ElementScores$Cursor" "at" "I" (.int (0 : Int32)) := D114 (Or.inl (hw _ (List.mem_of_getElem? (i := 64) rfl))) (ty := .int) (by decide)
  obtain ⟨_, _, ⟨T115, L115, k115, n115⟩, -, X115, ⟨Lc115, hQ115, l115, y115, z115⟩, st115⟩ := Jvm.LawKit.callS X114 hx (y := (⟨"java/util/Objects", "requireNonNull", "(Ljava/lang/Object;)Ljava/lang/Object;"⟩ : MethodName)) hown (mvT hZ (hw _ (List.mem_of_getElem? (i := 48) rfl))) (mvT hZ (hw _ (List.mem_of_getElem? (i := 49) rfl))) (mvT hZ (hw _ (List.mem_of_getElem? (i := 50) rfl))) (mvT hZ (hw _ (List.mem_of_getElem? (i := 51) rfl))) (by decide) (backOf (W := 3) (own_rnn l Z a0 hw [] ao h114 n0 (Nat.le_trans Z0 E114.1) ) hZ (hw _ (List.mem_of_getElem? (i := 51) rfl)) (hw _ (List.mem_of_getElem? (i := 50) rfl)) (by decide) (by decide)) (g := (mkF m 241 #[x0, x1, x2, x3, x4, x5, x6, x7, x8, x9, x10, .val (.int N_.toInt32), .val (.long a), .second, .val (.long d), .second, .val (.long b), .second, x18, x19, x20, x21, x22, x23, x24, x25, .val (.long q1), .second, .val (.long q2), .second, .val (.ref ao), .unset, .unset, .unset, .unset, .unset] [(.ref ao), (.ref ao), (.ref b114), (.ref b114)])) rfl (by rw [hml]; rfl) (argsL := [(.ref ao)]) (rest := [(.ref ao), (.ref b114), (.ref b114)]) (lenOf pd_2 rfl) rfl (by show 2 * 0 + _ ≤ _; exact Nat.le_of_eq rfl) (hb hby at_241) (fun _ _ => ⟨rfl, e114, (by decide : 5 + 0 ≤ _), (by decide : 24 + 0 ≤ _)⟩)
  dsimp only [Pt.U, Pt.locs, Pt.cells, Pt.slots] at X115 l115 y115 z115 st115 hQ115
  subst l115 y115 z115
  obtain ⟨rfl, N115q, eh115⟩ := hQ115
  have N115 := Fr.app N N115q
  obtain ⟨_, _, ⟨T116, L116, k116, n116⟩, -, X116, ⟨Lc116, hQ116, l116, y116, z116⟩, st116⟩ := X115.specialBack hx (y := (⟨"com/example/xml_element_search/xmlelementsearch/ElementScores$Cursor", "<init>", "(Lcom/example/xml_element_search/xmlelementsearch/ElementScores;)V"⟩ : MethodName)) rfl hown (mvT hZ (hw _ (List.mem_of_getElem? (i := 52) rfl))) (mvT hZ (hw _ (List.mem_of_getElem? (i := 53) rfl))) (mvT hZ (hw _ (List.mem_of_getElem? (i := 54) rfl))) (by decide) (backOf (W := 1) (own_ci l Z a0 hw [] b114 ao h114 n0 (Nat.le_trans Z0 E114.1) A114 F114_this_0 F114_at g_b114) hZ (hw _ (List.mem_of_getElem? (i := 54) rfl)) (hw _ (List.mem_of_getElem? (i := 47) rfl)) (by decide) (by decide)) (g := (mkF m 245 #[x0, x1, x2, x3, x4, x5, x6, x7, x8, x9, x10, .val (.int N_.toInt32), .val (.long a), .second, .val (.long d), .second, .val (.long b), .second, x18, x19, x20, x21, x22, x23, x24, x25, .val (.long q1), .second, .val (.long q2), .second, .val (.ref ao), .unset, .unset, .unset, .unset, .unset] [(.ref ao), (.ref b114), (.ref b114)])) rfl (by rw [hml]; rfl) (Steps.refl _) (a := b114) (argsL := [(.ref ao)]) (rest := [(.ref b114)]) (lenOf pd_3 rfl) rfl (by show 2 * 0 + _ ≤ _; exact Nat.le_of_eq rfl) (hb hby at_245) (fun _ _ => ⟨rfl, eh115, (by decide : 5 + 0 ≤ _), (by decide : 24 + 0 ≤ _)⟩)
  dsimp only [Pt.U, Pt.locs, Pt.cells, Pt.slots] at X116 l116 y116 z116 st116 hQ116
  subst l116 y116 z116
  obtain ⟨rfl, N116q, K116, Ft116, Fa116, Ec116⟩ := hQ116
  have N116 := Fr.app N115 N116q
  obtain ⟨cq117, kq117, q117a, q117b, q117c⟩ := isOf hZ rfl Ec116
  obtain ⟨_, _, ⟨T117, L117, k117, n117⟩, -, X117, ⟨Lc117, hQ117, l117, y117, z117⟩, st117⟩ := X116.virtualBack hx (y := (⟨"com/example/xml_element_search/xmlelementsearch/ElementScores$Cursor", "holds", "(J)Z"⟩ : MethodName)) (z := (⟨"com/example/xml_element_search/xmlelementsearch/ElementScores$Cursor", "holds", "(J)Z"⟩ : MethodName)) hown (mvT hZ (hw _ (List.mem_of_getElem? (i := 58) rfl))) (mvT hZ (hw _ (List.mem_of_getElem? (i := 59) rfl))) (notFace_of_selects (args := #[]) (mvT hZ (hw _ (List.mem_of_getElem? (i := 61) rfl)))) (mvT hZ (hw _ (List.mem_of_getElem? (i := 61) rfl))) (mvT hZ (hw _ (List.mem_of_getElem? (i := 60) rfl))) (by decide) (backOf (W := 0) (own_hol l Z a0 hw [] b114 q1 ao ae ke fe (own_e a b d) N_ 0 T116.heap n0 (Nat.le_trans (Nat.le_trans Z0 E114.1) K116.1) hN (by omega) hfe g_b114 (Nat.ne_of_lt lt_ao_b114) (Nat.ne_of_lt lt_ae_b114) Ec116 Ft116 Fa116 ((F_n.ext E114).keep K116 (ninS (Nat.ne_of_lt lt_ao_b114) nin0)) ((F_e.ext E114).keep K116 (ninS (Nat.ne_of_lt lt_ao_b114) nin0)) ((V_e.ext E114).keep K116 (ninS (Nat.ne_of_lt lt_ae_b114) nin0))) hZ (hw _ (List.mem_of_getElem? (i := 62) rfl)) (hw _ (List.mem_of_getElem? (i := 47) rfl)) (by decide) (by decide)) q117a q117c (g := (mkF m 254 #[x0, x1, x2, x3, x4, x5, x6, x7, x8, x9, x10, .val (.int N_.toInt32), .val (.long a), .second, .val (.long d), .second, .val (.long b), .second, x18, x19, x20, x21, x22, x23, x24, x25, .val (.long q1), .second, .val (.long q2), .second, .val (.ref ao), .val (.ref b114), .unset, .unset, .unset, .unset] [(.long q1), (.ref b114)])) rfl (by rw [hml]; rfl) (Steps.refl _) (argsL := [(.long q1)]) (rest := []) (lenOf pd_4 rfl) rfl (by show 2 * 0 + _ ≤ _; exact Nat.le_of_eq rfl) (hb hby at_254) (fun _ _ => ⟨rfl, rfl, (by decide : 5 + 0 ≤ _), (by decide : 24 + 0 ≤ _)⟩)
  dsimp only [Pt.U, Pt.locs, Pt.cells, Pt.slots] at X117 l117 y117 z117 st117 hQ117
  subst l117 y117 z117
  obtain ⟨t1_, rfl, N117q, K117, Ft117, Fa117, Ec117, a1, b1, c1, d1⟩ := hQ117
  have N117 := Fr.app N116 N117q
  have low1 : ∀ j, j < t1_ → own_e a b d j < q1 := fun j hj => c1 j (Nat.zero_le _) hj
  obtain ⟨_, _, ⟨T118, L118, k118, n118⟩, -, X118, ⟨Lc118, hQ118, l118, y118, z118⟩, st118⟩ := Jvm.LawKit.callS X117 hx (y := (⟨"com/example/xml_element_search/xmlelementsearch/ElementScoresHoldsPinLaw", "idx", "(JIJJJ)I"⟩ : MethodName)) hown (mvT hZ (hw _ (List.mem_of_getElem? (i := 67) rfl))) (mvT hZ (hw _ (List.mem_of_getElem? (i := 68) rfl))) (mvT hZ (hw _ (List.mem_of_getElem? (i := 9) rfl))) (mvT hZ (hw _ (List.mem_of_getElem? (i := 69) rfl))) (by decide) (backOf (W := 0) (own_ixm l Z a0 hw [] q1 N_.toInt32 a b d T117.heap n0 (Nat.le_trans (Nat.le_trans (Nat.le_trans Z0 E114.1) K116.1) K117.1) ) hZ (hw _ (List.mem_of_getElem? (i := 69) rfl)) (hw _ (List.mem_of_getElem? (i := 9) rfl)) (by decide) (by decide)) (g := (mkF m 269 #[x0, x1, x2, x3, x4, x5, x6, x7, x8, x9, x10, .val (.int N_.toInt32), .val (.long a), .second, .val (.long d), .second, .val (.long b), .second, x18, x19, x20, x21, x22, x23, x24, x25, .val (.long q1), .second, .val (.long q2), .second, .val (.ref ao), .val (.ref b114), .val (.int (if (t1_ < N_ ∧ (own_e a b d) t1_ = q1) then (1 : Int32) else (0 : Int32))), .unset, .unset, .unset] [(.long d), (.long b), (.long a), (.int N_.toInt32), (.long q1)])) rfl (by rw [hml]; rfl) (argsL := [(.long q1), (.int N_.toInt32), (.long a), (.long b), (.long d)]) (rest := []) (lenOf pd_5 rfl) rfl (by show 2 * 0 + _ ≤ _; exact Nat.le_of_eq rfl) (hb hby at_269) (fun _ _ => ⟨rfl, rfl, (by decide : 5 + 0 ≤ _), (by decide : 24 + 0 ≤ _)⟩)
  dsimp only [Pt.U, Pt.locs, Pt.cells, Pt.slots] at X118 l118 y118 z118 st118 hQ118
  subst l118 y118 z118
  obtain ⟨rfl, N118q, eh118⟩ := hQ118
  have N118 := Fr.app N117 N118q
  by_cases hP1 : (t1_ < N_ ∧ (own_e a b d) t1_ = q1)
  · obtain ⟨cq119, kq119, q119a, q119b, q119c⟩ := isOf hZ eh118 Ec117
    obtain ⟨_, _, ⟨T119, L119, k119, n119⟩, -, X119, ⟨Lc119, hQ119, l119, y119, z119⟩, st119⟩ := X118.virtualBack hx (y := (⟨"com/example/xml_element_search/xmlelementsearch/ElementScores$Cursor", "score", "()D"⟩ : MethodName)) (z := (⟨"com/example/xml_element_search/xmlelementsearch/ElementScores$Cursor", "score", "()D"⟩ : MethodName)) hown (mvT hZ (hw _ (List.mem_of_getElem? (i := 71) rfl))) (mvT hZ (hw _ (List.mem_of_getElem? (i := 72) rfl))) (notFace_of_selects (args := #[]) (mvT hZ (hw _ (List.mem_of_getElem? (i := 74) rfl)))) (mvT hZ (hw _ (List.mem_of_getElem? (i := 74) rfl))) (mvT hZ (hw _ (List.mem_of_getElem? (i := 73) rfl))) (by decide) (backOf (W := 0) (own_sco l Z a0 hw [] b114 ao as_ ks fs_ t1_.toInt32 t1_ (own_sc t1_) T117.heap n0 (Nat.le_trans (Nat.le_trans (Nat.le_trans Z0 E114.1) K116.1) K117.1) Ft117 Fa117 (((F_s.ext E114).keep K116 (ninS (Nat.ne_of_lt lt_ao_b114) nin0)).keep K117 (ninS (Nat.ne_of_lt lt_ao_b114) nin0)) (((V_s.ext E114).keep K116 (ninS (Nat.ne_of_lt lt_as__b114) nin0)).keep K117 (ninS (Nat.ne_of_lt lt_as__b114) nin0)) (own_ix (by omega)) (by omega) (hfs _ hP1.1)) hZ (hw _ (List.mem_of_getElem? (i := 75) rfl)) (hw _ (List.mem_of_getElem? (i := 47) rfl)) (by decide) (by decide)) q119a q119c (g := (mkF m 298 #[x0, x1, x2, x3, x4, x5, x6, x7, x8, x9, x10, .val (.int N_.toInt32), .val (.long a), .second, .val (.long d), .second, .val (.long b), .second, x18, x19, x20, x21, x22, x23, x24, x25, .val (.long q1), .second, .val (.long q2), .second, .val (.ref ao), .val (.ref b114), .val (.int (1 : Int32)), .val (.int t1_.toInt32), .unset, .unset] [(.ref b114)])) rfl (by rw [hml]; rfl) (Steps.refl _) (argsL := []) (rest := []) (lenOf pd_6 rfl) rfl (by show 2 * 0 + _ ≤ _; exact Nat.le_of_eq rfl) (hb hby at_298) (fun _ _ => ⟨rfl, eh118, (by decide : 5 + 0 ≤ _), (by decide : 24 + 0 ≤ _)⟩)
    dsimp only [Pt.U, Pt.locs, Pt.cells, Pt.slots] at X119 l119 y119 z119 st119 hQ119
    subst l119 y119 z119
    obtain ⟨rfl, N119q, eh119⟩ := hQ119
    have N119 := Fr.app N118 N119q
    obtain ⟨cq120, kq120, q120a, q120b, q120c⟩ := isOf hZ eh119 Ec117
    obtain ⟨_, _, ⟨T120, L120, k120, n120⟩, -, X120, ⟨Lc120, hQ120, l120, y120, z120⟩, st120⟩ := X119.virtualBack hx (y := (⟨"com/example/xml_element_search/xmlelementsearch/ElementScores$Cursor", "holds", "(J)Z"⟩ : MethodName)) (z := (⟨"com/example/xml_element_search/xmlelementsearch/ElementScores$Cursor", "holds", "(J)Z"⟩ : MethodName)) hown (mvT hZ (hw _ (List.mem_of_getElem? (i := 58) rfl))) (mvT hZ (hw _ (List.mem_of_getElem? (i := 59) rfl))) (notFace_of_selects (args := #[]) (mvT hZ (hw _ (List.mem_of_getElem? (i := 61) rfl)))) (mvT hZ (hw _ (List.mem_of_getElem? (i := 61) rfl))) (mvT hZ (hw _ (List.mem_of_getElem? (i := 60) rfl))) (by decide) (backOf (W := 0) (own_hol l Z a0 hw [] b114 q2 ao ae ke fe (own_e a b d) N_ t1_ T117.heap n0 (Nat.le_trans (Nat.le_trans (Nat.le_trans Z0 E114.1) K116.1) K117.1) hN (by omega) hfe g_b114 (Nat.ne_of_lt lt_ao_b114) (Nat.ne_of_lt lt_ae_b114) Ec117 Ft117 Fa117 (((F_n.ext E114).keep K116 (ninS (Nat.ne_of_lt lt_ao_b114) nin0)).keep K117 (ninS (Nat.ne_of_lt lt_ao_b114) nin0)) (((F_e.ext E114).keep K116 (ninS (Nat.ne_of_lt lt_ao_b114) nin0)).keep K117 (ninS (Nat.ne_of_lt lt_ao_b114) nin0)) (((V_e.ext E114).keep K116 (ninS (Nat.ne_of_lt lt_ae_b114) nin0)).keep K117 (ninS (Nat.ne_of_lt lt_ae_b114) nin0))) hZ (hw _ (List.mem_of_getElem? (i := 62) rfl)) (hw _ (List.mem_of_getElem? (i := 47) rfl)) (by decide) (by decide)) q120a q120c (g := (mkF m 316 #[x0, x1, x2, x3, x4, x5, x6, x7, x8, x9, x10, .val (.int N_.toInt32), .val (.long a), .second, .val (.long d), .second, .val (.long b), .second, x18, x19, x20, x21, x22, x23, x24, x25, .val (.long q1), .second, .val (.long q2), .second, .val (.ref ao), .val (.ref b114), .val (.int (1 : Int32)), .val (.int t1_.toInt32), .unset, .unset] [(.long q2), (.ref b114)])) rfl (by rw [hml]; rfl) (Steps.refl _) (argsL := [(.long q2)]) (rest := []) (lenOf pd_4 rfl) rfl (by show 2 * 0 + _ ≤ _; exact Nat.le_of_eq rfl) (hb hby at_316) (fun _ _ => ⟨rfl, eh119, (by decide : 5 + 0 ≤ _), (by decide : 24 + 0 ≤ _)⟩)
    dsimp only [Pt.U, Pt.locs, Pt.cells, Pt.slots] at X120 l120 y120 z120 st120 hQ120
    subst l120 y120 z120
    obtain ⟨t2_, rfl, N120q, K120, Ft120, Fa120, Ec120, a2, b2, c2, d2⟩ := hQ120
    have N120 := Fr.app N119 N120q
    have low2 : ∀ j, j < t2_ → own_e a b d j < q2 := fun j hj => by
      by_cases z : j < t1_
      · exact own_trans (low1 j z) hq
      · exact c2 j (by omega) hj
    obtain ⟨_, _, ⟨T121, L121, k121, n121⟩, -, X121, ⟨Lc121, hQ121, l121, y121, z121⟩, st121⟩ := Jvm.LawKit.callS X120 hx (y := (⟨"com/example/xml_element_search/xmlelementsearch/ElementScoresHoldsPinLaw", "idx", "(JIJJJ)I"⟩ : MethodName)) hown (mvT hZ (hw _ (List.mem_of_getElem? (i := 67) rfl))) (mvT hZ (hw _ (List.mem_of_getElem? (i := 68) rfl))) (mvT hZ (hw _ (List.mem_of_getElem? (i := 9) rfl))) (mvT hZ (hw _ (List.mem_of_getElem? (i := 69) rfl))) (by decide) (backOf (W := 0) (own_ixm l Z a0 hw [] q2 N_.toInt32 a b d T120.heap n0 (Nat.le_trans (Nat.le_trans (Nat.le_trans (Nat.le_trans Z0 E114.1) K116.1) K117.1) K120.1) ) hZ (hw _ (List.mem_of_getElem? (i := 69) rfl)) (hw _ (List.mem_of_getElem? (i := 9) rfl)) (by decide) (by decide)) (g := (mkF m 331 #[x0, x1, x2, x3, x4, x5, x6, x7, x8, x9, x10, .val (.int N_.toInt32), .val (.long a), .second, .val (.long d), .second, .val (.long b), .second, x18, x19, x20, x21, x22, x23, x24, x25, .val (.long q1), .second, .val (.long q2), .second, .val (.ref ao), .val (.ref b114), .val (.int (1 : Int32)), .val (.int t1_.toInt32), .val (.int (if (t2_ < N_ ∧ (own_e a b d) t2_ = q2) then (1 : Int32) else (0 : Int32))), .unset] [(.long d), (.long b), (.long a), (.int N_.toInt32), (.long q2)])) rfl (by rw [hml]; rfl) (argsL := [(.long q2), (.int N_.toInt32), (.long a), (.long b), (.long d)]) (rest := []) (lenOf pd_5 rfl) rfl (by show 2 * 0 + _ ≤ _; exact Nat.le_of_eq rfl) (hb hby at_331) (fun _ _ => ⟨rfl, rfl, (by decide : 5 + 0 ≤ _), (by decide : 24 + 0 ≤ _)⟩)
    dsimp only [Pt.U, Pt.locs, Pt.cells, Pt.slots] at X121 l121 y121 z121 st121 hQ121
    subst l121 y121 z121
    obtain ⟨rfl, N121q, eh121⟩ := hQ121
    have N121 := Fr.app N120 N121q
    by_cases hP2 : (t2_ < N_ ∧ (own_e a b d) t2_ = q2)
    · obtain ⟨cq122, kq122, q122a, q122b, q122c⟩ := isOf hZ eh121 Ec120
      obtain ⟨_, _, ⟨T122, L122, k122, n122⟩, -, X122, ⟨Lc122, hQ122, l122, y122, z122⟩, st122⟩ := X121.virtualBack hx (y := (⟨"com/example/xml_element_search/xmlelementsearch/ElementScores$Cursor", "score", "()D"⟩ : MethodName)) (z := (⟨"com/example/xml_element_search/xmlelementsearch/ElementScores$Cursor", "score", "()D"⟩ : MethodName)) hown (mvT hZ (hw _ (List.mem_of_getElem? (i := 71) rfl))) (mvT hZ (hw _ (List.mem_of_getElem? (i := 72) rfl))) (notFace_of_selects (args := #[]) (mvT hZ (hw _ (List.mem_of_getElem? (i := 74) rfl)))) (mvT hZ (hw _ (List.mem_of_getElem? (i := 74) rfl))) (mvT hZ (hw _ (List.mem_of_getElem? (i := 73) rfl))) (by decide) (backOf (W := 0) (own_sco l Z a0 hw [] b114 ao as_ ks fs_ t2_.toInt32 t2_ (own_sc t2_) T120.heap n0 (Nat.le_trans (Nat.le_trans (Nat.le_trans (Nat.le_trans Z0 E114.1) K116.1) K117.1) K120.1) Ft120 Fa120 ((((F_s.ext E114).keep K116 (ninS (Nat.ne_of_lt lt_ao_b114) nin0)).keep K117 (ninS (Nat.ne_of_lt lt_ao_b114) nin0)).keep K120 (ninS (Nat.ne_of_lt lt_ao_b114) nin0)) ((((V_s.ext E114).keep K116 (ninS (Nat.ne_of_lt lt_as__b114) nin0)).keep K117 (ninS (Nat.ne_of_lt lt_as__b114) nin0)).keep K120 (ninS (Nat.ne_of_lt lt_as__b114) nin0)) (own_ix (by omega)) (by omega) (hfs _ hP2.1)) hZ (hw _ (List.mem_of_getElem? (i := 75) rfl)) (hw _ (List.mem_of_getElem? (i := 47) rfl)) (by decide) (by decide)) q122a q122c (g := (mkF m 360 #[x0, x1, x2, x3, x4, x5, x6, x7, x8, x9, x10, .val (.int N_.toInt32), .val (.long a), .second, .val (.long d), .second, .val (.long b), .second, x18, x19, x20, x21, x22, x23, x24, x25, .val (.long q1), .second, .val (.long q2), .second, .val (.ref ao), .val (.ref b114), .val (.int (1 : Int32)), .val (.int t1_.toInt32), .val (.int (1 : Int32)), .val (.int t2_.toInt32)] [(.ref b114)])) rfl (by rw [hml]; rfl) (Steps.refl _) (argsL := []) (rest := []) (lenOf pd_6 rfl) rfl (by show 2 * 0 + _ ≤ _; exact Nat.le_of_eq rfl) (hb hby at_360) (fun _ _ => ⟨rfl, eh121, (by decide : 5 + 0 ≤ _), (by decide : 24 + 0 ≤ _)⟩)
      dsimp only [Pt.U, Pt.locs, Pt.cells, Pt.slots] at X122 l122 y122 z122 st122 hQ122
      subst l122 y122 z122
      obtain ⟨rfl, N122q, eh122⟩ := hQ122
      have N122 := Fr.app N121 N122q
      refine ⟨T122, T120.heap, _, .val (.ref b114), .val (.int (1 : Int32)), .val (.int t1_.toInt32), .val (.int (1 : Int32)), .val (.int t2_.toInt32), X122, eh122, N122, trivial, fun target k => ?_⟩
      show Steps p.tables e below (T.setTop (mkF m 234 #[x0, x1, x2, x3, x4, x5, x6, x7, x8, x9, x10, .val (.int N_.toInt32), .val (.long a), .second, .val (.long d), .second, .val (.long b), .second, x18, x19, x20, x21, x22, x23, x24, x25, .val (.long q1), .second, .val (.long q2), .second, .val (.ref ao), .unset, .unset, .unset, .unset, .unset] [])) _
      refine st114 _ ?_
      show Steps p.tables e below (T114.setTop (mkF m 237 #[x0, x1, x2, x3, x4, x5, x6, x7, x8, x9, x10, .val (.int N_.toInt32), .val (.long a), .second, .val (.long d), .second, .val (.long b), .second, x18, x19, x20, x21, x22, x23, x24, x25, .val (.long q1), .second, .val (.long q2), .second, .val (.ref ao), .unset, .unset, .unset, .unset, .unset] [(.ref b114)])) _
      refine XS.dup X114.here hx rfl (hb hby at_237) rfl rfl ?_
      show Steps p.tables e below (T114.setTop (mkF m 238 #[x0, x1, x2, x3, x4, x5, x6, x7, x8, x9, x10, .val (.int N_.toInt32), .val (.long a), .second, .val (.long d), .second, .val (.long b), .second, x18, x19, x20, x21, x22, x23, x24, x25, .val (.long q1), .second, .val (.long q2), .second, .val (.ref ao), .unset, .unset, .unset, .unset, .unset] [(.ref b114), (.ref b114)])) _
      refine XS.aload X114.here hx rfl (hb hby at_238) rfl rfl ?_
      show Steps p.tables e below (T114.setTop (mkF m 240 #[x0, x1, x2, x3, x4, x5, x6, x7, x8, x9, x10, .val (.int N_.toInt32), .val (.long a), .second, .val (.long d), .second, .val (.long b), .second, x18, x19, x20, x21, x22, x23, x24, x25, .val (.long q1), .second, .val (.long q2), .second, .val (.ref ao), .unset, .unset, .unset, .unset, .unset] [(.ref ao), (.ref b114), (.ref b114)])) _
      refine XS.dup X114.here hx rfl (hb hby at_240) rfl rfl ?_
      show Steps p.tables e below (T114.setTop (mkF m 241 #[x0, x1, x2, x3, x4, x5, x6, x7, x8, x9, x10, .val (.int N_.toInt32), .val (.long a), .second, .val (.long d), .second, .val (.long b), .second, x18, x19, x20, x21, x22, x23, x24, x25, .val (.long q1), .second, .val (.long q2), .second, .val (.ref ao), .unset, .unset, .unset, .unset, .unset] [(.ref ao), (.ref ao), (.ref b114), (.ref b114)])) _
      refine st115 _ ?_
      show Steps p.tables e below (T115.setTop (mkF m 244 #[x0, x1, x2, x3, x4, x5, x6, x7, x8, x9, x10, .val (.int N_.toInt32), .val (.long a), .second, .val (.long d), .second, .val (.long b), .second, x18, x19, x20, x21, x22, x23, x24, x25, .val (.long q1), .second, .val (.long q2), .second, .val (.ref ao), .unset, .unset, .unset, .unset, .unset] [(.ref ao), (.ref ao), (.ref b114), (.ref b114)])) _
      refine XT.pop X115.here hx rfl (hb hby at_244) rfl rfl ?_
      show Steps p.tables e below (T115.setTop (mkF m 245 #[x0, x1, x2, x3, x4, x5, x6, x7, x8, x9, x10, .val (.int N_.toInt32), .val (.long a), .second, .val (.long d), .second, .val (.long b), .second, x18, x19, x20, x21, x22, x23, x24, x25, .val (.long q1), .second, .val (.long q2), .second, .val (.ref ao), .unset, .unset, .unset, .unset, .unset] [(.ref ao), (.ref b114), (.ref b114)])) _
      refine st116.trans ?_
      show Steps p.tables e below (T116.setTop (mkF m 248 #[x0, x1, x2, x3, x4, x5, x6, x7, x8, x9, x10, .val (.int N_.toInt32), .val (.long a), .second, .val (.long d), .second, .val (.long b), .second, x18, x19, x20, x21, x22, x23, x24, x25, .val (.long q1), .second, .val (.long q2), .second, .val (.ref ao), .unset, .unset, .unset, .unset, .unset] [(.ref b114)])) _
      refine XS.astore X116.here hx rfl (hb hby at_248) rfl rfl (l' := #[x0, x1, x2, x3, x4, x5, x6, x7, x8, x9, x10, .val (.int N_.toInt32), .val (.long a), .second, .val (.long d), .second, .val (.long b), .second, x18, x19, x20, x21, x22, x23, x24, x25, .val (.long q1), .second, .val (.long q2), .second, .val (.ref ao), .val (.ref b114), .unset, .unset, .unset, .unset]) rfl ?_
      show Steps p.tables e below (T116.setTop (mkF m 250 #[x0, x1, x2, x3, x4, x5, x6, x7, x8, x9, x10, .val (.int N_.toInt32), .val (.long a), .second, .val (.long d), .second, .val (.long b), .second, x18, x19, x20, x21, x22, x23, x24, x25, .val (.long q1), .second, .val (.long q2), .second, .val (.ref ao), .val (.ref b114), .unset, .unset, .unset, .unset] [])) _
      refine XS.aload X116.here hx rfl (hb hby at_250) rfl rfl ?_
      show Steps p.tables e below (T116.setTop (mkF m 252 #[x0, x1, x2, x3, x4, x5, x6, x7, x8, x9, x10, .val (.int N_.toInt32), .val (.long a), .second, .val (.long d), .second, .val (.long b), .second, x18, x19, x20, x21, x22, x23, x24, x25, .val (.long q1), .second, .val (.long q2), .second, .val (.ref ao), .val (.ref b114), .unset, .unset, .unset, .unset] [(.ref b114)])) _
      refine XT.lload X116.here hx rfl (hb hby at_252) rfl ?_
      show Steps p.tables e below (T116.setTop (mkF m 254 #[x0, x1, x2, x3, x4, x5, x6, x7, x8, x9, x10, .val (.int N_.toInt32), .val (.long a), .second, .val (.long d), .second, .val (.long b), .second, x18, x19, x20, x21, x22, x23, x24, x25, .val (.long q1), .second, .val (.long q2), .second, .val (.ref ao), .val (.ref b114), .unset, .unset, .unset, .unset] [(.long q1), (.ref b114)])) _
      refine st117.trans ?_
      show Steps p.tables e below (T117.setTop (mkF m 257 #[x0, x1, x2, x3, x4, x5, x6, x7, x8, x9, x10, .val (.int N_.toInt32), .val (.long a), .second, .val (.long d), .second, .val (.long b), .second, x18, x19, x20, x21, x22, x23, x24, x25, .val (.long q1), .second, .val (.long q2), .second, .val (.ref ao), .val (.ref b114), .unset, .unset, .unset, .unset] [(.int (if (t1_ < N_ ∧ (own_e a b d) t1_ = q1) then (1 : Int32) else (0 : Int32)))])) _
      refine XS.istore X117.here hx rfl (hb hby at_257) rfl (l' := #[x0, x1, x2, x3, x4, x5, x6, x7, x8, x9, x10, .val (.int N_.toInt32), .val (.long a), .second, .val (.long d), .second, .val (.long b), .second, x18, x19, x20, x21, x22, x23, x24, x25, .val (.long q1), .second, .val (.long q2), .second, .val (.ref ao), .val (.ref b114), .val (.int (if (t1_ < N_ ∧ (own_e a b d) t1_ = q1) then (1 : Int32) else (0 : Int32))), .unset, .unset, .unset]) rfl ?_
      show Steps p.tables e below (T117.setTop (mkF m 259 #[x0, x1, x2, x3, x4, x5, x6, x7, x8, x9, x10, .val (.int N_.toInt32), .val (.long a), .second, .val (.long d), .second, .val (.long b), .second, x18, x19, x20, x21, x22, x23, x24, x25, .val (.long q1), .second, .val (.long q2), .second, .val (.ref ao), .val (.ref b114), .val (.int (if (t1_ < N_ ∧ (own_e a b d) t1_ = q1) then (1 : Int32) else (0 : Int32))), .unset, .unset, .unset] [])) _
      refine XT.lload X117.here hx rfl (hb hby at_259) rfl ?_
      show Steps p.tables e below (T117.setTop (mkF m 261 #[x0, x1, x2, x3, x4, x5, x6, x7, x8, x9, x10, .val (.int N_.toInt32), .val (.long a), .second, .val (.long d), .second, .val (.long b), .second, x18, x19, x20, x21, x22, x23, x24, x25, .val (.long q1), .second, .val (.long q2), .second, .val (.ref ao), .val (.ref b114), .val (.int (if (t1_ < N_ ∧ (own_e a b d) t1_ = q1) then (1 : Int32) else (0 : Int32))), .unset, .unset, .unset] [(.long q1)])) _
      refine XS.iload X117.here hx rfl (hb hby at_261) rfl ?_
      show Steps p.tables e below (T117.setTop (mkF m 263 #[x0, x1, x2, x3, x4, x5, x6, x7, x8, x9, x10, .val (.int N_.toInt32), .val (.long a), .second, .val (.long d), .second, .val (.long b), .second, x18, x19, x20, x21, x22, x23, x24, x25, .val (.long q1), .second, .val (.long q2), .second, .val (.ref ao), .val (.ref b114), .val (.int (if (t1_ < N_ ∧ (own_e a b d) t1_ = q1) then (1 : Int32) else (0 : Int32))), .unset, .unset, .unset] [(.int N_.toInt32), (.long q1)])) _
      refine XT.lload X117.here hx rfl (hb hby at_263) rfl ?_
      show Steps p.tables e below (T117.setTop (mkF m 265 #[x0, x1, x2, x3, x4, x5, x6, x7, x8, x9, x10, .val (.int N_.toInt32), .val (.long a), .second, .val (.long d), .second, .val (.long b), .second, x18, x19, x20, x21, x22, x23, x24, x25, .val (.long q1), .second, .val (.long q2), .second, .val (.ref ao), .val (.ref b114), .val (.int (if (t1_ < N_ ∧ (own_e a b d) t1_ = q1) then (1 : Int32) else (0 : Int32))), .unset, .unset, .unset] [(.long a), (.int N_.toInt32), (.long q1)])) _
      refine XT.lload X117.here hx rfl (hb hby at_265) rfl ?_
      show Steps p.tables e below (T117.setTop (mkF m 267 #[x0, x1, x2, x3, x4, x5, x6, x7, x8, x9, x10, .val (.int N_.toInt32), .val (.long a), .second, .val (.long d), .second, .val (.long b), .second, x18, x19, x20, x21, x22, x23, x24, x25, .val (.long q1), .second, .val (.long q2), .second, .val (.ref ao), .val (.ref b114), .val (.int (if (t1_ < N_ ∧ (own_e a b d) t1_ = q1) then (1 : Int32) else (0 : Int32))), .unset, .unset, .unset] [(.long b), (.long a), (.int N_.toInt32), (.long q1)])) _
      refine XT.lload X117.here hx rfl (hb hby at_267) rfl ?_
      show Steps p.tables e below (T117.setTop (mkF m 269 #[x0, x1, x2, x3, x4, x5, x6, x7, x8, x9, x10, .val (.int N_.toInt32), .val (.long a), .second, .val (.long d), .second, .val (.long b), .second, x18, x19, x20, x21, x22, x23, x24, x25, .val (.long q1), .second, .val (.long q2), .second, .val (.ref ao), .val (.ref b114), .val (.int (if (t1_ < N_ ∧ (own_e a b d) t1_ = q1) then (1 : Int32) else (0 : Int32))), .unset, .unset, .unset] [(.long d), (.long b), (.long a), (.int N_.toInt32), (.long q1)])) _
      refine st118 _ ?_
      show Steps p.tables e below (T118.setTop (mkF m 272 #[x0, x1, x2, x3, x4, x5, x6, x7, x8, x9, x10, .val (.int N_.toInt32), .val (.long a), .second, .val (.long d), .second, .val (.long b), .second, x18, x19, x20, x21, x22, x23, x24, x25, .val (.long q1), .second, .val (.long q2), .second, .val (.ref ao), .val (.ref b114), .val (.int (if (t1_ < N_ ∧ (own_e a b d) t1_ = q1) then (1 : Int32) else (0 : Int32))), .unset, .unset, .unset] [(.int (own_idx q1 N_.toInt32 a b d))])) _
      refine XS.istore X118.here hx rfl (hb hby at_272) rfl (l' := #[x0, x1, x2, x3, x4, x5, x6, x7, x8, x9, x10, .val (.int N_.toInt32), .val (.long a), .second, .val (.long d), .second, .val (.long b), .second, x18, x19, x20, x21, x22, x23, x24, x25, .val (.long q1), .second, .val (.long q2), .second, .val (.ref ao), .val (.ref b114), .val (.int (if (t1_ < N_ ∧ (own_e a b d) t1_ = q1) then (1 : Int32) else (0 : Int32))), .val (.int (own_idx q1 N_.toInt32 a b d)), .unset, .unset]) rfl ?_
      show Steps p.tables e below (T118.setTop (mkF m 274 #[x0, x1, x2, x3, x4, x5, x6, x7, x8, x9, x10, .val (.int N_.toInt32), .val (.long a), .second, .val (.long d), .second, .val (.long b), .second, x18, x19, x20, x21, x22, x23, x24, x25, .val (.long q1), .second, .val (.long q2), .second, .val (.ref ao), .val (.ref b114), .val (.int (if (t1_ < N_ ∧ (own_e a b d) t1_ = q1) then (1 : Int32) else (0 : Int32))), .val (.int (own_idx q1 N_.toInt32 a b d)), .unset, .unset] [])) _
      rw [if_pos hP1, own_idxT q1 a b d N_ t1_ hN hasc hP1]
      show Steps p.tables e below (T118.setTop (mkF m 274 #[x0, x1, x2, x3, x4, x5, x6, x7, x8, x9, x10, .val (.int N_.toInt32), .val (.long a), .second, .val (.long d), .second, .val (.long b), .second, x18, x19, x20, x21, x22, x23, x24, x25, .val (.long q1), .second, .val (.long q2), .second, .val (.ref ao), .val (.ref b114), .val (.int (1 : Int32)), .val (.int t1_.toInt32), .unset, .unset] [])) _
      refine XS.iload X118.here hx rfl (hb hby at_274) rfl ?_
      show Steps p.tables e below (T118.setTop (mkF m 276 #[x0, x1, x2, x3, x4, x5, x6, x7, x8, x9, x10, .val (.int N_.toInt32), .val (.long a), .second, .val (.long d), .second, .val (.long b), .second, x18, x19, x20, x21, x22, x23, x24, x25, .val (.long q1), .second, .val (.long q2), .second, .val (.ref ao), .val (.ref b114), .val (.int (1 : Int32)), .val (.int t1_.toInt32), .unset, .unset] [(.int (1 : Int32))])) _
      refine XS.iload X118.here hx rfl (hb hby at_276) rfl ?_
      show Steps p.tables e below (T118.setTop (mkF m 278 #[x0, x1, x2, x3, x4, x5, x6, x7, x8, x9, x10, .val (.int N_.toInt32), .val (.long a), .second, .val (.long d), .second, .val (.long b), .second, x18, x19, x20, x21, x22, x23, x24, x25, .val (.long q1), .second, .val (.long q2), .second, .val (.ref ao), .val (.ref b114), .val (.int (1 : Int32)), .val (.int t1_.toInt32), .unset, .unset] [(.int t1_.toInt32), (.int (1 : Int32))])) _
      refine XS.ifNo X118.here hx rfl (hb hby at_278) rfl (XT.i0_lt_f (own_nn t1_ (by omega))) ?_
      show Steps p.tables e below (T118.setTop (mkF m 281 #[x0, x1, x2, x3, x4, x5, x6, x7, x8, x9, x10, .val (.int N_.toInt32), .val (.long a), .second, .val (.long d), .second, .val (.long b), .second, x18, x19, x20, x21, x22, x23, x24, x25, .val (.long q1), .second, .val (.long q2), .second, .val (.ref ao), .val (.ref b114), .val (.int (1 : Int32)), .val (.int t1_.toInt32), .unset, .unset] [(.int (1 : Int32))])) _
      refine XS.iconst X118.here hx rfl (hb hby at_281) ?_
      show Steps p.tables e below (T118.setTop (mkF m 282 #[x0, x1, x2, x3, x4, x5, x6, x7, x8, x9, x10, .val (.int N_.toInt32), .val (.long a), .second, .val (.long d), .second, .val (.long b), .second, x18, x19, x20, x21, x22, x23, x24, x25, .val (.long q1), .second, .val (.long q2), .second, .val (.ref ao), .val (.ref b114), .val (.int (1 : Int32)), .val (.int t1_.toInt32), .unset, .unset] [(.int (1 : Int32)), (.int (1 : Int32))])) _
      refine XS.goto X118.here hx rfl (pc0 := 282) (pc' := 286) rfl (hb hby at_282) (by decide) (by decide) ?_
      show Steps p.tables e below (T118.setTop (mkF m 286 #[x0, x1, x2, x3, x4, x5, x6, x7, x8, x9, x10, .val (.int N_.toInt32), .val (.long a), .second, .val (.long d), .second, .val (.long b), .second, x18, x19, x20, x21, x22, x23, x24, x25, .val (.long q1), .second, .val (.long q2), .second, .val (.ref ao), .val (.ref b114), .val (.int (1 : Int32)), .val (.int t1_.toInt32), .unset, .unset] [(.int (1 : Int32)), (.int (1 : Int32))])) _
      refine XS.icmpYes X118.here hx rfl (pc0 := 286) (pc' := 291) rfl (hb hby at_286) rfl (XT.ii_eq_t (by decide)) (by decide) (by decide) ?_
      show Steps p.tables e below (T118.setTop (mkF m 291 #[x0, x1, x2, x3, x4, x5, x6, x7, x8, x9, x10, .val (.int N_.toInt32), .val (.long a), .second, .val (.long d), .second, .val (.long b), .second, x18, x19, x20, x21, x22, x23, x24, x25, .val (.long q1), .second, .val (.long q2), .second, .val (.ref ao), .val (.ref b114), .val (.int (1 : Int32)), .val (.int t1_.toInt32), .unset, .unset] [])) _
      refine XS.iload X118.here hx rfl (hb hby at_291) rfl ?_
      show Steps p.tables e below (T118.setTop (mkF m 293 #[x0, x1, x2, x3, x4, x5, x6, x7, x8, x9, x10, .val (.int N_.toInt32), .val (.long a), .second, .val (.long d), .second, .val (.long b), .second, x18, x19, x20, x21, x22, x23, x24, x25, .val (.long q1), .second, .val (.long q2), .second, .val (.ref ao), .val (.ref b114), .val (.int (1 : Int32)), .val (.int t1_.toInt32), .unset, .unset] [(.int (1 : Int32))])) _
      refine XS.ifNo X118.here hx rfl (hb hby at_293) rfl (XT.i0_eq_f (by decide)) ?_
      show Steps p.tables e below (T118.setTop (mkF m 296 #[x0, x1, x2, x3, x4, x5, x6, x7, x8, x9, x10, .val (.int N_.toInt32), .val (.long a), .second, .val (.long d), .second, .val (.long b), .second, x18, x19, x20, x21, x22, x23, x24, x25, .val (.long q1), .second, .val (.long q2), .second, .val (.ref ao), .val (.ref b114), .val (.int (1 : Int32)), .val (.int t1_.toInt32), .unset, .unset] [])) _
      refine XS.aload X118.here hx rfl (hb hby at_296) rfl rfl ?_
      show Steps p.tables e below (T118.setTop (mkF m 298 #[x0, x1, x2, x3, x4, x5, x6, x7, x8, x9, x10, .val (.int N_.toInt32), .val (.long a), .second, .val (.long d), .second, .val (.long b), .second, x18, x19, x20, x21, x22, x23, x24, x25, .val (.long q1), .second, .val (.long q2), .second, .val (.ref ao), .val (.ref b114), .val (.int (1 : Int32)), .val (.int t1_.toInt32), .unset, .unset] [(.ref b114)])) _
      refine st119.trans ?_
      show Steps p.tables e below (T119.setTop (mkF m 301 #[x0, x1, x2, x3, x4, x5, x6, x7, x8, x9, x10, .val (.int N_.toInt32), .val (.long a), .second, .val (.long d), .second, .val (.long b), .second, x18, x19, x20, x21, x22, x23, x24, x25, .val (.long q1), .second, .val (.long q2), .second, .val (.ref ao), .val (.ref b114), .val (.int (1 : Int32)), .val (.int t1_.toInt32), .unset, .unset] [(.double (own_sc t1_))])) _
      refine XS.iload X119.here hx rfl (hb hby at_301) rfl ?_
      show Steps p.tables e below (T119.setTop (mkF m 303 #[x0, x1, x2, x3, x4, x5, x6, x7, x8, x9, x10, .val (.int N_.toInt32), .val (.long a), .second, .val (.long d), .second, .val (.long b), .second, x18, x19, x20, x21, x22, x23, x24, x25, .val (.long q1), .second, .val (.long q2), .second, .val (.ref ao), .val (.ref b114), .val (.int (1 : Int32)), .val (.int t1_.toInt32), .unset, .unset] [(.int t1_.toInt32), (.double (own_sc t1_))])) _
      refine XS.iconst X119.here hx rfl (hb hby at_303) ?_
      show Steps p.tables e below (T119.setTop (mkF m 304 #[x0, x1, x2, x3, x4, x5, x6, x7, x8, x9, x10, .val (.int N_.toInt32), .val (.long a), .second, .val (.long d), .second, .val (.long b), .second, x18, x19, x20, x21, x22, x23, x24, x25, .val (.long q1), .second, .val (.long q2), .second, .val (.ref ao), .val (.ref b114), .val (.int (1 : Int32)), .val (.int t1_.toInt32), .unset, .unset] [(.int (1 : Int32)), (.int t1_.toInt32), (.double (own_sc t1_))])) _
      refine XS.iadd X119.here hx rfl (hb hby at_304) rfl ?_
      show Steps p.tables e below (T119.setTop (mkF m 305 #[x0, x1, x2, x3, x4, x5, x6, x7, x8, x9, x10, .val (.int N_.toInt32), .val (.long a), .second, .val (.long d), .second, .val (.long b), .second, x18, x19, x20, x21, x22, x23, x24, x25, .val (.long q1), .second, .val (.long q2), .second, .val (.ref ao), .val (.ref b114), .val (.int (1 : Int32)), .val (.int t1_.toInt32), .unset, .unset] [(.int (t1_.toInt32 + (1 : Int32))), (.double (own_sc t1_))])) _
      refine own_i2d X119.here hx rfl (hb hby at_305) rfl ?_
      show Steps p.tables e below (T119.setTop (mkF m 306 #[x0, x1, x2, x3, x4, x5, x6, x7, x8, x9, x10, .val (.int N_.toInt32), .val (.long a), .second, .val (.long d), .second, .val (.long b), .second, x18, x19, x20, x21, x22, x23, x24, x25, .val (.long q1), .second, .val (.long q2), .second, .val (.ref ao), .val (.ref b114), .val (.int (1 : Int32)), .val (.int t1_.toInt32), .unset, .unset] [(.double (FP.i2d (t1_.toInt32 + (1 : Int32)))), (.double (own_sc t1_))])) _
      refine own_dcmp X119.here hx rfl (hb hby at_306) rfl ?_
      show Steps p.tables e below (T119.setTop (mkF m 307 #[x0, x1, x2, x3, x4, x5, x6, x7, x8, x9, x10, .val (.int N_.toInt32), .val (.long a), .second, .val (.long d), .second, .val (.long b), .second, x18, x19, x20, x21, x22, x23, x24, x25, .val (.long q1), .second, .val (.long q2), .second, .val (.ref ao), .val (.ref b114), .val (.int (1 : Int32)), .val (.int t1_.toInt32), .unset, .unset] [(.int (cmpValue (FP.dcmp (own_sc t1_) (FP.i2d (t1_.toInt32 + (1 : Int32)))) .l))])) _
      refine XS.ifYes X119.here hx rfl (pc0 := 307) (pc' := 312) rfl (hb hby at_307) rfl (XT.i0_eq_t (own_scv t1_ (by omega))) (by decide) (by decide) ?_
      show Steps p.tables e below (T119.setTop (mkF m 312 #[x0, x1, x2, x3, x4, x5, x6, x7, x8, x9, x10, .val (.int N_.toInt32), .val (.long a), .second, .val (.long d), .second, .val (.long b), .second, x18, x19, x20, x21, x22, x23, x24, x25, .val (.long q1), .second, .val (.long q2), .second, .val (.ref ao), .val (.ref b114), .val (.int (1 : Int32)), .val (.int t1_.toInt32), .unset, .unset] [])) _
      refine XS.aload X119.here hx rfl (hb hby at_312) rfl rfl ?_
      show Steps p.tables e below (T119.setTop (mkF m 314 #[x0, x1, x2, x3, x4, x5, x6, x7, x8, x9, x10, .val (.int N_.toInt32), .val (.long a), .second, .val (.long d), .second, .val (.long b), .second, x18, x19, x20, x21, x22, x23, x24, x25, .val (.long q1), .second, .val (.long q2), .second, .val (.ref ao), .val (.ref b114), .val (.int (1 : Int32)), .val (.int t1_.toInt32), .unset, .unset] [(.ref b114)])) _
      refine XT.lload X119.here hx rfl (hb hby at_314) rfl ?_
      show Steps p.tables e below (T119.setTop (mkF m 316 #[x0, x1, x2, x3, x4, x5, x6, x7, x8, x9, x10, .val (.int N_.toInt32), .val (.long a), .second, .val (.long d), .second, .val (.long b), .second, x18, x19, x20, x21, x22, x23, x24, x25, .val (.long q1), .second, .val (.long q2), .second, .val (.ref ao), .val (.ref b114), .val (.int (1 : Int32)), .val (.int t1_.toInt32), .unset, .unset] [(.long q2), (.ref b114)])) _
      refine st120.trans ?_
      show Steps p.tables e below (T120.setTop (mkF m 319 #[x0, x1, x2, x3, x4, x5, x6, x7, x8, x9, x10, .val (.int N_.toInt32), .val (.long a), .second, .val (.long d), .second, .val (.long b), .second, x18, x19, x20, x21, x22, x23, x24, x25, .val (.long q1), .second, .val (.long q2), .second, .val (.ref ao), .val (.ref b114), .val (.int (1 : Int32)), .val (.int t1_.toInt32), .unset, .unset] [(.int (if (t2_ < N_ ∧ (own_e a b d) t2_ = q2) then (1 : Int32) else (0 : Int32)))])) _
      refine XS.istore X120.here hx rfl (hb hby at_319) rfl (l' := #[x0, x1, x2, x3, x4, x5, x6, x7, x8, x9, x10, .val (.int N_.toInt32), .val (.long a), .second, .val (.long d), .second, .val (.long b), .second, x18, x19, x20, x21, x22, x23, x24, x25, .val (.long q1), .second, .val (.long q2), .second, .val (.ref ao), .val (.ref b114), .val (.int (1 : Int32)), .val (.int t1_.toInt32), .val (.int (if (t2_ < N_ ∧ (own_e a b d) t2_ = q2) then (1 : Int32) else (0 : Int32))), .unset]) rfl ?_
      show Steps p.tables e below (T120.setTop (mkF m 321 #[x0, x1, x2, x3, x4, x5, x6, x7, x8, x9, x10, .val (.int N_.toInt32), .val (.long a), .second, .val (.long d), .second, .val (.long b), .second, x18, x19, x20, x21, x22, x23, x24, x25, .val (.long q1), .second, .val (.long q2), .second, .val (.ref ao), .val (.ref b114), .val (.int (1 : Int32)), .val (.int t1_.toInt32), .val (.int (if (t2_ < N_ ∧ (own_e a b d) t2_ = q2) then (1 : Int32) else (0 : Int32))), .unset] [])) _
      refine XT.lload X120.here hx rfl (hb hby at_321) rfl ?_
      show Steps p.tables e below (T120.setTop (mkF m 323 #[x0, x1, x2, x3, x4, x5, x6, x7, x8, x9, x10, .val (.int N_.toInt32), .val (.long a), .second, .val (.long d), .second, .val (.long b), .second, x18, x19, x20, x21, x22, x23, x24, x25, .val (.long q1), .second, .val (.long q2), .second, .val (.ref ao), .val (.ref b114), .val (.int (1 : Int32)), .val (.int t1_.toInt32), .val (.int (if (t2_ < N_ ∧ (own_e a b d) t2_ = q2) then (1 : Int32) else (0 : Int32))), .unset] [(.long q2)])) _
      refine XS.iload X120.here hx rfl (hb hby at_323) rfl ?_
      show Steps p.tables e below (T120.setTop (mkF m 325 #[x0, x1, x2, x3, x4, x5, x6, x7, x8, x9, x10, .val (.int N_.toInt32), .val (.long a), .second, .val (.long d), .second, .val (.long b), .second, x18, x19, x20, x21, x22, x23, x24, x25, .val (.long q1), .second, .val (.long q2), .second, .val (.ref ao), .val (.ref b114), .val (.int (1 : Int32)), .val (.int t1_.toInt32), .val (.int (if (t2_ < N_ ∧ (own_e a b d) t2_ = q2) then (1 : Int32) else (0 : Int32))), .unset] [(.int N_.toInt32), (.long q2)])) _
      refine XT.lload X120.here hx rfl (hb hby at_325) rfl ?_
      show Steps p.tables e below (T120.setTop (mkF m 327 #[x0, x1, x2, x3, x4, x5, x6, x7, x8, x9, x10, .val (.int N_.toInt32), .val (.long a), .second, .val (.long d), .second, .val (.long b), .second, x18, x19, x20, x21, x22, x23, x24, x25, .val (.long q1), .second, .val (.long q2), .second, .val (.ref ao), .val (.ref b114), .val (.int (1 : Int32)), .val (.int t1_.toInt32), .val (.int (if (t2_ < N_ ∧ (own_e a b d) t2_ = q2) then (1 : Int32) else (0 : Int32))), .unset] [(.long a), (.int N_.toInt32), (.long q2)])) _
      refine XT.lload X120.here hx rfl (hb hby at_327) rfl ?_
      show Steps p.tables e below (T120.setTop (mkF m 329 #[x0, x1, x2, x3, x4, x5, x6, x7, x8, x9, x10, .val (.int N_.toInt32), .val (.long a), .second, .val (.long d), .second, .val (.long b), .second, x18, x19, x20, x21, x22, x23, x24, x25, .val (.long q1), .second, .val (.long q2), .second, .val (.ref ao), .val (.ref b114), .val (.int (1 : Int32)), .val (.int t1_.toInt32), .val (.int (if (t2_ < N_ ∧ (own_e a b d) t2_ = q2) then (1 : Int32) else (0 : Int32))), .unset] [(.long b), (.long a), (.int N_.toInt32), (.long q2)])) _
      refine XT.lload X120.here hx rfl (hb hby at_329) rfl ?_
      show Steps p.tables e below (T120.setTop (mkF m 331 #[x0, x1, x2, x3, x4, x5, x6, x7, x8, x9, x10, .val (.int N_.toInt32), .val (.long a), .second, .val (.long d), .second, .val (.long b), .second, x18, x19, x20, x21, x22, x23, x24, x25, .val (.long q1), .second, .val (.long q2), .second, .val (.ref ao), .val (.ref b114), .val (.int (1 : Int32)), .val (.int t1_.toInt32), .val (.int (if (t2_ < N_ ∧ (own_e a b d) t2_ = q2) then (1 : Int32) else (0 : Int32))), .unset] [(.long d), (.long b), (.long a), (.int N_.toInt32), (.long q2)])) _
      refine st121 _ ?_
      show Steps p.tables e below (T121.setTop (mkF m 334 #[x0, x1, x2, x3, x4, x5, x6, x7, x8, x9, x10, .val (.int N_.toInt32), .val (.long a), .second, .val (.long d), .second, .val (.long b), .second, x18, x19, x20, x21, x22, x23, x24, x25, .val (.long q1), .second, .val (.long q2), .second, .val (.ref ao), .val (.ref b114), .val (.int (1 : Int32)), .val (.int t1_.toInt32), .val (.int (if (t2_ < N_ ∧ (own_e a b d) t2_ = q2) then (1 : Int32) else (0 : Int32))), .unset] [(.int (own_idx q2 N_.toInt32 a b d))])) _
      refine XS.istore X121.here hx rfl (hb hby at_334) rfl (l' := #[x0, x1, x2, x3, x4, x5, x6, x7, x8, x9, x10, .val (.int N_.toInt32), .val (.long a), .second, .val (.long d), .second, .val (.long b), .second, x18, x19, x20, x21, x22, x23, x24, x25, .val (.long q1), .second, .val (.long q2), .second, .val (.ref ao), .val (.ref b114), .val (.int (1 : Int32)), .val (.int t1_.toInt32), .val (.int (if (t2_ < N_ ∧ (own_e a b d) t2_ = q2) then (1 : Int32) else (0 : Int32))), .val (.int (own_idx q2 N_.toInt32 a b d))]) rfl ?_
      show Steps p.tables e below (T121.setTop (mkF m 336 #[x0, x1, x2, x3, x4, x5, x6, x7, x8, x9, x10, .val (.int N_.toInt32), .val (.long a), .second, .val (.long d), .second, .val (.long b), .second, x18, x19, x20, x21, x22, x23, x24, x25, .val (.long q1), .second, .val (.long q2), .second, .val (.ref ao), .val (.ref b114), .val (.int (1 : Int32)), .val (.int t1_.toInt32), .val (.int (if (t2_ < N_ ∧ (own_e a b d) t2_ = q2) then (1 : Int32) else (0 : Int32))), .val (.int (own_idx q2 N_.toInt32 a b d))] [])) _
      rw [if_pos hP2, own_idxT q2 a b d N_ t2_ hN hasc hP2]
      show Steps p.tables e below (T121.setTop (mkF m 336 #[x0, x1, x2, x3, x4, x5, x6, x7, x8, x9, x10, .val (.int N_.toInt32), .val (.long a), .second, .val (.long d), .second, .val (.long b), .second, x18, x19, x20, x21, x22, x23, x24, x25, .val (.long q1), .second, .val (.long q2), .second, .val (.ref ao), .val (.ref b114), .val (.int (1 : Int32)), .val (.int t1_.toInt32), .val (.int (1 : Int32)), .val (.int t2_.toInt32)] [])) _
      refine XS.iload X121.here hx rfl (hb hby at_336) rfl ?_
      show Steps p.tables e below (T121.setTop (mkF m 338 #[x0, x1, x2, x3, x4, x5, x6, x7, x8, x9, x10, .val (.int N_.toInt32), .val (.long a), .second, .val (.long d), .second, .val (.long b), .second, x18, x19, x20, x21, x22, x23, x24, x25, .val (.long q1), .second, .val (.long q2), .second, .val (.ref ao), .val (.ref b114), .val (.int (1 : Int32)), .val (.int t1_.toInt32), .val (.int (1 : Int32)), .val (.int t2_.toInt32)] [(.int (1 : Int32))])) _
      refine XS.iload X121.here hx rfl (hb hby at_338) rfl ?_
      show Steps p.tables e below (T121.setTop (mkF m 340 #[x0, x1, x2, x3, x4, x5, x6, x7, x8, x9, x10, .val (.int N_.toInt32), .val (.long a), .second, .val (.long d), .second, .val (.long b), .second, x18, x19, x20, x21, x22, x23, x24, x25, .val (.long q1), .second, .val (.long q2), .second, .val (.ref ao), .val (.ref b114), .val (.int (1 : Int32)), .val (.int t1_.toInt32), .val (.int (1 : Int32)), .val (.int t2_.toInt32)] [(.int t2_.toInt32), (.int (1 : Int32))])) _
      refine XS.ifNo X121.here hx rfl (hb hby at_340) rfl (XT.i0_lt_f (own_nn t2_ (by omega))) ?_
      show Steps p.tables e below (T121.setTop (mkF m 343 #[x0, x1, x2, x3, x4, x5, x6, x7, x8, x9, x10, .val (.int N_.toInt32), .val (.long a), .second, .val (.long d), .second, .val (.long b), .second, x18, x19, x20, x21, x22, x23, x24, x25, .val (.long q1), .second, .val (.long q2), .second, .val (.ref ao), .val (.ref b114), .val (.int (1 : Int32)), .val (.int t1_.toInt32), .val (.int (1 : Int32)), .val (.int t2_.toInt32)] [(.int (1 : Int32))])) _
      refine XS.iconst X121.here hx rfl (hb hby at_343) ?_
      show Steps p.tables e below (T121.setTop (mkF m 344 #[x0, x1, x2, x3, x4, x5, x6, x7, x8, x9, x10, .val (.int N_.toInt32), .val (.long a), .second, .val (.long d), .second, .val (.long b), .second, x18, x19, x20, x21, x22, x23, x24, x25, .val (.long q1), .second, .val (.long q2), .second, .val (.ref ao), .val (.ref b114), .val (.int (1 : Int32)), .val (.int t1_.toInt32), .val (.int (1 : Int32)), .val (.int t2_.toInt32)] [(.int (1 : Int32)), (.int (1 : Int32))])) _
      refine XS.goto X121.here hx rfl (pc0 := 344) (pc' := 348) rfl (hb hby at_344) (by decide) (by decide) ?_
      show Steps p.tables e below (T121.setTop (mkF m 348 #[x0, x1, x2, x3, x4, x5, x6, x7, x8, x9, x10, .val (.int N_.toInt32), .val (.long a), .second, .val (.long d), .second, .val (.long b), .second, x18, x19, x20, x21, x22, x23, x24, x25, .val (.long q1), .second, .val (.long q2), .second, .val (.ref ao), .val (.ref b114), .val (.int (1 : Int32)), .val (.int t1_.toInt32), .val (.int (1 : Int32)), .val (.int t2_.toInt32)] [(.int (1 : Int32)), (.int (1 : Int32))])) _
      refine XS.icmpYes X121.here hx rfl (pc0 := 348) (pc' := 353) rfl (hb hby at_348) rfl (XT.ii_eq_t (by decide)) (by decide) (by decide) ?_
      show Steps p.tables e below (T121.setTop (mkF m 353 #[x0, x1, x2, x3, x4, x5, x6, x7, x8, x9, x10, .val (.int N_.toInt32), .val (.long a), .second, .val (.long d), .second, .val (.long b), .second, x18, x19, x20, x21, x22, x23, x24, x25, .val (.long q1), .second, .val (.long q2), .second, .val (.ref ao), .val (.ref b114), .val (.int (1 : Int32)), .val (.int t1_.toInt32), .val (.int (1 : Int32)), .val (.int t2_.toInt32)] [])) _
      refine XS.iload X121.here hx rfl (hb hby at_353) rfl ?_
      show Steps p.tables e below (T121.setTop (mkF m 355 #[x0, x1, x2, x3, x4, x5, x6, x7, x8, x9, x10, .val (.int N_.toInt32), .val (.long a), .second, .val (.long d), .second, .val (.long b), .second, x18, x19, x20, x21, x22, x23, x24, x25, .val (.long q1), .second, .val (.long q2), .second, .val (.ref ao), .val (.ref b114), .val (.int (1 : Int32)), .val (.int t1_.toInt32), .val (.int (1 : Int32)), .val (.int t2_.toInt32)] [(.int (1 : Int32))])) _
      refine XS.ifNo X121.here hx rfl (hb hby at_355) rfl (XT.i0_eq_f (by decide)) ?_
      show Steps p.tables e below (T121.setTop (mkF m 358 #[x0, x1, x2, x3, x4, x5, x6, x7, x8, x9, x10, .val (.int N_.toInt32), .val (.long a), .second, .val (.long d), .second, .val (.long b), .second, x18, x19, x20, x21, x22, x23, x24, x25, .val (.long q1), .second, .val (.long q2), .second, .val (.ref ao), .val (.ref b114), .val (.int (1 : Int32)), .val (.int t1_.toInt32), .val (.int (1 : Int32)), .val (.int t2_.toInt32)] [])) _
      refine XS.aload X121.here hx rfl (hb hby at_358) rfl rfl ?_
      show Steps p.tables e below (T121.setTop (mkF m 360 #[x0, x1, x2, x3, x4, x5, x6, x7, x8, x9, x10, .val (.int N_.toInt32), .val (.long a), .second, .val (.long d), .second, .val (.long b), .second, x18, x19, x20, x21, x22, x23, x24, x25, .val (.long q1), .second, .val (.long q2), .second, .val (.ref ao), .val (.ref b114), .val (.int (1 : Int32)), .val (.int t1_.toInt32), .val (.int (1 : Int32)), .val (.int t2_.toInt32)] [(.ref b114)])) _
      refine st122.trans ?_
      show Steps p.tables e below (T122.setTop (mkF m 363 #[x0, x1, x2, x3, x4, x5, x6, x7, x8, x9, x10, .val (.int N_.toInt32), .val (.long a), .second, .val (.long d), .second, .val (.long b), .second, x18, x19, x20, x21, x22, x23, x24, x25, .val (.long q1), .second, .val (.long q2), .second, .val (.ref ao), .val (.ref b114), .val (.int (1 : Int32)), .val (.int t1_.toInt32), .val (.int (1 : Int32)), .val (.int t2_.toInt32)] [(.double (own_sc t2_))])) _
      refine XS.iload X122.here hx rfl (hb hby at_363) rfl ?_
      show Steps p.tables e below (T122.setTop (mkF m 365 #[x0, x1, x2, x3, x4, x5, x6, x7, x8, x9, x10, .val (.int N_.toInt32), .val (.long a), .second, .val (.long d), .second, .val (.long b), .second, x18, x19, x20, x21, x22, x23, x24, x25, .val (.long q1), .second, .val (.long q2), .second, .val (.ref ao), .val (.ref b114), .val (.int (1 : Int32)), .val (.int t1_.toInt32), .val (.int (1 : Int32)), .val (.int t2_.toInt32)] [(.int t2_.toInt32), (.double (own_sc t2_))])) _
      refine XS.iconst X122.here hx rfl (hb hby at_365) ?_
      show Steps p.tables e below (T122.setTop (mkF m 366 #[x0, x1, x2, x3, x4, x5, x6, x7, x8, x9, x10, .val (.int N_.toInt32), .val (.long a), .second, .val (.long d), .second, .val (.long b), .second, x18, x19, x20, x21, x22, x23, x24, x25, .val (.long q1), .second, .val (.long q2), .second, .val (.ref ao), .val (.ref b114), .val (.int (1 : Int32)), .val (.int t1_.toInt32), .val (.int (1 : Int32)), .val (.int t2_.toInt32)] [(.int (1 : Int32)), (.int t2_.toInt32), (.double (own_sc t2_))])) _
      refine XS.iadd X122.here hx rfl (hb hby at_366) rfl ?_
      show Steps p.tables e below (T122.setTop (mkF m 367 #[x0, x1, x2, x3, x4, x5, x6, x7, x8, x9, x10, .val (.int N_.toInt32), .val (.long a), .second, .val (.long d), .second, .val (.long b), .second, x18, x19, x20, x21, x22, x23, x24, x25, .val (.long q1), .second, .val (.long q2), .second, .val (.ref ao), .val (.ref b114), .val (.int (1 : Int32)), .val (.int t1_.toInt32), .val (.int (1 : Int32)), .val (.int t2_.toInt32)] [(.int (t2_.toInt32 + (1 : Int32))), (.double (own_sc t2_))])) _
      refine own_i2d X122.here hx rfl (hb hby at_367) rfl ?_
      show Steps p.tables e below (T122.setTop (mkF m 368 #[x0, x1, x2, x3, x4, x5, x6, x7, x8, x9, x10, .val (.int N_.toInt32), .val (.long a), .second, .val (.long d), .second, .val (.long b), .second, x18, x19, x20, x21, x22, x23, x24, x25, .val (.long q1), .second, .val (.long q2), .second, .val (.ref ao), .val (.ref b114), .val (.int (1 : Int32)), .val (.int t1_.toInt32), .val (.int (1 : Int32)), .val (.int t2_.toInt32)] [(.double (FP.i2d (t2_.toInt32 + (1 : Int32)))), (.double (own_sc t2_))])) _
      refine own_dcmp X122.here hx rfl (hb hby at_368) rfl ?_
      show Steps p.tables e below (T122.setTop (mkF m 369 #[x0, x1, x2, x3, x4, x5, x6, x7, x8, x9, x10, .val (.int N_.toInt32), .val (.long a), .second, .val (.long d), .second, .val (.long b), .second, x18, x19, x20, x21, x22, x23, x24, x25, .val (.long q1), .second, .val (.long q2), .second, .val (.ref ao), .val (.ref b114), .val (.int (1 : Int32)), .val (.int t1_.toInt32), .val (.int (1 : Int32)), .val (.int t2_.toInt32)] [(.int (cmpValue (FP.dcmp (own_sc t2_) (FP.i2d (t2_.toInt32 + (1 : Int32)))) .l))])) _
      refine XS.ifYes X122.here hx rfl (pc0 := 369) (pc' := 374) rfl (hb hby at_369) rfl (XT.i0_eq_t (own_scv t2_ (by omega))) (by decide) (by decide) ?_
      show Steps p.tables e below (T122.setTop (mkF m 374 #[x0, x1, x2, x3, x4, x5, x6, x7, x8, x9, x10, .val (.int N_.toInt32), .val (.long a), .second, .val (.long d), .second, .val (.long b), .second, x18, x19, x20, x21, x22, x23, x24, x25, .val (.long q1), .second, .val (.long q2), .second, .val (.ref ao), .val (.ref b114), .val (.int (1 : Int32)), .val (.int t1_.toInt32), .val (.int (1 : Int32)), .val (.int t2_.toInt32)] [])) _
      exact k
    · refine ⟨T121, T120.heap, _, .val (.ref b114), .val (.int (1 : Int32)), .val (.int t1_.toInt32), .val (.int (0 : Int32)), .val (.int (-1 : Int32)), X121, eh121, N121, trivial, fun target k => ?_⟩
      show Steps p.tables e below (T.setTop (mkF m 234 #[x0, x1, x2, x3, x4, x5, x6, x7, x8, x9, x10, .val (.int N_.toInt32), .val (.long a), .second, .val (.long d), .second, .val (.long b), .second, x18, x19, x20, x21, x22, x23, x24, x25, .val (.long q1), .second, .val (.long q2), .second, .val (.ref ao), .unset, .unset, .unset, .unset, .unset] [])) _
      refine st114 _ ?_
      show Steps p.tables e below (T114.setTop (mkF m 237 #[x0, x1, x2, x3, x4, x5, x6, x7, x8, x9, x10, .val (.int N_.toInt32), .val (.long a), .second, .val (.long d), .second, .val (.long b), .second, x18, x19, x20, x21, x22, x23, x24, x25, .val (.long q1), .second, .val (.long q2), .second, .val (.ref ao), .unset, .unset, .unset, .unset, .unset] [(.ref b114)])) _
      refine XS.dup X114.here hx rfl (hb hby at_237) rfl rfl ?_
      show Steps p.tables e below (T114.setTop (mkF m 238 #[x0, x1, x2, x3, x4, x5, x6, x7, x8, x9, x10, .val (.int N_.toInt32), .val (.long a), .second, .val (.long d), .second, .val (.long b), .second, x18, x19, x20, x21, x22, x23, x24, x25, .val (.long q1), .second, .val (.long q2), .second, .val (.ref ao), .unset, .unset, .unset, .unset, .unset] [(.ref b114), (.ref b114)])) _
      refine XS.aload X114.here hx rfl (hb hby at_238) rfl rfl ?_
      show Steps p.tables e below (T114.setTop (mkF m 240 #[x0, x1, x2, x3, x4, x5, x6, x7, x8, x9, x10, .val (.int N_.toInt32), .val (.long a), .second, .val (.long d), .second, .val (.long b), .second, x18, x19, x20, x21, x22, x23, x24, x25, .val (.long q1), .second, .val (.long q2), .second, .val (.ref ao), .unset, .unset, .unset, .unset, .unset] [(.ref ao), (.ref b114), (.ref b114)])) _
      refine XS.dup X114.here hx rfl (hb hby at_240) rfl rfl ?_
      show Steps p.tables e below (T114.setTop (mkF m 241 #[x0, x1, x2, x3, x4, x5, x6, x7, x8, x9, x10, .val (.int N_.toInt32), .val (.long a), .second, .val (.long d), .second, .val (.long b), .second, x18, x19, x20, x21, x22, x23, x24, x25, .val (.long q1), .second, .val (.long q2), .second, .val (.ref ao), .unset, .unset, .unset, .unset, .unset] [(.ref ao), (.ref ao), (.ref b114), (.ref b114)])) _
      refine st115 _ ?_
      show Steps p.tables e below (T115.setTop (mkF m 244 #[x0, x1, x2, x3, x4, x5, x6, x7, x8, x9, x10, .val (.int N_.toInt32), .val (.long a), .second, .val (.long d), .second, .val (.long b), .second, x18, x19, x20, x21, x22, x23, x24, x25, .val (.long q1), .second, .val (.long q2), .second, .val (.ref ao), .unset, .unset, .unset, .unset, .unset] [(.ref ao), (.ref ao), (.ref b114), (.ref b114)])) _
      refine XT.pop X115.here hx rfl (hb hby at_244) rfl rfl ?_
      show Steps p.tables e below (T115.setTop (mkF m 245 #[x0, x1, x2, x3, x4, x5, x6, x7, x8, x9, x10, .val (.int N_.toInt32), .val (.long a), .second, .val (.long d), .second, .val (.long b), .second, x18, x19, x20, x21, x22, x23, x24, x25, .val (.long q1), .second, .val (.long q2), .second, .val (.ref ao), .unset, .unset, .unset, .unset, .unset] [(.ref ao), (.ref b114), (.ref b114)])) _
      refine st116.trans ?_
      show Steps p.tables e below (T116.setTop (mkF m 248 #[x0, x1, x2, x3, x4, x5, x6, x7, x8, x9, x10, .val (.int N_.toInt32), .val (.long a), .second, .val (.long d), .second, .val (.long b), .second, x18, x19, x20, x21, x22, x23, x24, x25, .val (.long q1), .second, .val (.long q2), .second, .val (.ref ao), .unset, .unset, .unset, .unset, .unset] [(.ref b114)])) _
      refine XS.astore X116.here hx rfl (hb hby at_248) rfl rfl (l' := #[x0, x1, x2, x3, x4, x5, x6, x7, x8, x9, x10, .val (.int N_.toInt32), .val (.long a), .second, .val (.long d), .second, .val (.long b), .second, x18, x19, x20, x21, x22, x23, x24, x25, .val (.long q1), .second, .val (.long q2), .second, .val (.ref ao), .val (.ref b114), .unset, .unset, .unset, .unset]) rfl ?_
      show Steps p.tables e below (T116.setTop (mkF m 250 #[x0, x1, x2, x3, x4, x5, x6, x7, x8, x9, x10, .val (.int N_.toInt32), .val (.long a), .second, .val (.long d), .second, .val (.long b), .second, x18, x19, x20, x21, x22, x23, x24, x25, .val (.long q1), .second, .val (.long q2), .second, .val (.ref ao), .val (.ref b114), .unset, .unset, .unset, .unset] [])) _
      refine XS.aload X116.here hx rfl (hb hby at_250) rfl rfl ?_
      show Steps p.tables e below (T116.setTop (mkF m 252 #[x0, x1, x2, x3, x4, x5, x6, x7, x8, x9, x10, .val (.int N_.toInt32), .val (.long a), .second, .val (.long d), .second, .val (.long b), .second, x18, x19, x20, x21, x22, x23, x24, x25, .val (.long q1), .second, .val (.long q2), .second, .val (.ref ao), .val (.ref b114), .unset, .unset, .unset, .unset] [(.ref b114)])) _
      refine XT.lload X116.here hx rfl (hb hby at_252) rfl ?_
      show Steps p.tables e below (T116.setTop (mkF m 254 #[x0, x1, x2, x3, x4, x5, x6, x7, x8, x9, x10, .val (.int N_.toInt32), .val (.long a), .second, .val (.long d), .second, .val (.long b), .second, x18, x19, x20, x21, x22, x23, x24, x25, .val (.long q1), .second, .val (.long q2), .second, .val (.ref ao), .val (.ref b114), .unset, .unset, .unset, .unset] [(.long q1), (.ref b114)])) _
      refine st117.trans ?_
      show Steps p.tables e below (T117.setTop (mkF m 257 #[x0, x1, x2, x3, x4, x5, x6, x7, x8, x9, x10, .val (.int N_.toInt32), .val (.long a), .second, .val (.long d), .second, .val (.long b), .second, x18, x19, x20, x21, x22, x23, x24, x25, .val (.long q1), .second, .val (.long q2), .second, .val (.ref ao), .val (.ref b114), .unset, .unset, .unset, .unset] [(.int (if (t1_ < N_ ∧ (own_e a b d) t1_ = q1) then (1 : Int32) else (0 : Int32)))])) _
      refine XS.istore X117.here hx rfl (hb hby at_257) rfl (l' := #[x0, x1, x2, x3, x4, x5, x6, x7, x8, x9, x10, .val (.int N_.toInt32), .val (.long a), .second, .val (.long d), .second, .val (.long b), .second, x18, x19, x20, x21, x22, x23, x24, x25, .val (.long q1), .second, .val (.long q2), .second, .val (.ref ao), .val (.ref b114), .val (.int (if (t1_ < N_ ∧ (own_e a b d) t1_ = q1) then (1 : Int32) else (0 : Int32))), .unset, .unset, .unset]) rfl ?_
      show Steps p.tables e below (T117.setTop (mkF m 259 #[x0, x1, x2, x3, x4, x5, x6, x7, x8, x9, x10, .val (.int N_.toInt32), .val (.long a), .second, .val (.long d), .second, .val (.long b), .second, x18, x19, x20, x21, x22, x23, x24, x25, .val (.long q1), .second, .val (.long q2), .second, .val (.ref ao), .val (.ref b114), .val (.int (if (t1_ < N_ ∧ (own_e a b d) t1_ = q1) then (1 : Int32) else (0 : Int32))), .unset, .unset, .unset] [])) _
      refine XT.lload X117.here hx rfl (hb hby at_259) rfl ?_
      show Steps p.tables e below (T117.setTop (mkF m 261 #[x0, x1, x2, x3, x4, x5, x6, x7, x8, x9, x10, .val (.int N_.toInt32), .val (.long a), .second, .val (.long d), .second, .val (.long b), .second, x18, x19, x20, x21, x22, x23, x24, x25, .val (.long q1), .second, .val (.long q2), .second, .val (.ref ao), .val (.ref b114), .val (.int (if (t1_ < N_ ∧ (own_e a b d) t1_ = q1) then (1 : Int32) else (0 : Int32))), .unset, .unset, .unset] [(.long q1)])) _
      refine XS.iload X117.here hx rfl (hb hby at_261) rfl ?_
      show Steps p.tables e below (T117.setTop (mkF m 263 #[x0, x1, x2, x3, x4, x5, x6, x7, x8, x9, x10, .val (.int N_.toInt32), .val (.long a), .second, .val (.long d), .second, .val (.long b), .second, x18, x19, x20, x21, x22, x23, x24, x25, .val (.long q1), .second, .val (.long q2), .second, .val (.ref ao), .val (.ref b114), .val (.int (if (t1_ < N_ ∧ (own_e a b d) t1_ = q1) then (1 : Int32) else (0 : Int32))), .unset, .unset, .unset] [(.int N_.toInt32), (.long q1)])) _
      refine XT.lload X117.here hx rfl (hb hby at_263) rfl ?_
      show Steps p.tables e below (T117.setTop (mkF m 265 #[x0, x1, x2, x3, x4, x5, x6, x7, x8, x9, x10, .val (.int N_.toInt32), .val (.long a), .second, .val (.long d), .second, .val (.long b), .second, x18, x19, x20, x21, x22, x23, x24, x25, .val (.long q1), .second, .val (.long q2), .second, .val (.ref ao), .val (.ref b114), .val (.int (if (t1_ < N_ ∧ (own_e a b d) t1_ = q1) then (1 : Int32) else (0 : Int32))), .unset, .unset, .unset] [(.long a), (.int N_.toInt32), (.long q1)])) _
      refine XT.lload X117.here hx rfl (hb hby at_265) rfl ?_
      show Steps p.tables e below (T117.setTop (mkF m 267 #[x0, x1, x2, x3, x4, x5, x6, x7, x8, x9, x10, .val (.int N_.toInt32), .val (.long a), .second, .val (.long d), .second, .val (.long b), .second, x18, x19, x20, x21, x22, x23, x24, x25, .val (.long q1), .second, .val (.long q2), .second, .val (.ref ao), .val (.ref b114), .val (.int (if (t1_ < N_ ∧ (own_e a b d) t1_ = q1) then (1 : Int32) else (0 : Int32))), .unset, .unset, .unset] [(.long b), (.long a), (.int N_.toInt32), (.long q1)])) _
      refine XT.lload X117.here hx rfl (hb hby at_267) rfl ?_
      show Steps p.tables e below (T117.setTop (mkF m 269 #[x0, x1, x2, x3, x4, x5, x6, x7, x8, x9, x10, .val (.int N_.toInt32), .val (.long a), .second, .val (.long d), .second, .val (.long b), .second, x18, x19, x20, x21, x22, x23, x24, x25, .val (.long q1), .second, .val (.long q2), .second, .val (.ref ao), .val (.ref b114), .val (.int (if (t1_ < N_ ∧ (own_e a b d) t1_ = q1) then (1 : Int32) else (0 : Int32))), .unset, .unset, .unset] [(.long d), (.long b), (.long a), (.int N_.toInt32), (.long q1)])) _
      refine st118 _ ?_
      show Steps p.tables e below (T118.setTop (mkF m 272 #[x0, x1, x2, x3, x4, x5, x6, x7, x8, x9, x10, .val (.int N_.toInt32), .val (.long a), .second, .val (.long d), .second, .val (.long b), .second, x18, x19, x20, x21, x22, x23, x24, x25, .val (.long q1), .second, .val (.long q2), .second, .val (.ref ao), .val (.ref b114), .val (.int (if (t1_ < N_ ∧ (own_e a b d) t1_ = q1) then (1 : Int32) else (0 : Int32))), .unset, .unset, .unset] [(.int (own_idx q1 N_.toInt32 a b d))])) _
      refine XS.istore X118.here hx rfl (hb hby at_272) rfl (l' := #[x0, x1, x2, x3, x4, x5, x6, x7, x8, x9, x10, .val (.int N_.toInt32), .val (.long a), .second, .val (.long d), .second, .val (.long b), .second, x18, x19, x20, x21, x22, x23, x24, x25, .val (.long q1), .second, .val (.long q2), .second, .val (.ref ao), .val (.ref b114), .val (.int (if (t1_ < N_ ∧ (own_e a b d) t1_ = q1) then (1 : Int32) else (0 : Int32))), .val (.int (own_idx q1 N_.toInt32 a b d)), .unset, .unset]) rfl ?_
      show Steps p.tables e below (T118.setTop (mkF m 274 #[x0, x1, x2, x3, x4, x5, x6, x7, x8, x9, x10, .val (.int N_.toInt32), .val (.long a), .second, .val (.long d), .second, .val (.long b), .second, x18, x19, x20, x21, x22, x23, x24, x25, .val (.long q1), .second, .val (.long q2), .second, .val (.ref ao), .val (.ref b114), .val (.int (if (t1_ < N_ ∧ (own_e a b d) t1_ = q1) then (1 : Int32) else (0 : Int32))), .val (.int (own_idx q1 N_.toInt32 a b d)), .unset, .unset] [])) _
      rw [if_pos hP1, own_idxT q1 a b d N_ t1_ hN hasc hP1]
      show Steps p.tables e below (T118.setTop (mkF m 274 #[x0, x1, x2, x3, x4, x5, x6, x7, x8, x9, x10, .val (.int N_.toInt32), .val (.long a), .second, .val (.long d), .second, .val (.long b), .second, x18, x19, x20, x21, x22, x23, x24, x25, .val (.long q1), .second, .val (.long q2), .second, .val (.ref ao), .val (.ref b114), .val (.int (1 : Int32)), .val (.int t1_.toInt32), .unset, .unset] [])) _
      refine XS.iload X118.here hx rfl (hb hby at_274) rfl ?_
      show Steps p.tables e below (T118.setTop (mkF m 276 #[x0, x1, x2, x3, x4, x5, x6, x7, x8, x9, x10, .val (.int N_.toInt32), .val (.long a), .second, .val (.long d), .second, .val (.long b), .second, x18, x19, x20, x21, x22, x23, x24, x25, .val (.long q1), .second, .val (.long q2), .second, .val (.ref ao), .val (.ref b114), .val (.int (1 : Int32)), .val (.int t1_.toInt32), .unset, .unset] [(.int (1 : Int32))])) _
      refine XS.iload X118.here hx rfl (hb hby at_276) rfl ?_
      show Steps p.tables e below (T118.setTop (mkF m 278 #[x0, x1, x2, x3, x4, x5, x6, x7, x8, x9, x10, .val (.int N_.toInt32), .val (.long a), .second, .val (.long d), .second, .val (.long b), .second, x18, x19, x20, x21, x22, x23, x24, x25, .val (.long q1), .second, .val (.long q2), .second, .val (.ref ao), .val (.ref b114), .val (.int (1 : Int32)), .val (.int t1_.toInt32), .unset, .unset] [(.int t1_.toInt32), (.int (1 : Int32))])) _
      refine XS.ifNo X118.here hx rfl (hb hby at_278) rfl (XT.i0_lt_f (own_nn t1_ (by omega))) ?_
      show Steps p.tables e below (T118.setTop (mkF m 281 #[x0, x1, x2, x3, x4, x5, x6, x7, x8, x9, x10, .val (.int N_.toInt32), .val (.long a), .second, .val (.long d), .second, .val (.long b), .second, x18, x19, x20, x21, x22, x23, x24, x25, .val (.long q1), .second, .val (.long q2), .second, .val (.ref ao), .val (.ref b114), .val (.int (1 : Int32)), .val (.int t1_.toInt32), .unset, .unset] [(.int (1 : Int32))])) _
      refine XS.iconst X118.here hx rfl (hb hby at_281) ?_
      show Steps p.tables e below (T118.setTop (mkF m 282 #[x0, x1, x2, x3, x4, x5, x6, x7, x8, x9, x10, .val (.int N_.toInt32), .val (.long a), .second, .val (.long d), .second, .val (.long b), .second, x18, x19, x20, x21, x22, x23, x24, x25, .val (.long q1), .second, .val (.long q2), .second, .val (.ref ao), .val (.ref b114), .val (.int (1 : Int32)), .val (.int t1_.toInt32), .unset, .unset] [(.int (1 : Int32)), (.int (1 : Int32))])) _
      refine XS.goto X118.here hx rfl (pc0 := 282) (pc' := 286) rfl (hb hby at_282) (by decide) (by decide) ?_
      show Steps p.tables e below (T118.setTop (mkF m 286 #[x0, x1, x2, x3, x4, x5, x6, x7, x8, x9, x10, .val (.int N_.toInt32), .val (.long a), .second, .val (.long d), .second, .val (.long b), .second, x18, x19, x20, x21, x22, x23, x24, x25, .val (.long q1), .second, .val (.long q2), .second, .val (.ref ao), .val (.ref b114), .val (.int (1 : Int32)), .val (.int t1_.toInt32), .unset, .unset] [(.int (1 : Int32)), (.int (1 : Int32))])) _
      refine XS.icmpYes X118.here hx rfl (pc0 := 286) (pc' := 291) rfl (hb hby at_286) rfl (XT.ii_eq_t (by decide)) (by decide) (by decide) ?_
      show Steps p.tables e below (T118.setTop (mkF m 291 #[x0, x1, x2, x3, x4, x5, x6, x7, x8, x9, x10, .val (.int N_.toInt32), .val (.long a), .second, .val (.long d), .second, .val (.long b), .second, x18, x19, x20, x21, x22, x23, x24, x25, .val (.long q1), .second, .val (.long q2), .second, .val (.ref ao), .val (.ref b114), .val (.int (1 : Int32)), .val (.int t1_.toInt32), .unset, .unset] [])) _
      refine XS.iload X118.here hx rfl (hb hby at_291) rfl ?_
      show Steps p.tables e below (T118.setTop (mkF m 293 #[x0, x1, x2, x3, x4, x5, x6, x7, x8, x9, x10, .val (.int N_.toInt32), .val (.long a), .second, .val (.long d), .second, .val (.long b), .second, x18, x19, x20, x21, x22, x23, x24, x25, .val (.long q1), .second, .val (.long q2), .second, .val (.ref ao), .val (.ref b114), .val (.int (1 : Int32)), .val (.int t1_.toInt32), .unset, .unset] [(.int (1 : Int32))])) _
      refine XS.ifNo X118.here hx rfl (hb hby at_293) rfl (XT.i0_eq_f (by decide)) ?_
      show Steps p.tables e below (T118.setTop (mkF m 296 #[x0, x1, x2, x3, x4, x5, x6, x7, x8, x9, x10, .val (.int N_.toInt32), .val (.long a), .second, .val (.long d), .second, .val (.long b), .second, x18, x19, x20, x21, x22, x23, x24, x25, .val (.long q1), .second, .val (.long q2), .second, .val (.ref ao), .val (.ref b114), .val (.int (1 : Int32)), .val (.int t1_.toInt32), .unset, .unset] [])) _
      refine XS.aload X118.here hx rfl (hb hby at_296) rfl rfl ?_
      show Steps p.tables e below (T118.setTop (mkF m 298 #[x0, x1, x2, x3, x4, x5, x6, x7, x8, x9, x10, .val (.int N_.toInt32), .val (.long a), .second, .val (.long d), .second, .val (.long b), .second, x18, x19, x20, x21, x22, x23, x24, x25, .val (.long q1), .second, .val (.long q2), .second, .val (.ref ao), .val (.ref b114), .val (.int (1 : Int32)), .val (.int t1_.toInt32), .unset, .unset] [(.ref b114)])) _
      refine st119.trans ?_
      show Steps p.tables e below (T119.setTop (mkF m 301 #[x0, x1, x2, x3, x4, x5, x6, x7, x8, x9, x10, .val (.int N_.toInt32), .val (.long a), .second, .val (.long d), .second, .val (.long b), .second, x18, x19, x20, x21, x22, x23, x24, x25, .val (.long q1), .second, .val (.long q2), .second, .val (.ref ao), .val (.ref b114), .val (.int (1 : Int32)), .val (.int t1_.toInt32), .unset, .unset] [(.double (own_sc t1_))])) _
      refine XS.iload X119.here hx rfl (hb hby at_301) rfl ?_
      show Steps p.tables e below (T119.setTop (mkF m 303 #[x0, x1, x2, x3, x4, x5, x6, x7, x8, x9, x10, .val (.int N_.toInt32), .val (.long a), .second, .val (.long d), .second, .val (.long b), .second, x18, x19, x20, x21, x22, x23, x24, x25, .val (.long q1), .second, .val (.long q2), .second, .val (.ref ao), .val (.ref b114), .val (.int (1 : Int32)), .val (.int t1_.toInt32), .unset, .unset] [(.int t1_.toInt32), (.double (own_sc t1_))])) _
      refine XS.iconst X119.here hx rfl (hb hby at_303) ?_
      show Steps p.tables e below (T119.setTop (mkF m 304 #[x0, x1, x2, x3, x4, x5, x6, x7, x8, x9, x10, .val (.int N_.toInt32), .val (.long a), .second, .val (.long d), .second, .val (.long b), .second, x18, x19, x20, x21, x22, x23, x24, x25, .val (.long q1), .second, .val (.long q2), .second, .val (.ref ao), .val (.ref b114), .val (.int (1 : Int32)), .val (.int t1_.toInt32), .unset, .unset] [(.int (1 : Int32)), (.int t1_.toInt32), (.double (own_sc t1_))])) _
      refine XS.iadd X119.here hx rfl (hb hby at_304) rfl ?_
      show Steps p.tables e below (T119.setTop (mkF m 305 #[x0, x1, x2, x3, x4, x5, x6, x7, x8, x9, x10, .val (.int N_.toInt32), .val (.long a), .second, .val (.long d), .second, .val (.long b), .second, x18, x19, x20, x21, x22, x23, x24, x25, .val (.long q1), .second, .val (.long q2), .second, .val (.ref ao), .val (.ref b114), .val (.int (1 : Int32)), .val (.int t1_.toInt32), .unset, .unset] [(.int (t1_.toInt32 + (1 : Int32))), (.double (own_sc t1_))])) _
      refine own_i2d X119.here hx rfl (hb hby at_305) rfl ?_
      show Steps p.tables e below (T119.setTop (mkF m 306 #[x0, x1, x2, x3, x4, x5, x6, x7, x8, x9, x10, .val (.int N_.toInt32), .val (.long a), .second, .val (.long d), .second, .val (.long b), .second, x18, x19, x20, x21, x22, x23, x24, x25, .val (.long q1), .second, .val (.long q2), .second, .val (.ref ao), .val (.ref b114), .val (.int (1 : Int32)), .val (.int t1_.toInt32), .unset, .unset] [(.double (FP.i2d (t1_.toInt32 + (1 : Int32)))), (.double (own_sc t1_))])) _
      refine own_dcmp X119.here hx rfl (hb hby at_306) rfl ?_
      show Steps p.tables e below (T119.setTop (mkF m 307 #[x0, x1, x2, x3, x4, x5, x6, x7, x8, x9, x10, .val (.int N_.toInt32), .val (.long a), .second, .val (.long d), .second, .val (.long b), .second, x18, x19, x20, x21, x22, x23, x24, x25, .val (.long q1), .second, .val (.long q2), .second, .val (.ref ao), .val (.ref b114), .val (.int (1 : Int32)), .val (.int t1_.toInt32), .unset, .unset] [(.int (cmpValue (FP.dcmp (own_sc t1_) (FP.i2d (t1_.toInt32 + (1 : Int32)))) .l))])) _
      refine XS.ifYes X119.here hx rfl (pc0 := 307) (pc' := 312) rfl (hb hby at_307) rfl (XT.i0_eq_t (own_scv t1_ (by omega))) (by decide) (by decide) ?_
      show Steps p.tables e below (T119.setTop (mkF m 312 #[x0, x1, x2, x3, x4, x5, x6, x7, x8, x9, x10, .val (.int N_.toInt32), .val (.long a), .second, .val (.long d), .second, .val (.long b), .second, x18, x19, x20, x21, x22, x23, x24, x25, .val (.long q1), .second, .val (.long q2), .second, .val (.ref ao), .val (.ref b114), .val (.int (1 : Int32)), .val (.int t1_.toInt32), .unset, .unset] [])) _
      refine XS.aload X119.here hx rfl (hb hby at_312) rfl rfl ?_
      show Steps p.tables e below (T119.setTop (mkF m 314 #[x0, x1, x2, x3, x4, x5, x6, x7, x8, x9, x10, .val (.int N_.toInt32), .val (.long a), .second, .val (.long d), .second, .val (.long b), .second, x18, x19, x20, x21, x22, x23, x24, x25, .val (.long q1), .second, .val (.long q2), .second, .val (.ref ao), .val (.ref b114), .val (.int (1 : Int32)), .val (.int t1_.toInt32), .unset, .unset] [(.ref b114)])) _
      refine XT.lload X119.here hx rfl (hb hby at_314) rfl ?_
      show Steps p.tables e below (T119.setTop (mkF m 316 #[x0, x1, x2, x3, x4, x5, x6, x7, x8, x9, x10, .val (.int N_.toInt32), .val (.long a), .second, .val (.long d), .second, .val (.long b), .second, x18, x19, x20, x21, x22, x23, x24, x25, .val (.long q1), .second, .val (.long q2), .second, .val (.ref ao), .val (.ref b114), .val (.int (1 : Int32)), .val (.int t1_.toInt32), .unset, .unset] [(.long q2), (.ref b114)])) _
      refine st120.trans ?_
      show Steps p.tables e below (T120.setTop (mkF m 319 #[x0, x1, x2, x3, x4, x5, x6, x7, x8, x9, x10, .val (.int N_.toInt32), .val (.long a), .second, .val (.long d), .second, .val (.long b), .second, x18, x19, x20, x21, x22, x23, x24, x25, .val (.long q1), .second, .val (.long q2), .second, .val (.ref ao), .val (.ref b114), .val (.int (1 : Int32)), .val (.int t1_.toInt32), .unset, .unset] [(.int (if (t2_ < N_ ∧ (own_e a b d) t2_ = q2) then (1 : Int32) else (0 : Int32)))])) _
      refine XS.istore X120.here hx rfl (hb hby at_319) rfl (l' := #[x0, x1, x2, x3, x4, x5, x6, x7, x8, x9, x10, .val (.int N_.toInt32), .val (.long a), .second, .val (.long d), .second, .val (.long b), .second, x18, x19, x20, x21, x22, x23, x24, x25, .val (.long q1), .second, .val (.long q2), .second, .val (.ref ao), .val (.ref b114), .val (.int (1 : Int32)), .val (.int t1_.toInt32), .val (.int (if (t2_ < N_ ∧ (own_e a b d) t2_ = q2) then (1 : Int32) else (0 : Int32))), .unset]) rfl ?_
      show Steps p.tables e below (T120.setTop (mkF m 321 #[x0, x1, x2, x3, x4, x5, x6, x7, x8, x9, x10, .val (.int N_.toInt32), .val (.long a), .second, .val (.long d), .second, .val (.long b), .second, x18, x19, x20, x21, x22, x23, x24, x25, .val (.long q1), .second, .val (.long q2), .second, .val (.ref ao), .val (.ref b114), .val (.int (1 : Int32)), .val (.int t1_.toInt32), .val (.int (if (t2_ < N_ ∧ (own_e a b d) t2_ = q2) then (1 : Int32) else (0 : Int32))), .unset] [])) _
      refine XT.lload X120.here hx rfl (hb hby at_321) rfl ?_
      show Steps p.tables e below (T120.setTop (mkF m 323 #[x0, x1, x2, x3, x4, x5, x6, x7, x8, x9, x10, .val (.int N_.toInt32), .val (.long a), .second, .val (.long d), .second, .val (.long b), .second, x18, x19, x20, x21, x22, x23, x24, x25, .val (.long q1), .second, .val (.long q2), .second, .val (.ref ao), .val (.ref b114), .val (.int (1 : Int32)), .val (.int t1_.toInt32), .val (.int (if (t2_ < N_ ∧ (own_e a b d) t2_ = q2) then (1 : Int32) else (0 : Int32))), .unset] [(.long q2)])) _
      refine XS.iload X120.here hx rfl (hb hby at_323) rfl ?_
      show Steps p.tables e below (T120.setTop (mkF m 325 #[x0, x1, x2, x3, x4, x5, x6, x7, x8, x9, x10, .val (.int N_.toInt32), .val (.long a), .second, .val (.long d), .second, .val (.long b), .second, x18, x19, x20, x21, x22, x23, x24, x25, .val (.long q1), .second, .val (.long q2), .second, .val (.ref ao), .val (.ref b114), .val (.int (1 : Int32)), .val (.int t1_.toInt32), .val (.int (if (t2_ < N_ ∧ (own_e a b d) t2_ = q2) then (1 : Int32) else (0 : Int32))), .unset] [(.int N_.toInt32), (.long q2)])) _
      refine XT.lload X120.here hx rfl (hb hby at_325) rfl ?_
      show Steps p.tables e below (T120.setTop (mkF m 327 #[x0, x1, x2, x3, x4, x5, x6, x7, x8, x9, x10, .val (.int N_.toInt32), .val (.long a), .second, .val (.long d), .second, .val (.long b), .second, x18, x19, x20, x21, x22, x23, x24, x25, .val (.long q1), .second, .val (.long q2), .second, .val (.ref ao), .val (.ref b114), .val (.int (1 : Int32)), .val (.int t1_.toInt32), .val (.int (if (t2_ < N_ ∧ (own_e a b d) t2_ = q2) then (1 : Int32) else (0 : Int32))), .unset] [(.long a), (.int N_.toInt32), (.long q2)])) _
      refine XT.lload X120.here hx rfl (hb hby at_327) rfl ?_
      show Steps p.tables e below (T120.setTop (mkF m 329 #[x0, x1, x2, x3, x4, x5, x6, x7, x8, x9, x10, .val (.int N_.toInt32), .val (.long a), .second, .val (.long d), .second, .val (.long b), .second, x18, x19, x20, x21, x22, x23, x24, x25, .val (.long q1), .second, .val (.long q2), .second, .val (.ref ao), .val (.ref b114), .val (.int (1 : Int32)), .val (.int t1_.toInt32), .val (.int (if (t2_ < N_ ∧ (own_e a b d) t2_ = q2) then (1 : Int32) else (0 : Int32))), .unset] [(.long b), (.long a), (.int N_.toInt32), (.long q2)])) _
      refine XT.lload X120.here hx rfl (hb hby at_329) rfl ?_
      show Steps p.tables e below (T120.setTop (mkF m 331 #[x0, x1, x2, x3, x4, x5, x6, x7, x8, x9, x10, .val (.int N_.toInt32), .val (.long a), .second, .val (.long d), .second, .val (.long b), .second, x18, x19, x20, x21, x22, x23, x24, x25, .val (.long q1), .second, .val (.long q2), .second, .val (.ref ao), .val (.ref b114), .val (.int (1 : Int32)), .val (.int t1_.toInt32), .val (.int (if (t2_ < N_ ∧ (own_e a b d) t2_ = q2) then (1 : Int32) else (0 : Int32))), .unset] [(.long d), (.long b), (.long a), (.int N_.toInt32), (.long q2)])) _
      refine st121 _ ?_
      show Steps p.tables e below (T121.setTop (mkF m 334 #[x0, x1, x2, x3, x4, x5, x6, x7, x8, x9, x10, .val (.int N_.toInt32), .val (.long a), .second, .val (.long d), .second, .val (.long b), .second, x18, x19, x20, x21, x22, x23, x24, x25, .val (.long q1), .second, .val (.long q2), .second, .val (.ref ao), .val (.ref b114), .val (.int (1 : Int32)), .val (.int t1_.toInt32), .val (.int (if (t2_ < N_ ∧ (own_e a b d) t2_ = q2) then (1 : Int32) else (0 : Int32))), .unset] [(.int (own_idx q2 N_.toInt32 a b d))])) _
      refine XS.istore X121.here hx rfl (hb hby at_334) rfl (l' := #[x0, x1, x2, x3, x4, x5, x6, x7, x8, x9, x10, .val (.int N_.toInt32), .val (.long a), .second, .val (.long d), .second, .val (.long b), .second, x18, x19, x20, x21, x22, x23, x24, x25, .val (.long q1), .second, .val (.long q2), .second, .val (.ref ao), .val (.ref b114), .val (.int (1 : Int32)), .val (.int t1_.toInt32), .val (.int (if (t2_ < N_ ∧ (own_e a b d) t2_ = q2) then (1 : Int32) else (0 : Int32))), .val (.int (own_idx q2 N_.toInt32 a b d))]) rfl ?_
      show Steps p.tables e below (T121.setTop (mkF m 336 #[x0, x1, x2, x3, x4, x5, x6, x7, x8, x9, x10, .val (.int N_.toInt32), .val (.long a), .second, .val (.long d), .second, .val (.long b), .second, x18, x19, x20, x21, x22, x23, x24, x25, .val (.long q1), .second, .val (.long q2), .second, .val (.ref ao), .val (.ref b114), .val (.int (1 : Int32)), .val (.int t1_.toInt32), .val (.int (if (t2_ < N_ ∧ (own_e a b d) t2_ = q2) then (1 : Int32) else (0 : Int32))), .val (.int (own_idx q2 N_.toInt32 a b d))] [])) _
      rw [if_neg hP2, own_idxF q2 a b d N_ hN (own_none q2 _ N_ t2_ hasc low2 d2 hP2)]
      show Steps p.tables e below (T121.setTop (mkF m 336 #[x0, x1, x2, x3, x4, x5, x6, x7, x8, x9, x10, .val (.int N_.toInt32), .val (.long a), .second, .val (.long d), .second, .val (.long b), .second, x18, x19, x20, x21, x22, x23, x24, x25, .val (.long q1), .second, .val (.long q2), .second, .val (.ref ao), .val (.ref b114), .val (.int (1 : Int32)), .val (.int t1_.toInt32), .val (.int (0 : Int32)), .val (.int (-1 : Int32))] [])) _
      refine XS.iload X121.here hx rfl (hb hby at_336) rfl ?_
      show Steps p.tables e below (T121.setTop (mkF m 338 #[x0, x1, x2, x3, x4, x5, x6, x7, x8, x9, x10, .val (.int N_.toInt32), .val (.long a), .second, .val (.long d), .second, .val (.long b), .second, x18, x19, x20, x21, x22, x23, x24, x25, .val (.long q1), .second, .val (.long q2), .second, .val (.ref ao), .val (.ref b114), .val (.int (1 : Int32)), .val (.int t1_.toInt32), .val (.int (0 : Int32)), .val (.int (-1 : Int32))] [(.int (0 : Int32))])) _
      refine XS.iload X121.here hx rfl (hb hby at_338) rfl ?_
      show Steps p.tables e below (T121.setTop (mkF m 340 #[x0, x1, x2, x3, x4, x5, x6, x7, x8, x9, x10, .val (.int N_.toInt32), .val (.long a), .second, .val (.long d), .second, .val (.long b), .second, x18, x19, x20, x21, x22, x23, x24, x25, .val (.long q1), .second, .val (.long q2), .second, .val (.ref ao), .val (.ref b114), .val (.int (1 : Int32)), .val (.int t1_.toInt32), .val (.int (0 : Int32)), .val (.int (-1 : Int32))] [(.int (-1 : Int32)), (.int (0 : Int32))])) _
      refine XS.ifYes X121.here hx rfl (pc0 := 340) (pc' := 347) rfl (hb hby at_340) rfl (XT.i0_lt_t (by decide)) (by decide) (by decide) ?_
      show Steps p.tables e below (T121.setTop (mkF m 347 #[x0, x1, x2, x3, x4, x5, x6, x7, x8, x9, x10, .val (.int N_.toInt32), .val (.long a), .second, .val (.long d), .second, .val (.long b), .second, x18, x19, x20, x21, x22, x23, x24, x25, .val (.long q1), .second, .val (.long q2), .second, .val (.ref ao), .val (.ref b114), .val (.int (1 : Int32)), .val (.int t1_.toInt32), .val (.int (0 : Int32)), .val (.int (-1 : Int32))] [(.int (0 : Int32))])) _
      refine XS.iconst X121.here hx rfl (hb hby at_347) ?_
      show Steps p.tables e below (T121.setTop (mkF m 348 #[x0, x1, x2, x3, x4, x5, x6, x7, x8, x9, x10, .val (.int N_.toInt32), .val (.long a), .second, .val (.long d), .second, .val (.long b), .second, x18, x19, x20, x21, x22, x23, x24, x25, .val (.long q1), .second, .val (.long q2), .second, .val (.ref ao), .val (.ref b114), .val (.int (1 : Int32)), .val (.int t1_.toInt32), .val (.int (0 : Int32)), .val (.int (-1 : Int32))] [(.int (0 : Int32)), (.int (0 : Int32))])) _
      refine XS.icmpYes X121.here hx rfl (pc0 := 348) (pc' := 353) rfl (hb hby at_348) rfl (XT.ii_eq_t (by decide)) (by decide) (by decide) ?_
      show Steps p.tables e below (T121.setTop (mkF m 353 #[x0, x1, x2, x3, x4, x5, x6, x7, x8, x9, x10, .val (.int N_.toInt32), .val (.long a), .second, .val (.long d), .second, .val (.long b), .second, x18, x19, x20, x21, x22, x23, x24, x25, .val (.long q1), .second, .val (.long q2), .second, .val (.ref ao), .val (.ref b114), .val (.int (1 : Int32)), .val (.int t1_.toInt32), .val (.int (0 : Int32)), .val (.int (-1 : Int32))] [])) _
      refine XS.iload X121.here hx rfl (hb hby at_353) rfl ?_
      show Steps p.tables e below (T121.setTop (mkF m 355 #[x0, x1, x2, x3, x4, x5, x6, x7, x8, x9, x10, .val (.int N_.toInt32), .val (.long a), .second, .val (.long d), .second, .val (.long b), .second, x18, x19, x20, x21, x22, x23, x24, x25, .val (.long q1), .second, .val (.long q2), .second, .val (.ref ao), .val (.ref b114), .val (.int (1 : Int32)), .val (.int t1_.toInt32), .val (.int (0 : Int32)), .val (.int (-1 : Int32))] [(.int (0 : Int32))])) _
      refine XS.ifYes X121.here hx rfl (pc0 := 355) (pc' := 374) rfl (hb hby at_355) rfl (XT.i0_eq_t (by decide)) (by decide) (by decide) ?_
      show Steps p.tables e below (T121.setTop (mkF m 374 #[x0, x1, x2, x3, x4, x5, x6, x7, x8, x9, x10, .val (.int N_.toInt32), .val (.long a), .second, .val (.long d), .second, .val (.long b), .second, x18, x19, x20, x21, x22, x23, x24, x25, .val (.long q1), .second, .val (.long q2), .second, .val (.ref ao), .val (.ref b114), .val (.int (1 : Int32)), .val (.int t1_.toInt32), .val (.int (0 : Int32)), .val (.int (-1 : Int32))] [])) _
      exact k
  · obtain ⟨cq123, kq123, q123a, q123b, q123c⟩ := isOf hZ eh118 Ec117
    obtain ⟨_, _, ⟨T123, L123, k123, n123⟩, -, X123, ⟨Lc123, hQ123, l123, y123, z123⟩, st123⟩ := X118.virtualBack hx (y := (⟨"com/example/xml_element_search/xmlelementsearch/ElementScores$Cursor", "holds", "(J)Z"⟩ : MethodName)) (z := (⟨"com/example/xml_element_search/xmlelementsearch/ElementScores$Cursor", "holds", "(J)Z"⟩ : MethodName)) hown (mvT hZ (hw _ (List.mem_of_getElem? (i := 58) rfl))) (mvT hZ (hw _ (List.mem_of_getElem? (i := 59) rfl))) (notFace_of_selects (args := #[]) (mvT hZ (hw _ (List.mem_of_getElem? (i := 61) rfl)))) (mvT hZ (hw _ (List.mem_of_getElem? (i := 61) rfl))) (mvT hZ (hw _ (List.mem_of_getElem? (i := 60) rfl))) (by decide) (backOf (W := 0) (own_hol l Z a0 hw [] b114 q2 ao ae ke fe (own_e a b d) N_ t1_ T117.heap n0 (Nat.le_trans (Nat.le_trans (Nat.le_trans Z0 E114.1) K116.1) K117.1) hN (by omega) hfe g_b114 (Nat.ne_of_lt lt_ao_b114) (Nat.ne_of_lt lt_ae_b114) Ec117 Ft117 Fa117 (((F_n.ext E114).keep K116 (ninS (Nat.ne_of_lt lt_ao_b114) nin0)).keep K117 (ninS (Nat.ne_of_lt lt_ao_b114) nin0)) (((F_e.ext E114).keep K116 (ninS (Nat.ne_of_lt lt_ao_b114) nin0)).keep K117 (ninS (Nat.ne_of_lt lt_ao_b114) nin0)) (((V_e.ext E114).keep K116 (ninS (Nat.ne_of_lt lt_ae_b114) nin0)).keep K117 (ninS (Nat.ne_of_lt lt_ae_b114) nin0))) hZ (hw _ (List.mem_of_getElem? (i := 62) rfl)) (hw _ (List.mem_of_getElem? (i := 47) rfl)) (by decide) (by decide)) q123a q123c (g := (mkF m 316 #[x0, x1, x2, x3, x4, x5, x6, x7, x8, x9, x10, .val (.int N_.toInt32), .val (.long a), .second, .val (.long d), .second, .val (.long b), .second, x18, x19, x20, x21, x22, x23, x24, x25, .val (.long q1), .second, .val (.long q2), .second, .val (.ref ao), .val (.ref b114), .val (.int (0 : Int32)), .val (.int (-1 : Int32)), .unset, .unset] [(.long q2), (.ref b114)])) rfl (by rw [hml]; rfl) (Steps.refl _) (argsL := [(.long q2)]) (rest := []) (lenOf pd_4 rfl) rfl (by show 2 * 0 + _ ≤ _; exact Nat.le_of_eq rfl) (hb hby at_316) (fun _ _ => ⟨rfl, eh118, (by decide : 5 + 0 ≤ _), (by decide : 24 + 0 ≤ _)⟩)
    dsimp only [Pt.U, Pt.locs, Pt.cells, Pt.slots] at X123 l123 y123 z123 st123 hQ123
    subst l123 y123 z123
    obtain ⟨t2_, rfl, N123q, K123, Ft123, Fa123, Ec123, a2, b2, c2, d2⟩ := hQ123
    have N123 := Fr.app N118 N123q
    have low2 : ∀ j, j < t2_ → own_e a b d j < q2 := fun j hj => by
      by_cases z : j < t1_
      · exact own_trans (low1 j z) hq
      · exact c2 j (by omega) hj
    obtain ⟨_, _, ⟨T124, L124, k124, n124⟩, -, X124, ⟨Lc124, hQ124, l124, y124, z124⟩, st124⟩ := Jvm.LawKit.callS X123 hx (y := (⟨"com/example/xml_element_search/xmlelementsearch/ElementScoresHoldsPinLaw", "idx", "(JIJJJ)I"⟩ : MethodName)) hown (mvT hZ (hw _ (List.mem_of_getElem? (i := 67) rfl))) (mvT hZ (hw _ (List.mem_of_getElem? (i := 68) rfl))) (mvT hZ (hw _ (List.mem_of_getElem? (i := 9) rfl))) (mvT hZ (hw _ (List.mem_of_getElem? (i := 69) rfl))) (by decide) (backOf (W := 0) (own_ixm l Z a0 hw [] q2 N_.toInt32 a b d T123.heap n0 (Nat.le_trans (Nat.le_trans (Nat.le_trans (Nat.le_trans Z0 E114.1) K116.1) K117.1) K123.1) ) hZ (hw _ (List.mem_of_getElem? (i := 69) rfl)) (hw _ (List.mem_of_getElem? (i := 9) rfl)) (by decide) (by decide)) (g := (mkF m 331 #[x0, x1, x2, x3, x4, x5, x6, x7, x8, x9, x10, .val (.int N_.toInt32), .val (.long a), .second, .val (.long d), .second, .val (.long b), .second, x18, x19, x20, x21, x22, x23, x24, x25, .val (.long q1), .second, .val (.long q2), .second, .val (.ref ao), .val (.ref b114), .val (.int (0 : Int32)), .val (.int (-1 : Int32)), .val (.int (if (t2_ < N_ ∧ (own_e a b d) t2_ = q2) then (1 : Int32) else (0 : Int32))), .unset] [(.long d), (.long b), (.long a), (.int N_.toInt32), (.long q2)])) rfl (by rw [hml]; rfl) (argsL := [(.long q2), (.int N_.toInt32), (.long a), (.long b), (.long d)]) (rest := []) (lenOf pd_5 rfl) rfl (by show 2 * 0 + _ ≤ _; exact Nat.le_of_eq rfl) (hb hby at_331) (fun _ _ => ⟨rfl, rfl, (by decide : 5 + 0 ≤ _), (by decide : 24 + 0 ≤ _)⟩)
    dsimp only [Pt.U, Pt.locs, Pt.cells, Pt.slots] at X124 l124 y124 z124 st124 hQ124
    subst l124 y124 z124
    obtain ⟨rfl, N124q, eh124⟩ := hQ124
    have N124 := Fr.app N123 N124q
    by_cases hP2 : (t2_ < N_ ∧ (own_e a b d) t2_ = q2)
    · obtain ⟨cq125, kq125, q125a, q125b, q125c⟩ := isOf hZ eh124 Ec123
      obtain ⟨_, _, ⟨T125, L125, k125, n125⟩, -, X125, ⟨Lc125, hQ125, l125, y125, z125⟩, st125⟩ := X124.virtualBack hx (y := (⟨"com/example/xml_element_search/xmlelementsearch/ElementScores$Cursor", "score", "()D"⟩ : MethodName)) (z := (⟨"com/example/xml_element_search/xmlelementsearch/ElementScores$Cursor", "score", "()D"⟩ : MethodName)) hown (mvT hZ (hw _ (List.mem_of_getElem? (i := 71) rfl))) (mvT hZ (hw _ (List.mem_of_getElem? (i := 72) rfl))) (notFace_of_selects (args := #[]) (mvT hZ (hw _ (List.mem_of_getElem? (i := 74) rfl)))) (mvT hZ (hw _ (List.mem_of_getElem? (i := 74) rfl))) (mvT hZ (hw _ (List.mem_of_getElem? (i := 73) rfl))) (by decide) (backOf (W := 0) (own_sco l Z a0 hw [] b114 ao as_ ks fs_ t2_.toInt32 t2_ (own_sc t2_) T123.heap n0 (Nat.le_trans (Nat.le_trans (Nat.le_trans (Nat.le_trans Z0 E114.1) K116.1) K117.1) K123.1) Ft123 Fa123 ((((F_s.ext E114).keep K116 (ninS (Nat.ne_of_lt lt_ao_b114) nin0)).keep K117 (ninS (Nat.ne_of_lt lt_ao_b114) nin0)).keep K123 (ninS (Nat.ne_of_lt lt_ao_b114) nin0)) ((((V_s.ext E114).keep K116 (ninS (Nat.ne_of_lt lt_as__b114) nin0)).keep K117 (ninS (Nat.ne_of_lt lt_as__b114) nin0)).keep K123 (ninS (Nat.ne_of_lt lt_as__b114) nin0)) (own_ix (by omega)) (by omega) (hfs _ hP2.1)) hZ (hw _ (List.mem_of_getElem? (i := 75) rfl)) (hw _ (List.mem_of_getElem? (i := 47) rfl)) (by decide) (by decide)) q125a q125c (g := (mkF m 360 #[x0, x1, x2, x3, x4, x5, x6, x7, x8, x9, x10, .val (.int N_.toInt32), .val (.long a), .second, .val (.long d), .second, .val (.long b), .second, x18, x19, x20, x21, x22, x23, x24, x25, .val (.long q1), .second, .val (.long q2), .second, .val (.ref ao), .val (.ref b114), .val (.int (0 : Int32)), .val (.int (-1 : Int32)), .val (.int (1 : Int32)), .val (.int t2_.toInt32)] [(.ref b114)])) rfl (by rw [hml]; rfl) (Steps.refl _) (argsL := []) (rest := []) (lenOf pd_6 rfl) rfl (by show 2 * 0 + _ ≤ _; exact Nat.le_of_eq rfl) (hb hby at_360) (fun _ _ => ⟨rfl, eh124, (by decide : 5 + 0 ≤ _), (by decide : 24 + 0 ≤ _)⟩)
      dsimp only [Pt.U, Pt.locs, Pt.cells, Pt.slots] at X125 l125 y125 z125 st125 hQ125
      subst l125 y125 z125
      obtain ⟨rfl, N125q, eh125⟩ := hQ125
      have N125 := Fr.app N124 N125q
      refine ⟨T125, T123.heap, _, .val (.ref b114), .val (.int (0 : Int32)), .val (.int (-1 : Int32)), .val (.int (1 : Int32)), .val (.int t2_.toInt32), X125, eh125, N125, trivial, fun target k => ?_⟩
      show Steps p.tables e below (T.setTop (mkF m 234 #[x0, x1, x2, x3, x4, x5, x6, x7, x8, x9, x10, .val (.int N_.toInt32), .val (.long a), .second, .val (.long d), .second, .val (.long b), .second, x18, x19, x20, x21, x22, x23, x24, x25, .val (.long q1), .second, .val (.long q2), .second, .val (.ref ao), .unset, .unset, .unset, .unset, .unset] [])) _
      refine st114 _ ?_
      show Steps p.tables e below (T114.setTop (mkF m 237 #[x0, x1, x2, x3, x4, x5, x6, x7, x8, x9, x10, .val (.int N_.toInt32), .val (.long a), .second, .val (.long d), .second, .val (.long b), .second, x18, x19, x20, x21, x22, x23, x24, x25, .val (.long q1), .second, .val (.long q2), .second, .val (.ref ao), .unset, .unset, .unset, .unset, .unset] [(.ref b114)])) _
      refine XS.dup X114.here hx rfl (hb hby at_237) rfl rfl ?_
      show Steps p.tables e below (T114.setTop (mkF m 238 #[x0, x1, x2, x3, x4, x5, x6, x7, x8, x9, x10, .val (.int N_.toInt32), .val (.long a), .second, .val (.long d), .second, .val (.long b), .second, x18, x19, x20, x21, x22, x23, x24, x25, .val (.long q1), .second, .val (.long q2), .second, .val (.ref ao), .unset, .unset, .unset, .unset, .unset] [(.ref b114), (.ref b114)])) _
      refine XS.aload X114.here hx rfl (hb hby at_238) rfl rfl ?_
      show Steps p.tables e below (T114.setTop (mkF m 240 #[x0, x1, x2, x3, x4, x5, x6, x7, x8, x9, x10, .val (.int N_.toInt32), .val (.long a), .second, .val (.long d), .second, .val (.long b), .second, x18, x19, x20, x21, x22, x23, x24, x25, .val (.long q1), .second, .val (.long q2), .second, .val (.ref ao), .unset, .unset, .unset, .unset, .unset] [(.ref ao), (.ref b114), (.ref b114)])) _
      refine XS.dup X114.here hx rfl (hb hby at_240) rfl rfl ?_
      show Steps p.tables e below (T114.setTop (mkF m 241 #[x0, x1, x2, x3, x4, x5, x6, x7, x8, x9, x10, .val (.int N_.toInt32), .val (.long a), .second, .val (.long d), .second, .val (.long b), .second, x18, x19, x20, x21, x22, x23, x24, x25, .val (.long q1), .second, .val (.long q2), .second, .val (.ref ao), .unset, .unset, .unset, .unset, .unset] [(.ref ao), (.ref ao), (.ref b114), (.ref b114)])) _
      refine st115 _ ?_
      show Steps p.tables e below (T115.setTop (mkF m 244 #[x0, x1, x2, x3, x4, x5, x6, x7, x8, x9, x10, .val (.int N_.toInt32), .val (.long a), .second, .val (.long d), .second, .val (.long b), .second, x18, x19, x20, x21, x22, x23, x24, x25, .val (.long q1), .second, .val (.long q2), .second, .val (.ref ao), .unset, .unset, .unset, .unset, .unset] [(.ref ao), (.ref ao), (.ref b114), (.ref b114)])) _
      refine XT.pop X115.here hx rfl (hb hby at_244) rfl rfl ?_
      show Steps p.tables e below (T115.setTop (mkF m 245 #[x0, x1, x2, x3, x4, x5, x6, x7, x8, x9, x10, .val (.int N_.toInt32), .val (.long a), .second, .val (.long d), .second, .val (.long b), .second, x18, x19, x20, x21, x22, x23, x24, x25, .val (.long q1), .second, .val (.long q2), .second, .val (.ref ao), .unset, .unset, .unset, .unset, .unset] [(.ref ao), (.ref b114), (.ref b114)])) _
      refine st116.trans ?_
      show Steps p.tables e below (T116.setTop (mkF m 248 #[x0, x1, x2, x3, x4, x5, x6, x7, x8, x9, x10, .val (.int N_.toInt32), .val (.long a), .second, .val (.long d), .second, .val (.long b), .second, x18, x19, x20, x21, x22, x23, x24, x25, .val (.long q1), .second, .val (.long q2), .second, .val (.ref ao), .unset, .unset, .unset, .unset, .unset] [(.ref b114)])) _
      refine XS.astore X116.here hx rfl (hb hby at_248) rfl rfl (l' := #[x0, x1, x2, x3, x4, x5, x6, x7, x8, x9, x10, .val (.int N_.toInt32), .val (.long a), .second, .val (.long d), .second, .val (.long b), .second, x18, x19, x20, x21, x22, x23, x24, x25, .val (.long q1), .second, .val (.long q2), .second, .val (.ref ao), .val (.ref b114), .unset, .unset, .unset, .unset]) rfl ?_
      show Steps p.tables e below (T116.setTop (mkF m 250 #[x0, x1, x2, x3, x4, x5, x6, x7, x8, x9, x10, .val (.int N_.toInt32), .val (.long a), .second, .val (.long d), .second, .val (.long b), .second, x18, x19, x20, x21, x22, x23, x24, x25, .val (.long q1), .second, .val (.long q2), .second, .val (.ref ao), .val (.ref b114), .unset, .unset, .unset, .unset] [])) _
      refine XS.aload X116.here hx rfl (hb hby at_250) rfl rfl ?_
      show Steps p.tables e below (T116.setTop (mkF m 252 #[x0, x1, x2, x3, x4, x5, x6, x7, x8, x9, x10, .val (.int N_.toInt32), .val (.long a), .second, .val (.long d), .second, .val (.long b), .second, x18, x19, x20, x21, x22, x23, x24, x25, .val (.long q1), .second, .val (.long q2), .second, .val (.ref ao), .val (.ref b114), .unset, .unset, .unset, .unset] [(.ref b114)])) _
      refine XT.lload X116.here hx rfl (hb hby at_252) rfl ?_
      show Steps p.tables e below (T116.setTop (mkF m 254 #[x0, x1, x2, x3, x4, x5, x6, x7, x8, x9, x10, .val (.int N_.toInt32), .val (.long a), .second, .val (.long d), .second, .val (.long b), .second, x18, x19, x20, x21, x22, x23, x24, x25, .val (.long q1), .second, .val (.long q2), .second, .val (.ref ao), .val (.ref b114), .unset, .unset, .unset, .unset] [(.long q1), (.ref b114)])) _
      refine st117.trans ?_
      show Steps p.tables e below (T117.setTop (mkF m 257 #[x0, x1, x2, x3, x4, x5, x6, x7, x8, x9, x10, .val (.int N_.toInt32), .val (.long a), .second, .val (.long d), .second, .val (.long b), .second, x18, x19, x20, x21, x22, x23, x24, x25, .val (.long q1), .second, .val (.long q2), .second, .val (.ref ao), .val (.ref b114), .unset, .unset, .unset, .unset] [(.int (if (t1_ < N_ ∧ (own_e a b d) t1_ = q1) then (1 : Int32) else (0 : Int32)))])) _
      refine XS.istore X117.here hx rfl (hb hby at_257) rfl (l' := #[x0, x1, x2, x3, x4, x5, x6, x7, x8, x9, x10, .val (.int N_.toInt32), .val (.long a), .second, .val (.long d), .second, .val (.long b), .second, x18, x19, x20, x21, x22, x23, x24, x25, .val (.long q1), .second, .val (.long q2), .second, .val (.ref ao), .val (.ref b114), .val (.int (if (t1_ < N_ ∧ (own_e a b d) t1_ = q1) then (1 : Int32) else (0 : Int32))), .unset, .unset, .unset]) rfl ?_
      show Steps p.tables e below (T117.setTop (mkF m 259 #[x0, x1, x2, x3, x4, x5, x6, x7, x8, x9, x10, .val (.int N_.toInt32), .val (.long a), .second, .val (.long d), .second, .val (.long b), .second, x18, x19, x20, x21, x22, x23, x24, x25, .val (.long q1), .second, .val (.long q2), .second, .val (.ref ao), .val (.ref b114), .val (.int (if (t1_ < N_ ∧ (own_e a b d) t1_ = q1) then (1 : Int32) else (0 : Int32))), .unset, .unset, .unset] [])) _
      refine XT.lload X117.here hx rfl (hb hby at_259) rfl ?_
      show Steps p.tables e below (T117.setTop (mkF m 261 #[x0, x1, x2, x3, x4, x5, x6, x7, x8, x9, x10, .val (.int N_.toInt32), .val (.long a), .second, .val (.long d), .second, .val (.long b), .second, x18, x19, x20, x21, x22, x23, x24, x25, .val (.long q1), .second, .val (.long q2), .second, .val (.ref ao), .val (.ref b114), .val (.int (if (t1_ < N_ ∧ (own_e a b d) t1_ = q1) then (1 : Int32) else (0 : Int32))), .unset, .unset, .unset] [(.long q1)])) _
      refine XS.iload X117.here hx rfl (hb hby at_261) rfl ?_
      show Steps p.tables e below (T117.setTop (mkF m 263 #[x0, x1, x2, x3, x4, x5, x6, x7, x8, x9, x10, .val (.int N_.toInt32), .val (.long a), .second, .val (.long d), .second, .val (.long b), .second, x18, x19, x20, x21, x22, x23, x24, x25, .val (.long q1), .second, .val (.long q2), .second, .val (.ref ao), .val (.ref b114), .val (.int (if (t1_ < N_ ∧ (own_e a b d) t1_ = q1) then (1 : Int32) else (0 : Int32))), .unset, .unset, .unset] [(.int N_.toInt32), (.long q1)])) _
      refine XT.lload X117.here hx rfl (hb hby at_263) rfl ?_
      show Steps p.tables e below (T117.setTop (mkF m 265 #[x0, x1, x2, x3, x4, x5, x6, x7, x8, x9, x10, .val (.int N_.toInt32), .val (.long a), .second, .val (.long d), .second, .val (.long b), .second, x18, x19, x20, x21, x22, x23, x24, x25, .val (.long q1), .second, .val (.long q2), .second, .val (.ref ao), .val (.ref b114), .val (.int (if (t1_ < N_ ∧ (own_e a b d) t1_ = q1) then (1 : Int32) else (0 : Int32))), .unset, .unset, .unset] [(.long a), (.int N_.toInt32), (.long q1)])) _
      refine XT.lload X117.here hx rfl (hb hby at_265) rfl ?_
      show Steps p.tables e below (T117.setTop (mkF m 267 #[x0, x1, x2, x3, x4, x5, x6, x7, x8, x9, x10, .val (.int N_.toInt32), .val (.long a), .second, .val (.long d), .second, .val (.long b), .second, x18, x19, x20, x21, x22, x23, x24, x25, .val (.long q1), .second, .val (.long q2), .second, .val (.ref ao), .val (.ref b114), .val (.int (if (t1_ < N_ ∧ (own_e a b d) t1_ = q1) then (1 : Int32) else (0 : Int32))), .unset, .unset, .unset] [(.long b), (.long a), (.int N_.toInt32), (.long q1)])) _
      refine XT.lload X117.here hx rfl (hb hby at_267) rfl ?_
      show Steps p.tables e below (T117.setTop (mkF m 269 #[x0, x1, x2, x3, x4, x5, x6, x7, x8, x9, x10, .val (.int N_.toInt32), .val (.long a), .second, .val (.long d), .second, .val (.long b), .second, x18, x19, x20, x21, x22, x23, x24, x25, .val (.long q1), .second, .val (.long q2), .second, .val (.ref ao), .val (.ref b114), .val (.int (if (t1_ < N_ ∧ (own_e a b d) t1_ = q1) then (1 : Int32) else (0 : Int32))), .unset, .unset, .unset] [(.long d), (.long b), (.long a), (.int N_.toInt32), (.long q1)])) _
      refine st118 _ ?_
      show Steps p.tables e below (T118.setTop (mkF m 272 #[x0, x1, x2, x3, x4, x5, x6, x7, x8, x9, x10, .val (.int N_.toInt32), .val (.long a), .second, .val (.long d), .second, .val (.long b), .second, x18, x19, x20, x21, x22, x23, x24, x25, .val (.long q1), .second, .val (.long q2), .second, .val (.ref ao), .val (.ref b114), .val (.int (if (t1_ < N_ ∧ (own_e a b d) t1_ = q1) then (1 : Int32) else (0 : Int32))), .unset, .unset, .unset] [(.int (own_idx q1 N_.toInt32 a b d))])) _
      refine XS.istore X118.here hx rfl (hb hby at_272) rfl (l' := #[x0, x1, x2, x3, x4, x5, x6, x7, x8, x9, x10, .val (.int N_.toInt32), .val (.long a), .second, .val (.long d), .second, .val (.long b), .second, x18, x19, x20, x21, x22, x23, x24, x25, .val (.long q1), .second, .val (.long q2), .second, .val (.ref ao), .val (.ref b114), .val (.int (if (t1_ < N_ ∧ (own_e a b d) t1_ = q1) then (1 : Int32) else (0 : Int32))), .val (.int (own_idx q1 N_.toInt32 a b d)), .unset, .unset]) rfl ?_
      show Steps p.tables e below (T118.setTop (mkF m 274 #[x0, x1, x2, x3, x4, x5, x6, x7, x8, x9, x10, .val (.int N_.toInt32), .val (.long a), .second, .val (.long d), .second, .val (.long b), .second, x18, x19, x20, x21, x22, x23, x24, x25, .val (.long q1), .second, .val (.long q2), .second, .val (.ref ao), .val (.ref b114), .val (.int (if (t1_ < N_ ∧ (own_e a b d) t1_ = q1) then (1 : Int32) else (0 : Int32))), .val (.int (own_idx q1 N_.toInt32 a b d)), .unset, .unset] [])) _
      rw [if_neg hP1, own_idxF q1 a b d N_ hN (own_none q1 _ N_ t1_ hasc low1 d1 hP1)]
      show Steps p.tables e below (T118.setTop (mkF m 274 #[x0, x1, x2, x3, x4, x5, x6, x7, x8, x9, x10, .val (.int N_.toInt32), .val (.long a), .second, .val (.long d), .second, .val (.long b), .second, x18, x19, x20, x21, x22, x23, x24, x25, .val (.long q1), .second, .val (.long q2), .second, .val (.ref ao), .val (.ref b114), .val (.int (0 : Int32)), .val (.int (-1 : Int32)), .unset, .unset] [])) _
      refine XS.iload X118.here hx rfl (hb hby at_274) rfl ?_
      show Steps p.tables e below (T118.setTop (mkF m 276 #[x0, x1, x2, x3, x4, x5, x6, x7, x8, x9, x10, .val (.int N_.toInt32), .val (.long a), .second, .val (.long d), .second, .val (.long b), .second, x18, x19, x20, x21, x22, x23, x24, x25, .val (.long q1), .second, .val (.long q2), .second, .val (.ref ao), .val (.ref b114), .val (.int (0 : Int32)), .val (.int (-1 : Int32)), .unset, .unset] [(.int (0 : Int32))])) _
      refine XS.iload X118.here hx rfl (hb hby at_276) rfl ?_
      show Steps p.tables e below (T118.setTop (mkF m 278 #[x0, x1, x2, x3, x4, x5, x6, x7, x8, x9, x10, .val (.int N_.toInt32), .val (.long a), .second, .val (.long d), .second, .val (.long b), .second, x18, x19, x20, x21, x22, x23, x24, x25, .val (.long q1), .second, .val (.long q2), .second, .val (.ref ao), .val (.ref b114), .val (.int (0 : Int32)), .val (.int (-1 : Int32)), .unset, .unset] [(.int (-1 : Int32)), (.int (0 : Int32))])) _
      refine XS.ifYes X118.here hx rfl (pc0 := 278) (pc' := 285) rfl (hb hby at_278) rfl (XT.i0_lt_t (by decide)) (by decide) (by decide) ?_
      show Steps p.tables e below (T118.setTop (mkF m 285 #[x0, x1, x2, x3, x4, x5, x6, x7, x8, x9, x10, .val (.int N_.toInt32), .val (.long a), .second, .val (.long d), .second, .val (.long b), .second, x18, x19, x20, x21, x22, x23, x24, x25, .val (.long q1), .second, .val (.long q2), .second, .val (.ref ao), .val (.ref b114), .val (.int (0 : Int32)), .val (.int (-1 : Int32)), .unset, .unset] [(.int (0 : Int32))])) _
      refine XS.iconst X118.here hx rfl (hb hby at_285) ?_
      show Steps p.tables e below (T118.setTop (mkF m 286 #[x0, x1, x2, x3, x4, x5, x6, x7, x8, x9, x10, .val (.int N_.toInt32), .val (.long a), .second, .val (.long d), .second, .val (.long b), .second, x18, x19, x20, x21, x22, x23, x24, x25, .val (.long q1), .second, .val (.long q2), .second, .val (.ref ao), .val (.ref b114), .val (.int (0 : Int32)), .val (.int (-1 : Int32)), .unset, .unset] [(.int (0 : Int32)), (.int (0 : Int32))])) _
      refine XS.icmpYes X118.here hx rfl (pc0 := 286) (pc' := 291) rfl (hb hby at_286) rfl (XT.ii_eq_t (by decide)) (by decide) (by decide) ?_
      show Steps p.tables e below (T118.setTop (mkF m 291 #[x0, x1, x2, x3, x4, x5, x6, x7, x8, x9, x10, .val (.int N_.toInt32), .val (.long a), .second, .val (.long d), .second, .val (.long b), .second, x18, x19, x20, x21, x22, x23, x24, x25, .val (.long q1), .second, .val (.long q2), .second, .val (.ref ao), .val (.ref b114), .val (.int (0 : Int32)), .val (.int (-1 : Int32)), .unset, .unset] [])) _
      refine XS.iload X118.here hx rfl (hb hby at_291) rfl ?_
      show Steps p.tables e below (T118.setTop (mkF m 293 #[x0, x1, x2, x3, x4, x5, x6, x7, x8, x9, x10, .val (.int N_.toInt32), .val (.long a), .second, .val (.long d), .second, .val (.long b), .second, x18, x19, x20, x21, x22, x23, x24, x25, .val (.long q1), .second, .val (.long q2), .second, .val (.ref ao), .val (.ref b114), .val (.int (0 : Int32)), .val (.int (-1 : Int32)), .unset, .unset] [(.int (0 : Int32))])) _
      refine XS.ifYes X118.here hx rfl (pc0 := 293) (pc' := 312) rfl (hb hby at_293) rfl (XT.i0_eq_t (by decide)) (by decide) (by decide) ?_
      show Steps p.tables e below (T118.setTop (mkF m 312 #[x0, x1, x2, x3, x4, x5, x6, x7, x8, x9, x10, .val (.int N_.toInt32), .val (.long a), .second, .val (.long d), .second, .val (.long b), .second, x18, x19, x20, x21, x22, x23, x24, x25, .val (.long q1), .second, .val (.long q2), .second, .val (.ref ao), .val (.ref b114), .val (.int (0 : Int32)), .val (.int (-1 : Int32)), .unset, .unset] [])) _
      refine XS.aload X118.here hx rfl (hb hby at_312) rfl rfl ?_
      show Steps p.tables e below (T118.setTop (mkF m 314 #[x0, x1, x2, x3, x4, x5, x6, x7, x8, x9, x10, .val (.int N_.toInt32), .val (.long a), .second, .val (.long d), .second, .val (.long b), .second, x18, x19, x20, x21, x22, x23, x24, x25, .val (.long q1), .second, .val (.long q2), .second, .val (.ref ao), .val (.ref b114), .val (.int (0 : Int32)), .val (.int (-1 : Int32)), .unset, .unset] [(.ref b114)])) _
      refine XT.lload X118.here hx rfl (hb hby at_314) rfl ?_
      show Steps p.tables e below (T118.setTop (mkF m 316 #[x0, x1, x2, x3, x4, x5, x6, x7, x8, x9, x10, .val (.int N_.toInt32), .val (.long a), .second, .val (.long d), .second, .val (.long b), .second, x18, x19, x20, x21, x22, x23, x24, x25, .val (.long q1), .second, .val (.long q2), .second, .val (.ref ao), .val (.ref b114), .val (.int (0 : Int32)), .val (.int (-1 : Int32)), .unset, .unset] [(.long q2), (.ref b114)])) _
      refine st123.trans ?_
      show Steps p.tables e below (T123.setTop (mkF m 319 #[x0, x1, x2, x3, x4, x5, x6, x7, x8, x9, x10, .val (.int N_.toInt32), .val (.long a), .second, .val (.long d), .second, .val (.long b), .second, x18, x19, x20, x21, x22, x23, x24, x25, .val (.long q1), .second, .val (.long q2), .second, .val (.ref ao), .val (.ref b114), .val (.int (0 : Int32)), .val (.int (-1 : Int32)), .unset, .unset] [(.int (if (t2_ < N_ ∧ (own_e a b d) t2_ = q2) then (1 : Int32) else (0 : Int32)))])) _
      refine XS.istore X123.here hx rfl (hb hby at_319) rfl (l' := #[x0, x1, x2, x3, x4, x5, x6, x7, x8, x9, x10, .val (.int N_.toInt32), .val (.long a), .second, .val (.long d), .second, .val (.long b), .second, x18, x19, x20, x21, x22, x23, x24, x25, .val (.long q1), .second, .val (.long q2), .second, .val (.ref ao), .val (.ref b114), .val (.int (0 : Int32)), .val (.int (-1 : Int32)), .val (.int (if (t2_ < N_ ∧ (own_e a b d) t2_ = q2) then (1 : Int32) else (0 : Int32))), .unset]) rfl ?_
      show Steps p.tables e below (T123.setTop (mkF m 321 #[x0, x1, x2, x3, x4, x5, x6, x7, x8, x9, x10, .val (.int N_.toInt32), .val (.long a), .second, .val (.long d), .second, .val (.long b), .second, x18, x19, x20, x21, x22, x23, x24, x25, .val (.long q1), .second, .val (.long q2), .second, .val (.ref ao), .val (.ref b114), .val (.int (0 : Int32)), .val (.int (-1 : Int32)), .val (.int (if (t2_ < N_ ∧ (own_e a b d) t2_ = q2) then (1 : Int32) else (0 : Int32))), .unset] [])) _
      refine XT.lload X123.here hx rfl (hb hby at_321) rfl ?_
      show Steps p.tables e below (T123.setTop (mkF m 323 #[x0, x1, x2, x3, x4, x5, x6, x7, x8, x9, x10, .val (.int N_.toInt32), .val (.long a), .second, .val (.long d), .second, .val (.long b), .second, x18, x19, x20, x21, x22, x23, x24, x25, .val (.long q1), .second, .val (.long q2), .second, .val (.ref ao), .val (.ref b114), .val (.int (0 : Int32)), .val (.int (-1 : Int32)), .val (.int (if (t2_ < N_ ∧ (own_e a b d) t2_ = q2) then (1 : Int32) else (0 : Int32))), .unset] [(.long q2)])) _
      refine XS.iload X123.here hx rfl (hb hby at_323) rfl ?_
      show Steps p.tables e below (T123.setTop (mkF m 325 #[x0, x1, x2, x3, x4, x5, x6, x7, x8, x9, x10, .val (.int N_.toInt32), .val (.long a), .second, .val (.long d), .second, .val (.long b), .second, x18, x19, x20, x21, x22, x23, x24, x25, .val (.long q1), .second, .val (.long q2), .second, .val (.ref ao), .val (.ref b114), .val (.int (0 : Int32)), .val (.int (-1 : Int32)), .val (.int (if (t2_ < N_ ∧ (own_e a b d) t2_ = q2) then (1 : Int32) else (0 : Int32))), .unset] [(.int N_.toInt32), (.long q2)])) _
      refine XT.lload X123.here hx rfl (hb hby at_325) rfl ?_
      show Steps p.tables e below (T123.setTop (mkF m 327 #[x0, x1, x2, x3, x4, x5, x6, x7, x8, x9, x10, .val (.int N_.toInt32), .val (.long a), .second, .val (.long d), .second, .val (.long b), .second, x18, x19, x20, x21, x22, x23, x24, x25, .val (.long q1), .second, .val (.long q2), .second, .val (.ref ao), .val (.ref b114), .val (.int (0 : Int32)), .val (.int (-1 : Int32)), .val (.int (if (t2_ < N_ ∧ (own_e a b d) t2_ = q2) then (1 : Int32) else (0 : Int32))), .unset] [(.long a), (.int N_.toInt32), (.long q2)])) _
      refine XT.lload X123.here hx rfl (hb hby at_327) rfl ?_
      show Steps p.tables e below (T123.setTop (mkF m 329 #[x0, x1, x2, x3, x4, x5, x6, x7, x8, x9, x10, .val (.int N_.toInt32), .val (.long a), .second, .val (.long d), .second, .val (.long b), .second, x18, x19, x20, x21, x22, x23, x24, x25, .val (.long q1), .second, .val (.long q2), .second, .val (.ref ao), .val (.ref b114), .val (.int (0 : Int32)), .val (.int (-1 : Int32)), .val (.int (if (t2_ < N_ ∧ (own_e a b d) t2_ = q2) then (1 : Int32) else (0 : Int32))), .unset] [(.long b), (.long a), (.int N_.toInt32), (.long q2)])) _
      refine XT.lload X123.here hx rfl (hb hby at_329) rfl ?_
      show Steps p.tables e below (T123.setTop (mkF m 331 #[x0, x1, x2, x3, x4, x5, x6, x7, x8, x9, x10, .val (.int N_.toInt32), .val (.long a), .second, .val (.long d), .second, .val (.long b), .second, x18, x19, x20, x21, x22, x23, x24, x25, .val (.long q1), .second, .val (.long q2), .second, .val (.ref ao), .val (.ref b114), .val (.int (0 : Int32)), .val (.int (-1 : Int32)), .val (.int (if (t2_ < N_ ∧ (own_e a b d) t2_ = q2) then (1 : Int32) else (0 : Int32))), .unset] [(.long d), (.long b), (.long a), (.int N_.toInt32), (.long q2)])) _
      refine st124 _ ?_
      show Steps p.tables e below (T124.setTop (mkF m 334 #[x0, x1, x2, x3, x4, x5, x6, x7, x8, x9, x10, .val (.int N_.toInt32), .val (.long a), .second, .val (.long d), .second, .val (.long b), .second, x18, x19, x20, x21, x22, x23, x24, x25, .val (.long q1), .second, .val (.long q2), .second, .val (.ref ao), .val (.ref b114), .val (.int (0 : Int32)), .val (.int (-1 : Int32)), .val (.int (if (t2_ < N_ ∧ (own_e a b d) t2_ = q2) then (1 : Int32) else (0 : Int32))), .unset] [(.int (own_idx q2 N_.toInt32 a b d))])) _
      refine XS.istore X124.here hx rfl (hb hby at_334) rfl (l' := #[x0, x1, x2, x3, x4, x5, x6, x7, x8, x9, x10, .val (.int N_.toInt32), .val (.long a), .second, .val (.long d), .second, .val (.long b), .second, x18, x19, x20, x21, x22, x23, x24, x25, .val (.long q1), .second, .val (.long q2), .second, .val (.ref ao), .val (.ref b114), .val (.int (0 : Int32)), .val (.int (-1 : Int32)), .val (.int (if (t2_ < N_ ∧ (own_e a b d) t2_ = q2) then (1 : Int32) else (0 : Int32))), .val (.int (own_idx q2 N_.toInt32 a b d))]) rfl ?_
      show Steps p.tables e below (T124.setTop (mkF m 336 #[x0, x1, x2, x3, x4, x5, x6, x7, x8, x9, x10, .val (.int N_.toInt32), .val (.long a), .second, .val (.long d), .second, .val (.long b), .second, x18, x19, x20, x21, x22, x23, x24, x25, .val (.long q1), .second, .val (.long q2), .second, .val (.ref ao), .val (.ref b114), .val (.int (0 : Int32)), .val (.int (-1 : Int32)), .val (.int (if (t2_ < N_ ∧ (own_e a b d) t2_ = q2) then (1 : Int32) else (0 : Int32))), .val (.int (own_idx q2 N_.toInt32 a b d))] [])) _
      rw [if_pos hP2, own_idxT q2 a b d N_ t2_ hN hasc hP2]
      show Steps p.tables e below (T124.setTop (mkF m 336 #[x0, x1, x2, x3, x4, x5, x6, x7, x8, x9, x10, .val (.int N_.toInt32), .val (.long a), .second, .val (.long d), .second, .val (.long b), .second, x18, x19, x20, x21, x22, x23, x24, x25, .val (.long q1), .second, .val (.long q2), .second, .val (.ref ao), .val (.ref b114), .val (.int (0 : Int32)), .val (.int (-1 : Int32)), .val (.int (1 : Int32)), .val (.int t2_.toInt32)] [])) _
      refine XS.iload X124.here hx rfl (hb hby at_336) rfl ?_
      show Steps p.tables e below (T124.setTop (mkF m 338 #[x0, x1, x2, x3, x4, x5, x6, x7, x8, x9, x10, .val (.int N_.toInt32), .val (.long a), .second, .val (.long d), .second, .val (.long b), .second, x18, x19, x20, x21, x22, x23, x24, x25, .val (.long q1), .second, .val (.long q2), .second, .val (.ref ao), .val (.ref b114), .val (.int (0 : Int32)), .val (.int (-1 : Int32)), .val (.int (1 : Int32)), .val (.int t2_.toInt32)] [(.int (1 : Int32))])) _
      refine XS.iload X124.here hx rfl (hb hby at_338) rfl ?_
      show Steps p.tables e below (T124.setTop (mkF m 340 #[x0, x1, x2, x3, x4, x5, x6, x7, x8, x9, x10, .val (.int N_.toInt32), .val (.long a), .second, .val (.long d), .second, .val (.long b), .second, x18, x19, x20, x21, x22, x23, x24, x25, .val (.long q1), .second, .val (.long q2), .second, .val (.ref ao), .val (.ref b114), .val (.int (0 : Int32)), .val (.int (-1 : Int32)), .val (.int (1 : Int32)), .val (.int t2_.toInt32)] [(.int t2_.toInt32), (.int (1 : Int32))])) _
      refine XS.ifNo X124.here hx rfl (hb hby at_340) rfl (XT.i0_lt_f (own_nn t2_ (by omega))) ?_
      show Steps p.tables e below (T124.setTop (mkF m 343 #[x0, x1, x2, x3, x4, x5, x6, x7, x8, x9, x10, .val (.int N_.toInt32), .val (.long a), .second, .val (.long d), .second, .val (.long b), .second, x18, x19, x20, x21, x22, x23, x24, x25, .val (.long q1), .second, .val (.long q2), .second, .val (.ref ao), .val (.ref b114), .val (.int (0 : Int32)), .val (.int (-1 : Int32)), .val (.int (1 : Int32)), .val (.int t2_.toInt32)] [(.int (1 : Int32))])) _
      refine XS.iconst X124.here hx rfl (hb hby at_343) ?_
      show Steps p.tables e below (T124.setTop (mkF m 344 #[x0, x1, x2, x3, x4, x5, x6, x7, x8, x9, x10, .val (.int N_.toInt32), .val (.long a), .second, .val (.long d), .second, .val (.long b), .second, x18, x19, x20, x21, x22, x23, x24, x25, .val (.long q1), .second, .val (.long q2), .second, .val (.ref ao), .val (.ref b114), .val (.int (0 : Int32)), .val (.int (-1 : Int32)), .val (.int (1 : Int32)), .val (.int t2_.toInt32)] [(.int (1 : Int32)), (.int (1 : Int32))])) _
      refine XS.goto X124.here hx rfl (pc0 := 344) (pc' := 348) rfl (hb hby at_344) (by decide) (by decide) ?_
      show Steps p.tables e below (T124.setTop (mkF m 348 #[x0, x1, x2, x3, x4, x5, x6, x7, x8, x9, x10, .val (.int N_.toInt32), .val (.long a), .second, .val (.long d), .second, .val (.long b), .second, x18, x19, x20, x21, x22, x23, x24, x25, .val (.long q1), .second, .val (.long q2), .second, .val (.ref ao), .val (.ref b114), .val (.int (0 : Int32)), .val (.int (-1 : Int32)), .val (.int (1 : Int32)), .val (.int t2_.toInt32)] [(.int (1 : Int32)), (.int (1 : Int32))])) _
      refine XS.icmpYes X124.here hx rfl (pc0 := 348) (pc' := 353) rfl (hb hby at_348) rfl (XT.ii_eq_t (by decide)) (by decide) (by decide) ?_
      show Steps p.tables e below (T124.setTop (mkF m 353 #[x0, x1, x2, x3, x4, x5, x6, x7, x8, x9, x10, .val (.int N_.toInt32), .val (.long a), .second, .val (.long d), .second, .val (.long b), .second, x18, x19, x20, x21, x22, x23, x24, x25, .val (.long q1), .second, .val (.long q2), .second, .val (.ref ao), .val (.ref b114), .val (.int (0 : Int32)), .val (.int (-1 : Int32)), .val (.int (1 : Int32)), .val (.int t2_.toInt32)] [])) _
      refine XS.iload X124.here hx rfl (hb hby at_353) rfl ?_
      show Steps p.tables e below (T124.setTop (mkF m 355 #[x0, x1, x2, x3, x4, x5, x6, x7, x8, x9, x10, .val (.int N_.toInt32), .val (.long a), .second, .val (.long d), .second, .val (.long b), .second, x18, x19, x20, x21, x22, x23, x24, x25, .val (.long q1), .second, .val (.long q2), .second, .val (.ref ao), .val (.ref b114), .val (.int (0 : Int32)), .val (.int (-1 : Int32)), .val (.int (1 : Int32)), .val (.int t2_.toInt32)] [(.int (1 : Int32))])) _
      refine XS.ifNo X124.here hx rfl (hb hby at_355) rfl (XT.i0_eq_f (by decide)) ?_
      show Steps p.tables e below (T124.setTop (mkF m 358 #[x0, x1, x2, x3, x4, x5, x6, x7, x8, x9, x10, .val (.int N_.toInt32), .val (.long a), .second, .val (.long d), .second, .val (.long b), .second, x18, x19, x20, x21, x22, x23, x24, x25, .val (.long q1), .second, .val (.long q2), .second, .val (.ref ao), .val (.ref b114), .val (.int (0 : Int32)), .val (.int (-1 : Int32)), .val (.int (1 : Int32)), .val (.int t2_.toInt32)] [])) _
      refine XS.aload X124.here hx rfl (hb hby at_358) rfl rfl ?_
      show Steps p.tables e below (T124.setTop (mkF m 360 #[x0, x1, x2, x3, x4, x5, x6, x7, x8, x9, x10, .val (.int N_.toInt32), .val (.long a), .second, .val (.long d), .second, .val (.long b), .second, x18, x19, x20, x21, x22, x23, x24, x25, .val (.long q1), .second, .val (.long q2), .second, .val (.ref ao), .val (.ref b114), .val (.int (0 : Int32)), .val (.int (-1 : Int32)), .val (.int (1 : Int32)), .val (.int t2_.toInt32)] [(.ref b114)])) _
      refine st125.trans ?_
      show Steps p.tables e below (T125.setTop (mkF m 363 #[x0, x1, x2, x3, x4, x5, x6, x7, x8, x9, x10, .val (.int N_.toInt32), .val (.long a), .second, .val (.long d), .second, .val (.long b), .second, x18, x19, x20, x21, x22, x23, x24, x25, .val (.long q1), .second, .val (.long q2), .second, .val (.ref ao), .val (.ref b114), .val (.int (0 : Int32)), .val (.int (-1 : Int32)), .val (.int (1 : Int32)), .val (.int t2_.toInt32)] [(.double (own_sc t2_))])) _
      refine XS.iload X125.here hx rfl (hb hby at_363) rfl ?_
      show Steps p.tables e below (T125.setTop (mkF m 365 #[x0, x1, x2, x3, x4, x5, x6, x7, x8, x9, x10, .val (.int N_.toInt32), .val (.long a), .second, .val (.long d), .second, .val (.long b), .second, x18, x19, x20, x21, x22, x23, x24, x25, .val (.long q1), .second, .val (.long q2), .second, .val (.ref ao), .val (.ref b114), .val (.int (0 : Int32)), .val (.int (-1 : Int32)), .val (.int (1 : Int32)), .val (.int t2_.toInt32)] [(.int t2_.toInt32), (.double (own_sc t2_))])) _
      refine XS.iconst X125.here hx rfl (hb hby at_365) ?_
      show Steps p.tables e below (T125.setTop (mkF m 366 #[x0, x1, x2, x3, x4, x5, x6, x7, x8, x9, x10, .val (.int N_.toInt32), .val (.long a), .second, .val (.long d), .second, .val (.long b), .second, x18, x19, x20, x21, x22, x23, x24, x25, .val (.long q1), .second, .val (.long q2), .second, .val (.ref ao), .val (.ref b114), .val (.int (0 : Int32)), .val (.int (-1 : Int32)), .val (.int (1 : Int32)), .val (.int t2_.toInt32)] [(.int (1 : Int32)), (.int t2_.toInt32), (.double (own_sc t2_))])) _
      refine XS.iadd X125.here hx rfl (hb hby at_366) rfl ?_
      show Steps p.tables e below (T125.setTop (mkF m 367 #[x0, x1, x2, x3, x4, x5, x6, x7, x8, x9, x10, .val (.int N_.toInt32), .val (.long a), .second, .val (.long d), .second, .val (.long b), .second, x18, x19, x20, x21, x22, x23, x24, x25, .val (.long q1), .second, .val (.long q2), .second, .val (.ref ao), .val (.ref b114), .val (.int (0 : Int32)), .val (.int (-1 : Int32)), .val (.int (1 : Int32)), .val (.int t2_.toInt32)] [(.int (t2_.toInt32 + (1 : Int32))), (.double (own_sc t2_))])) _
      refine own_i2d X125.here hx rfl (hb hby at_367) rfl ?_
      show Steps p.tables e below (T125.setTop (mkF m 368 #[x0, x1, x2, x3, x4, x5, x6, x7, x8, x9, x10, .val (.int N_.toInt32), .val (.long a), .second, .val (.long d), .second, .val (.long b), .second, x18, x19, x20, x21, x22, x23, x24, x25, .val (.long q1), .second, .val (.long q2), .second, .val (.ref ao), .val (.ref b114), .val (.int (0 : Int32)), .val (.int (-1 : Int32)), .val (.int (1 : Int32)), .val (.int t2_.toInt32)] [(.double (FP.i2d (t2_.toInt32 + (1 : Int32)))), (.double (own_sc t2_))])) _
      refine own_dcmp X125.here hx rfl (hb hby at_368) rfl ?_
      show Steps p.tables e below (T125.setTop (mkF m 369 #[x0, x1, x2, x3, x4, x5, x6, x7, x8, x9, x10, .val (.int N_.toInt32), .val (.long a), .second, .val (.long d), .second, .val (.long b), .second, x18, x19, x20, x21, x22, x23, x24, x25, .val (.long q1), .second, .val (.long q2), .second, .val (.ref ao), .val (.ref b114), .val (.int (0 : Int32)), .val (.int (-1 : Int32)), .val (.int (1 : Int32)), .val (.int t2_.toInt32)] [(.int (cmpValue (FP.dcmp (own_sc t2_) (FP.i2d (t2_.toInt32 + (1 : Int32)))) .l))])) _
      refine XS.ifYes X125.here hx rfl (pc0 := 369) (pc' := 374) rfl (hb hby at_369) rfl (XT.i0_eq_t (own_scv t2_ (by omega))) (by decide) (by decide) ?_
      show Steps p.tables e below (T125.setTop (mkF m 374 #[x0, x1, x2, x3, x4, x5, x6, x7, x8, x9, x10, .val (.int N_.toInt32), .val (.long a), .second, .val (.long d), .second, .val (.long b), .second, x18, x19, x20, x21, x22, x23, x24, x25, .val (.long q1), .second, .val (.long q2), .second, .val (.ref ao), .val (.ref b114), .val (.int (0 : Int32)), .val (.int (-1 : Int32)), .val (.int (1 : Int32)), .val (.int t2_.toInt32)] [])) _
      exact k
    · refine ⟨T124, T123.heap, _, .val (.ref b114), .val (.int (0 : Int32)), .val (.int (-1 : Int32)), .val (.int (0 : Int32)), .val (.int (-1 : Int32)), X124, eh124, N124, trivial, fun target k => ?_⟩
      show Steps p.tables e below (T.setTop (mkF m 234 #[x0, x1, x2, x3, x4, x5, x6, x7, x8, x9, x10, .val (.int N_.toInt32), .val (.long a), .second, .val (.long d), .second, .val (.long b), .second, x18, x19, x20, x21, x22, x23, x24, x25, .val (.long q1), .second, .val (.long q2), .second, .val (.ref ao), .unset, .unset, .unset, .unset, .unset] [])) _
      refine st114 _ ?_
      show Steps p.tables e below (T114.setTop (mkF m 237 #[x0, x1, x2, x3, x4, x5, x6, x7, x8, x9, x10, .val (.int N_.toInt32), .val (.long a), .second, .val (.long d), .second, .val (.long b), .second, x18, x19, x20, x21, x22, x23, x24, x25, .val (.long q1), .second, .val (.long q2), .second, .val (.ref ao), .unset, .unset, .unset, .unset, .unset] [(.ref b114)])) _
      refine XS.dup X114.here hx rfl (hb hby at_237) rfl rfl ?_
      show Steps p.tables e below (T114.setTop (mkF m 238 #[x0, x1, x2, x3, x4, x5, x6, x7, x8, x9, x10, .val (.int N_.toInt32), .val (.long a), .second, .val (.long d), .second, .val (.long b), .second, x18, x19, x20, x21, x22, x23, x24, x25, .val (.long q1), .second, .val (.long q2), .second, .val (.ref ao), .unset, .unset, .unset, .unset, .unset] [(.ref b114), (.ref b114)])) _
      refine XS.aload X114.here hx rfl (hb hby at_238) rfl rfl ?_
      show Steps p.tables e below (T114.setTop (mkF m 240 #[x0, x1, x2, x3, x4, x5, x6, x7, x8, x9, x10, .val (.int N_.toInt32), .val (.long a), .second, .val (.long d), .second, .val (.long b), .second, x18, x19, x20, x21, x22, x23, x24, x25, .val (.long q1), .second, .val (.long q2), .second, .val (.ref ao), .unset, .unset, .unset, .unset, .unset] [(.ref ao), (.ref b114), (.ref b114)])) _
      refine XS.dup X114.here hx rfl (hb hby at_240) rfl rfl ?_
      show Steps p.tables e below (T114.setTop (mkF m 241 #[x0, x1, x2, x3, x4, x5, x6, x7, x8, x9, x10, .val (.int N_.toInt32), .val (.long a), .second, .val (.long d), .second, .val (.long b), .second, x18, x19, x20, x21, x22, x23, x24, x25, .val (.long q1), .second, .val (.long q2), .second, .val (.ref ao), .unset, .unset, .unset, .unset, .unset] [(.ref ao), (.ref ao), (.ref b114), (.ref b114)])) _
      refine st115 _ ?_
      show Steps p.tables e below (T115.setTop (mkF m 244 #[x0, x1, x2, x3, x4, x5, x6, x7, x8, x9, x10, .val (.int N_.toInt32), .val (.long a), .second, .val (.long d), .second, .val (.long b), .second, x18, x19, x20, x21, x22, x23, x24, x25, .val (.long q1), .second, .val (.long q2), .second, .val (.ref ao), .unset, .unset, .unset, .unset, .unset] [(.ref ao), (.ref ao), (.ref b114), (.ref b114)])) _
      refine XT.pop X115.here hx rfl (hb hby at_244) rfl rfl ?_
      show Steps p.tables e below (T115.setTop (mkF m 245 #[x0, x1, x2, x3, x4, x5, x6, x7, x8, x9, x10, .val (.int N_.toInt32), .val (.long a), .second, .val (.long d), .second, .val (.long b), .second, x18, x19, x20, x21, x22, x23, x24, x25, .val (.long q1), .second, .val (.long q2), .second, .val (.ref ao), .unset, .unset, .unset, .unset, .unset] [(.ref ao), (.ref b114), (.ref b114)])) _
      refine st116.trans ?_
      show Steps p.tables e below (T116.setTop (mkF m 248 #[x0, x1, x2, x3, x4, x5, x6, x7, x8, x9, x10, .val (.int N_.toInt32), .val (.long a), .second, .val (.long d), .second, .val (.long b), .second, x18, x19, x20, x21, x22, x23, x24, x25, .val (.long q1), .second, .val (.long q2), .second, .val (.ref ao), .unset, .unset, .unset, .unset, .unset] [(.ref b114)])) _
      refine XS.astore X116.here hx rfl (hb hby at_248) rfl rfl (l' := #[x0, x1, x2, x3, x4, x5, x6, x7, x8, x9, x10, .val (.int N_.toInt32), .val (.long a), .second, .val (.long d), .second, .val (.long b), .second, x18, x19, x20, x21, x22, x23, x24, x25, .val (.long q1), .second, .val (.long q2), .second, .val (.ref ao), .val (.ref b114), .unset, .unset, .unset, .unset]) rfl ?_
      show Steps p.tables e below (T116.setTop (mkF m 250 #[x0, x1, x2, x3, x4, x5, x6, x7, x8, x9, x10, .val (.int N_.toInt32), .val (.long a), .second, .val (.long d), .second, .val (.long b), .second, x18, x19, x20, x21, x22, x23, x24, x25, .val (.long q1), .second, .val (.long q2), .second, .val (.ref ao), .val (.ref b114), .unset, .unset, .unset, .unset] [])) _
      refine XS.aload X116.here hx rfl (hb hby at_250) rfl rfl ?_
      show Steps p.tables e below (T116.setTop (mkF m 252 #[x0, x1, x2, x3, x4, x5, x6, x7, x8, x9, x10, .val (.int N_.toInt32), .val (.long a), .second, .val (.long d), .second, .val (.long b), .second, x18, x19, x20, x21, x22, x23, x24, x25, .val (.long q1), .second, .val (.long q2), .second, .val (.ref ao), .val (.ref b114), .unset, .unset, .unset, .unset] [(.ref b114)])) _
      refine XT.lload X116.here hx rfl (hb hby at_252) rfl ?_
      show Steps p.tables e below (T116.setTop (mkF m 254 #[x0, x1, x2, x3, x4, x5, x6, x7, x8, x9, x10, .val (.int N_.toInt32), .val (.long a), .second, .val (.long d), .second, .val (.long b), .second, x18, x19, x20, x21, x22, x23, x24, x25, .val (.long q1), .second, .val (.long q2), .second, .val (.ref ao), .val (.ref b114), .unset, .unset, .unset, .unset] [(.long q1), (.ref b114)])) _
      refine st117.trans ?_
      show Steps p.tables e below (T117.setTop (mkF m 257 #[x0, x1, x2, x3, x4, x5, x6, x7, x8, x9, x10, .val (.int N_.toInt32), .val (.long a), .second, .val (.long d), .second, .val (.long b), .second, x18, x19, x20, x21, x22, x23, x24, x25, .val (.long q1), .second, .val (.long q2), .second, .val (.ref ao), .val (.ref b114), .unset, .unset, .unset, .unset] [(.int (if (t1_ < N_ ∧ (own_e a b d) t1_ = q1) then (1 : Int32) else (0 : Int32)))])) _
      refine XS.istore X117.here hx rfl (hb hby at_257) rfl (l' := #[x0, x1, x2, x3, x4, x5, x6, x7, x8, x9, x10, .val (.int N_.toInt32), .val (.long a), .second, .val (.long d), .second, .val (.long b), .second, x18, x19, x20, x21, x22, x23, x24, x25, .val (.long q1), .second, .val (.long q2), .second, .val (.ref ao), .val (.ref b114), .val (.int (if (t1_ < N_ ∧ (own_e a b d) t1_ = q1) then (1 : Int32) else (0 : Int32))), .unset, .unset, .unset]) rfl ?_
      show Steps p.tables e below (T117.setTop (mkF m 259 #[x0, x1, x2, x3, x4, x5, x6, x7, x8, x9, x10, .val (.int N_.toInt32), .val (.long a), .second, .val (.long d), .second, .val (.long b), .second, x18, x19, x20, x21, x22, x23, x24, x25, .val (.long q1), .second, .val (.long q2), .second, .val (.ref ao), .val (.ref b114), .val (.int (if (t1_ < N_ ∧ (own_e a b d) t1_ = q1) then (1 : Int32) else (0 : Int32))), .unset, .unset, .unset] [])) _
      refine XT.lload X117.here hx rfl (hb hby at_259) rfl ?_
      show Steps p.tables e below (T117.setTop (mkF m 261 #[x0, x1, x2, x3, x4, x5, x6, x7, x8, x9, x10, .val (.int N_.toInt32), .val (.long a), .second, .val (.long d), .second, .val (.long b), .second, x18, x19, x20, x21, x22, x23, x24, x25, .val (.long q1), .second, .val (.long q2), .second, .val (.ref ao), .val (.ref b114), .val (.int (if (t1_ < N_ ∧ (own_e a b d) t1_ = q1) then (1 : Int32) else (0 : Int32))), .unset, .unset, .unset] [(.long q1)])) _
      refine XS.iload X117.here hx rfl (hb hby at_261) rfl ?_
      show Steps p.tables e below (T117.setTop (mkF m 263 #[x0, x1, x2, x3, x4, x5, x6, x7, x8, x9, x10, .val (.int N_.toInt32), .val (.long a), .second, .val (.long d), .second, .val (.long b), .second, x18, x19, x20, x21, x22, x23, x24, x25, .val (.long q1), .second, .val (.long q2), .second, .val (.ref ao), .val (.ref b114), .val (.int (if (t1_ < N_ ∧ (own_e a b d) t1_ = q1) then (1 : Int32) else (0 : Int32))), .unset, .unset, .unset] [(.int N_.toInt32), (.long q1)])) _
      refine XT.lload X117.here hx rfl (hb hby at_263) rfl ?_
      show Steps p.tables e below (T117.setTop (mkF m 265 #[x0, x1, x2, x3, x4, x5, x6, x7, x8, x9, x10, .val (.int N_.toInt32), .val (.long a), .second, .val (.long d), .second, .val (.long b), .second, x18, x19, x20, x21, x22, x23, x24, x25, .val (.long q1), .second, .val (.long q2), .second, .val (.ref ao), .val (.ref b114), .val (.int (if (t1_ < N_ ∧ (own_e a b d) t1_ = q1) then (1 : Int32) else (0 : Int32))), .unset, .unset, .unset] [(.long a), (.int N_.toInt32), (.long q1)])) _
      refine XT.lload X117.here hx rfl (hb hby at_265) rfl ?_
      show Steps p.tables e below (T117.setTop (mkF m 267 #[x0, x1, x2, x3, x4, x5, x6, x7, x8, x9, x10, .val (.int N_.toInt32), .val (.long a), .second, .val (.long d), .second, .val (.long b), .second, x18, x19, x20, x21, x22, x23, x24, x25, .val (.long q1), .second, .val (.long q2), .second, .val (.ref ao), .val (.ref b114), .val (.int (if (t1_ < N_ ∧ (own_e a b d) t1_ = q1) then (1 : Int32) else (0 : Int32))), .unset, .unset, .unset] [(.long b), (.long a), (.int N_.toInt32), (.long q1)])) _
      refine XT.lload X117.here hx rfl (hb hby at_267) rfl ?_
      show Steps p.tables e below (T117.setTop (mkF m 269 #[x0, x1, x2, x3, x4, x5, x6, x7, x8, x9, x10, .val (.int N_.toInt32), .val (.long a), .second, .val (.long d), .second, .val (.long b), .second, x18, x19, x20, x21, x22, x23, x24, x25, .val (.long q1), .second, .val (.long q2), .second, .val (.ref ao), .val (.ref b114), .val (.int (if (t1_ < N_ ∧ (own_e a b d) t1_ = q1) then (1 : Int32) else (0 : Int32))), .unset, .unset, .unset] [(.long d), (.long b), (.long a), (.int N_.toInt32), (.long q1)])) _
      refine st118 _ ?_
      show Steps p.tables e below (T118.setTop (mkF m 272 #[x0, x1, x2, x3, x4, x5, x6, x7, x8, x9, x10, .val (.int N_.toInt32), .val (.long a), .second, .val (.long d), .second, .val (.long b), .second, x18, x19, x20, x21, x22, x23, x24, x25, .val (.long q1), .second, .val (.long q2), .second, .val (.ref ao), .val (.ref b114), .val (.int (if (t1_ < N_ ∧ (own_e a b d) t1_ = q1) then (1 : Int32) else (0 : Int32))), .unset, .unset, .unset] [(.int (own_idx q1 N_.toInt32 a b d))])) _
      refine XS.istore X118.here hx rfl (hb hby at_272) rfl (l' := #[x0, x1, x2, x3, x4, x5, x6, x7, x8, x9, x10, .val (.int N_.toInt32), .val (.long a), .second, .val (.long d), .second, .val (.long b), .second, x18, x19, x20, x21, x22, x23, x24, x25, .val (.long q1), .second, .val (.long q2), .second, .val (.ref ao), .val (.ref b114), .val (.int (if (t1_ < N_ ∧ (own_e a b d) t1_ = q1) then (1 : Int32) else (0 : Int32))), .val (.int (own_idx q1 N_.toInt32 a b d)), .unset, .unset]) rfl ?_
      show Steps p.tables e below (T118.setTop (mkF m 274 #[x0, x1, x2, x3, x4, x5, x6, x7, x8, x9, x10, .val (.int N_.toInt32), .val (.long a), .second, .val (.long d), .second, .val (.long b), .second, x18, x19, x20, x21, x22, x23, x24, x25, .val (.long q1), .second, .val (.long q2), .second, .val (.ref ao), .val (.ref b114), .val (.int (if (t1_ < N_ ∧ (own_e a b d) t1_ = q1) then (1 : Int32) else (0 : Int32))), .val (.int (own_idx q1 N_.toInt32 a b d)), .unset, .unset] [])) _
      rw [if_neg hP1, own_idxF q1 a b d N_ hN (own_none q1 _ N_ t1_ hasc low1 d1 hP1)]
      show Steps p.tables e below (T118.setTop (mkF m 274 #[x0, x1, x2, x3, x4, x5, x6, x7, x8, x9, x10, .val (.int N_.toInt32), .val (.long a), .second, .val (.long d), .second, .val (.long b), .second, x18, x19, x20, x21, x22, x23, x24, x25, .val (.long q1), .second, .val (.long q2), .second, .val (.ref ao), .val (.ref b114), .val (.int (0 : Int32)), .val (.int (-1 : Int32)), .unset, .unset] [])) _
      refine XS.iload X118.here hx rfl (hb hby at_274) rfl ?_
      show Steps p.tables e below (T118.setTop (mkF m 276 #[x0, x1, x2, x3, x4, x5, x6, x7, x8, x9, x10, .val (.int N_.toInt32), .val (.long a), .second, .val (.long d), .second, .val (.long b), .second, x18, x19, x20, x21, x22, x23, x24, x25, .val (.long q1), .second, .val (.long q2), .second, .val (.ref ao), .val (.ref b114), .val (.int (0 : Int32)), .val (.int (-1 : Int32)), .unset, .unset] [(.int (0 : Int32))])) _
      refine XS.iload X118.here hx rfl (hb hby at_276) rfl ?_
      show Steps p.tables e below (T118.setTop (mkF m 278 #[x0, x1, x2, x3, x4, x5, x6, x7, x8, x9, x10, .val (.int N_.toInt32), .val (.long a), .second, .val (.long d), .second, .val (.long b), .second, x18, x19, x20, x21, x22, x23, x24, x25, .val (.long q1), .second, .val (.long q2), .second, .val (.ref ao), .val (.ref b114), .val (.int (0 : Int32)), .val (.int (-1 : Int32)), .unset, .unset] [(.int (-1 : Int32)), (.int (0 : Int32))])) _
      refine XS.ifYes X118.here hx rfl (pc0 := 278) (pc' := 285) rfl (hb hby at_278) rfl (XT.i0_lt_t (by decide)) (by decide) (by decide) ?_
      show Steps p.tables e below (T118.setTop (mkF m 285 #[x0, x1, x2, x3, x4, x5, x6, x7, x8, x9, x10, .val (.int N_.toInt32), .val (.long a), .second, .val (.long d), .second, .val (.long b), .second, x18, x19, x20, x21, x22, x23, x24, x25, .val (.long q1), .second, .val (.long q2), .second, .val (.ref ao), .val (.ref b114), .val (.int (0 : Int32)), .val (.int (-1 : Int32)), .unset, .unset] [(.int (0 : Int32))])) _
      refine XS.iconst X118.here hx rfl (hb hby at_285) ?_
      show Steps p.tables e below (T118.setTop (mkF m 286 #[x0, x1, x2, x3, x4, x5, x6, x7, x8, x9, x10, .val (.int N_.toInt32), .val (.long a), .second, .val (.long d), .second, .val (.long b), .second, x18, x19, x20, x21, x22, x23, x24, x25, .val (.long q1), .second, .val (.long q2), .second, .val (.ref ao), .val (.ref b114), .val (.int (0 : Int32)), .val (.int (-1 : Int32)), .unset, .unset] [(.int (0 : Int32)), (.int (0 : Int32))])) _
      refine XS.icmpYes X118.here hx rfl (pc0 := 286) (pc' := 291) rfl (hb hby at_286) rfl (XT.ii_eq_t (by decide)) (by decide) (by decide) ?_
      show Steps p.tables e below (T118.setTop (mkF m 291 #[x0, x1, x2, x3, x4, x5, x6, x7, x8, x9, x10, .val (.int N_.toInt32), .val (.long a), .second, .val (.long d), .second, .val (.long b), .second, x18, x19, x20, x21, x22, x23, x24, x25, .val (.long q1), .second, .val (.long q2), .second, .val (.ref ao), .val (.ref b114), .val (.int (0 : Int32)), .val (.int (-1 : Int32)), .unset, .unset] [])) _
      refine XS.iload X118.here hx rfl (hb hby at_291) rfl ?_
      show Steps p.tables e below (T118.setTop (mkF m 293 #[x0, x1, x2, x3, x4, x5, x6, x7, x8, x9, x10, .val (.int N_.toInt32), .val (.long a), .second, .val (.long d), .second, .val (.long b), .second, x18, x19, x20, x21, x22, x23, x24, x25, .val (.long q1), .second, .val (.long q2), .second, .val (.ref ao), .val (.ref b114), .val (.int (0 : Int32)), .val (.int (-1 : Int32)), .unset, .unset] [(.int (0 : Int32))])) _
      refine XS.ifYes X118.here hx rfl (pc0 := 293) (pc' := 312) rfl (hb hby at_293) rfl (XT.i0_eq_t (by decide)) (by decide) (by decide) ?_
      show Steps p.tables e below (T118.setTop (mkF m 312 #[x0, x1, x2, x3, x4, x5, x6, x7, x8, x9, x10, .val (.int N_.toInt32), .val (.long a), .second, .val (.long d), .second, .val (.long b), .second, x18, x19, x20, x21, x22, x23, x24, x25, .val (.long q1), .second, .val (.long q2), .second, .val (.ref ao), .val (.ref b114), .val (.int (0 : Int32)), .val (.int (-1 : Int32)), .unset, .unset] [])) _
      refine XS.aload X118.here hx rfl (hb hby at_312) rfl rfl ?_
      show Steps p.tables e below (T118.setTop (mkF m 314 #[x0, x1, x2, x3, x4, x5, x6, x7, x8, x9, x10, .val (.int N_.toInt32), .val (.long a), .second, .val (.long d), .second, .val (.long b), .second, x18, x19, x20, x21, x22, x23, x24, x25, .val (.long q1), .second, .val (.long q2), .second, .val (.ref ao), .val (.ref b114), .val (.int (0 : Int32)), .val (.int (-1 : Int32)), .unset, .unset] [(.ref b114)])) _
      refine XT.lload X118.here hx rfl (hb hby at_314) rfl ?_
      show Steps p.tables e below (T118.setTop (mkF m 316 #[x0, x1, x2, x3, x4, x5, x6, x7, x8, x9, x10, .val (.int N_.toInt32), .val (.long a), .second, .val (.long d), .second, .val (.long b), .second, x18, x19, x20, x21, x22, x23, x24, x25, .val (.long q1), .second, .val (.long q2), .second, .val (.ref ao), .val (.ref b114), .val (.int (0 : Int32)), .val (.int (-1 : Int32)), .unset, .unset] [(.long q2), (.ref b114)])) _
      refine st123.trans ?_
      show Steps p.tables e below (T123.setTop (mkF m 319 #[x0, x1, x2, x3, x4, x5, x6, x7, x8, x9, x10, .val (.int N_.toInt32), .val (.long a), .second, .val (.long d), .second, .val (.long b), .second, x18, x19, x20, x21, x22, x23, x24, x25, .val (.long q1), .second, .val (.long q2), .second, .val (.ref ao), .val (.ref b114), .val (.int (0 : Int32)), .val (.int (-1 : Int32)), .unset, .unset] [(.int (if (t2_ < N_ ∧ (own_e a b d) t2_ = q2) then (1 : Int32) else (0 : Int32)))])) _
      refine XS.istore X123.here hx rfl (hb hby at_319) rfl (l' := #[x0, x1, x2, x3, x4, x5, x6, x7, x8, x9, x10, .val (.int N_.toInt32), .val (.long a), .second, .val (.long d), .second, .val (.long b), .second, x18, x19, x20, x21, x22, x23, x24, x25, .val (.long q1), .second, .val (.long q2), .second, .val (.ref ao), .val (.ref b114), .val (.int (0 : Int32)), .val (.int (-1 : Int32)), .val (.int (if (t2_ < N_ ∧ (own_e a b d) t2_ = q2) then (1 : Int32) else (0 : Int32))), .unset]) rfl ?_
      show Steps p.tables e below (T123.setTop (mkF m 321 #[x0, x1, x2, x3, x4, x5, x6, x7, x8, x9, x10, .val (.int N_.toInt32), .val (.long a), .second, .val (.long d), .second, .val (.long b), .second, x18, x19, x20, x21, x22, x23, x24, x25, .val (.long q1), .second, .val (.long q2), .second, .val (.ref ao), .val (.ref b114), .val (.int (0 : Int32)), .val (.int (-1 : Int32)), .val (.int (if (t2_ < N_ ∧ (own_e a b d) t2_ = q2) then (1 : Int32) else (0 : Int32))), .unset] [])) _
      refine XT.lload X123.here hx rfl (hb hby at_321) rfl ?_
      show Steps p.tables e below (T123.setTop (mkF m 323 #[x0, x1, x2, x3, x4, x5, x6, x7, x8, x9, x10, .val (.int N_.toInt32), .val (.long a), .second, .val (.long d), .second, .val (.long b), .second, x18, x19, x20, x21, x22, x23, x24, x25, .val (.long q1), .second, .val (.long q2), .second, .val (.ref ao), .val (.ref b114), .val (.int (0 : Int32)), .val (.int (-1 : Int32)), .val (.int (if (t2_ < N_ ∧ (own_e a b d) t2_ = q2) then (1 : Int32) else (0 : Int32))), .unset] [(.long q2)])) _
      refine XS.iload X123.here hx rfl (hb hby at_323) rfl ?_
      show Steps p.tables e below (T123.setTop (mkF m 325 #[x0, x1, x2, x3, x4, x5, x6, x7, x8, x9, x10, .val (.int N_.toInt32), .val (.long a), .second, .val (.long d), .second, .val (.long b), .second, x18, x19, x20, x21, x22, x23, x24, x25, .val (.long q1), .second, .val (.long q2), .second, .val (.ref ao), .val (.ref b114), .val (.int (0 : Int32)), .val (.int (-1 : Int32)), .val (.int (if (t2_ < N_ ∧ (own_e a b d) t2_ = q2) then (1 : Int32) else (0 : Int32))), .unset] [(.int N_.toInt32), (.long q2)])) _
      refine XT.lload X123.here hx rfl (hb hby at_325) rfl ?_
      show Steps p.tables e below (T123.setTop (mkF m 327 #[x0, x1, x2, x3, x4, x5, x6, x7, x8, x9, x10, .val (.int N_.toInt32), .val (.long a), .second, .val (.long d), .second, .val (.long b), .second, x18, x19, x20, x21, x22, x23, x24, x25, .val (.long q1), .second, .val (.long q2), .second, .val (.ref ao), .val (.ref b114), .val (.int (0 : Int32)), .val (.int (-1 : Int32)), .val (.int (if (t2_ < N_ ∧ (own_e a b d) t2_ = q2) then (1 : Int32) else (0 : Int32))), .unset] [(.long a), (.int N_.toInt32), (.long q2)])) _
      refine XT.lload X123.here hx rfl (hb hby at_327) rfl ?_
      show Steps p.tables e below (T123.setTop (mkF m 329 #[x0, x1, x2, x3, x4, x5, x6, x7, x8, x9, x10, .val (.int N_.toInt32), .val (.long a), .second, .val (.long d), .second, .val (.long b), .second, x18, x19, x20, x21, x22, x23, x24, x25, .val (.long q1), .second, .val (.long q2), .second, .val (.ref ao), .val (.ref b114), .val (.int (0 : Int32)), .val (.int (-1 : Int32)), .val (.int (if (t2_ < N_ ∧ (own_e a b d) t2_ = q2) then (1 : Int32) else (0 : Int32))), .unset] [(.long b), (.long a), (.int N_.toInt32), (.long q2)])) _
      refine XT.lload X123.here hx rfl (hb hby at_329) rfl ?_
      show Steps p.tables e below (T123.setTop (mkF m 331 #[x0, x1, x2, x3, x4, x5, x6, x7, x8, x9, x10, .val (.int N_.toInt32), .val (.long a), .second, .val (.long d), .second, .val (.long b), .second, x18, x19, x20, x21, x22, x23, x24, x25, .val (.long q1), .second, .val (.long q2), .second, .val (.ref ao), .val (.ref b114), .val (.int (0 : Int32)), .val (.int (-1 : Int32)), .val (.int (if (t2_ < N_ ∧ (own_e a b d) t2_ = q2) then (1 : Int32) else (0 : Int32))), .unset] [(.long d), (.long b), (.long a), (.int N_.toInt32), (.long q2)])) _
      refine st124 _ ?_
      show Steps p.tables e below (T124.setTop (mkF m 334 #[x0, x1, x2, x3, x4, x5, x6, x7, x8, x9, x10, .val (.int N_.toInt32), .val (.long a), .second, .val (.long d), .second, .val (.long b), .second, x18, x19, x20, x21, x22, x23, x24, x25, .val (.long q1), .second, .val (.long q2), .second, .val (.ref ao), .val (.ref b114), .val (.int (0 : Int32)), .val (.int (-1 : Int32)), .val (.int (if (t2_ < N_ ∧ (own_e a b d) t2_ = q2) then (1 : Int32) else (0 : Int32))), .unset] [(.int (own_idx q2 N_.toInt32 a b d))])) _
      refine XS.istore X124.here hx rfl (hb hby at_334) rfl (l' := #[x0, x1, x2, x3, x4, x5, x6, x7, x8, x9, x10, .val (.int N_.toInt32), .val (.long a), .second, .val (.long d), .second, .val (.long b), .second, x18, x19, x20, x21, x22, x23, x24, x25, .val (.long q1), .second, .val (.long q2), .second, .val (.ref ao), .val (.ref b114), .val (.int (0 : Int32)), .val (.int (-1 : Int32)), .val (.int (if (t2_ < N_ ∧ (own_e a b d) t2_ = q2) then (1 : Int32) else (0 : Int32))), .val (.int (own_idx q2 N_.toInt32 a b d))]) rfl ?_
      show Steps p.tables e below (T124.setTop (mkF m 336 #[x0, x1, x2, x3, x4, x5, x6, x7, x8, x9, x10, .val (.int N_.toInt32), .val (.long a), .second, .val (.long d), .second, .val (.long b), .second, x18, x19, x20, x21, x22, x23, x24, x25, .val (.long q1), .second, .val (.long q2), .second, .val (.ref ao), .val (.ref b114), .val (.int (0 : Int32)), .val (.int (-1 : Int32)), .val (.int (if (t2_ < N_ ∧ (own_e a b d) t2_ = q2) then (1 : Int32) else (0 : Int32))), .val (.int (own_idx q2 N_.toInt32 a b d))] [])) _
      rw [if_neg hP2, own_idxF q2 a b d N_ hN (own_none q2 _ N_ t2_ hasc low2 d2 hP2)]
      show Steps p.tables e below (T124.setTop (mkF m 336 #[x0, x1, x2, x3, x4, x5, x6, x7, x8, x9, x10, .val (.int N_.toInt32), .val (.long a), .second, .val (.long d), .second, .val (.long b), .second, x18, x19, x20, x21, x22, x23, x24, x25, .val (.long q1), .second, .val (.long q2), .second, .val (.ref ao), .val (.ref b114), .val (.int (0 : Int32)), .val (.int (-1 : Int32)), .val (.int (0 : Int32)), .val (.int (-1 : Int32))] [])) _
      refine XS.iload X124.here hx rfl (hb hby at_336) rfl ?_
      show Steps p.tables e below (T124.setTop (mkF m 338 #[x0, x1, x2, x3, x4, x5, x6, x7, x8, x9, x10, .val (.int N_.toInt32), .val (.long a), .second, .val (.long d), .second, .val (.long b), .second, x18, x19, x20, x21, x22, x23, x24, x25, .val (.long q1), .second, .val (.long q2), .second, .val (.ref ao), .val (.ref b114), .val (.int (0 : Int32)), .val (.int (-1 : Int32)), .val (.int (0 : Int32)), .val (.int (-1 : Int32))] [(.int (0 : Int32))])) _
      refine XS.iload X124.here hx rfl (hb hby at_338) rfl ?_
      show Steps p.tables e below (T124.setTop (mkF m 340 #[x0, x1, x2, x3, x4, x5, x6, x7, x8, x9, x10, .val (.int N_.toInt32), .val (.long a), .second, .val (.long d), .second, .val (.long b), .second, x18, x19, x20, x21, x22, x23, x24, x25, .val (.long q1), .second, .val (.long q2), .second, .val (.ref ao), .val (.ref b114), .val (.int (0 : Int32)), .val (.int (-1 : Int32)), .val (.int (0 : Int32)), .val (.int (-1 : Int32))] [(.int (-1 : Int32)), (.int (0 : Int32))])) _
      refine XS.ifYes X124.here hx rfl (pc0 := 340) (pc' := 347) rfl (hb hby at_340) rfl (XT.i0_lt_t (by decide)) (by decide) (by decide) ?_
      show Steps p.tables e below (T124.setTop (mkF m 347 #[x0, x1, x2, x3, x4, x5, x6, x7, x8, x9, x10, .val (.int N_.toInt32), .val (.long a), .second, .val (.long d), .second, .val (.long b), .second, x18, x19, x20, x21, x22, x23, x24, x25, .val (.long q1), .second, .val (.long q2), .second, .val (.ref ao), .val (.ref b114), .val (.int (0 : Int32)), .val (.int (-1 : Int32)), .val (.int (0 : Int32)), .val (.int (-1 : Int32))] [(.int (0 : Int32))])) _
      refine XS.iconst X124.here hx rfl (hb hby at_347) ?_
      show Steps p.tables e below (T124.setTop (mkF m 348 #[x0, x1, x2, x3, x4, x5, x6, x7, x8, x9, x10, .val (.int N_.toInt32), .val (.long a), .second, .val (.long d), .second, .val (.long b), .second, x18, x19, x20, x21, x22, x23, x24, x25, .val (.long q1), .second, .val (.long q2), .second, .val (.ref ao), .val (.ref b114), .val (.int (0 : Int32)), .val (.int (-1 : Int32)), .val (.int (0 : Int32)), .val (.int (-1 : Int32))] [(.int (0 : Int32)), (.int (0 : Int32))])) _
      refine XS.icmpYes X124.here hx rfl (pc0 := 348) (pc' := 353) rfl (hb hby at_348) rfl (XT.ii_eq_t (by decide)) (by decide) (by decide) ?_
      show Steps p.tables e below (T124.setTop (mkF m 353 #[x0, x1, x2, x3, x4, x5, x6, x7, x8, x9, x10, .val (.int N_.toInt32), .val (.long a), .second, .val (.long d), .second, .val (.long b), .second, x18, x19, x20, x21, x22, x23, x24, x25, .val (.long q1), .second, .val (.long q2), .second, .val (.ref ao), .val (.ref b114), .val (.int (0 : Int32)), .val (.int (-1 : Int32)), .val (.int (0 : Int32)), .val (.int (-1 : Int32))] [])) _
      refine XS.iload X124.here hx rfl (hb hby at_353) rfl ?_
      show Steps p.tables e below (T124.setTop (mkF m 355 #[x0, x1, x2, x3, x4, x5, x6, x7, x8, x9, x10, .val (.int N_.toInt32), .val (.long a), .second, .val (.long d), .second, .val (.long b), .second, x18, x19, x20, x21, x22, x23, x24, x25, .val (.long q1), .second, .val (.long q2), .second, .val (.ref ao), .val (.ref b114), .val (.int (0 : Int32)), .val (.int (-1 : Int32)), .val (.int (0 : Int32)), .val (.int (-1 : Int32))] [(.int (0 : Int32))])) _
      refine XS.ifYes X124.here hx rfl (pc0 := 355) (pc' := 374) rfl (hb hby at_355) rfl (XT.i0_eq_t (by decide)) (by decide) (by decide) ?_
      show Steps p.tables e below (T124.setTop (mkF m 374 #[x0, x1, x2, x3, x4, x5, x6, x7, x8, x9, x10, .val (.int N_.toInt32), .val (.long a), .second, .val (.long d), .second, .val (.long b), .second, x18, x19, x20, x21, x22, x23, x24, x25, .val (.long q1), .second, .val (.long q2), .second, .val (.ref ao), .val (.ref b114), .val (.int (0 : Int32)), .val (.int (-1 : Int32)), .val (.int (0 : Int32)), .val (.int (-1 : Int32))] [])) _
      exact k
set_option maxRecDepth 65536 in
set_option maxHeartbeats 40000000 in
theorem own_sA {p : Program} {l : Launch} {e : Env} {s : State} {m : MethodId} {args : Array Value} {below : List Frame} {meth : Method} {c : Code} {T : State} {locs : List Loc} {Z : State} {a0 : Array Value} {h : Heap} {n0 : Nat} (hw : ∀ d ∈ tables_1, d.before a0 Z = true) (X : Stand p l e room_1 s m args below meth c T locs 0 0) (hx : p.tables.exec = Jvm.exec) (hZ : Z.Warmed39 s.vm) (hby : c.code = code) (hml : c.maxLocals = 36) (hown : s.vm.findClass "com/example/xml_element_search/xmlelementsearch/ElementScoresHoldsPinLaw" = some m.cls) (eT : T.heap = h) (N : Fr n0 locs) (Z0 : n0 ≤ h.size) (vx : Int64) (vy : Int64) (vz : Int64) (x6 : Slot) (x7 : Slot) (x8 : Slot) (x9 : Slot) (x10 : Slot) (x11 : Slot) (x18 : Slot) (x19 : Slot) (x20 : Slot) (x21 : Slot) (x22 : Slot) (x23 : Slot) (x24 : Slot) (x25 : Slot) (x26 : Slot) (x27 : Slot) (x28 : Slot) (x29 : Slot) (x30 : Slot) (x31 : Slot) (x32 : Slot) (x33 : Slot) (x34 : Slot) (x35 : Slot) (a : Int64) (b : Int64) (d : Int64) (hA : (if (if vz < vy then vz else vy) < vx then (if vz < vy then vz else vy) else vx) = a) (hC : (if vx < (if vy < vz then vz else vy) then (if vy < vz then vz else vy) else vx) = d) (hB : (if (if vy < vx then vy else vx) < (if vz < (if vx < vy then vy else vx) then vz else (if vx < vy then vy else vx)) then (if vz < (if vx < vy then vy else vx) then vz else (if vx < vy then vy else vx)) else (if vy < vx then vy else vx)) = b) :
    ∃ T' L', Stand p l e room_1 s m args below meth c T' L' 0 0 ∧ T'.heap = h ∧ Fr n0 L' ∧ ∀ target, Steps p.tables e below (T'.setTop (mkF m 50 #[.val (.long vx), .second, .val (.long vy), .second, .val (.long vz), .second, x6, x7, x8, x9, x10, x11, .val (.long a), .second, .val (.long d), .second, .val (.long b), .second, x18, x19, x20, x21, x22, x23, x24, x25, x26, x27, x28, x29, x30, x31, x32, x33, x34, x35] [])) target → Steps p.tables e below (T.setTop (mkF m 6 #[.val (.long vx), .second, .val (.long vy), .second, .val (.long vz), .second, x6, x7, x8, x9, x10, x11, .unset, .unset, .unset, .unset, .unset, .unset, x18, x19, x20, x21, x22, x23, x24, x25, x26, x27, x28, x29, x30, x31, x32, x33, x34, x35] [])) target := by
  obtain ⟨_, _, ⟨T126, L126, k126, n126⟩, -, X126, ⟨Lc126, hQ126, l126, y126, z126⟩, st126⟩ := Jvm.LawKit.callS X hx (y := (⟨"java/lang/Math", "min", "(JJ)J"⟩ : MethodName)) hown (mvT hZ (hw _ (List.mem_of_getElem? (i := 0) rfl))) (mvT hZ (hw _ (List.mem_of_getElem? (i := 1) rfl))) (mvT hZ (hw _ (List.mem_of_getElem? (i := 2) rfl))) (mvT hZ (hw _ (List.mem_of_getElem? (i := 3) rfl))) (by decide) (backOf (W := 2) (own_min l Z a0 hw [] vy vz h n0 Z0 ) hZ (hw _ (List.mem_of_getElem? (i := 3) rfl)) (hw _ (List.mem_of_getElem? (i := 2) rfl)) (by decide) (by decide)) (g := (mkF m 10 #[.val (.long vx), .second, .val (.long vy), .second, .val (.long vz), .second, x6, x7, x8, x9, x10, x11, .unset, .unset, .unset, .unset, .unset, .unset, x18, x19, x20, x21, x22, x23, x24, x25, x26, x27, x28, x29, x30, x31, x32, x33, x34, x35] [(.long vz), (.long vy), (.long vx)])) rfl (by rw [hml]; rfl) (argsL := [(.long vy), (.long vz)]) (rest := [(.long vx)]) (lenOf pd_7 rfl) rfl (by show 2 * 0 + _ ≤ _; exact Nat.le_of_eq rfl) (hb hby at_10) (fun _ _ => ⟨rfl, eT, (by decide : 0 + 0 ≤ _), (by decide : 0 + 0 ≤ _)⟩)
  dsimp only [Pt.U, Pt.locs, Pt.cells, Pt.slots] at X126 l126 y126 z126 st126 hQ126
  subst l126 y126 z126
  obtain ⟨rfl, N126q, eh126⟩ := hQ126
  have N126 := Fr.app N N126q
  obtain ⟨_, _, ⟨T127, L127, k127, n127⟩, -, X127, ⟨Lc127, hQ127, l127, y127, z127⟩, st127⟩ := Jvm.LawKit.callS X126 hx (y := (⟨"java/lang/Math", "min", "(JJ)J"⟩ : MethodName)) hown (mvT hZ (hw _ (List.mem_of_getElem? (i := 0) rfl))) (mvT hZ (hw _ (List.mem_of_getElem? (i := 1) rfl))) (mvT hZ (hw _ (List.mem_of_getElem? (i := 2) rfl))) (mvT hZ (hw _ (List.mem_of_getElem? (i := 3) rfl))) (by decide) (backOf (W := 0) (own_min l Z a0 hw [] vx (if vz < vy then vz else vy) h n0 Z0 ) hZ (hw _ (List.mem_of_getElem? (i := 3) rfl)) (hw _ (List.mem_of_getElem? (i := 2) rfl)) (by decide) (by decide)) (g := (mkF m 13 #[.val (.long vx), .second, .val (.long vy), .second, .val (.long vz), .second, x6, x7, x8, x9, x10, x11, .unset, .unset, .unset, .unset, .unset, .unset, x18, x19, x20, x21, x22, x23, x24, x25, x26, x27, x28, x29, x30, x31, x32, x33, x34, x35] [(.long (if vz < vy then vz else vy)), (.long vx)])) rfl (by rw [hml]; rfl) (argsL := [(.long vx), (.long (if vz < vy then vz else vy))]) (rest := []) (lenOf pd_7 rfl) rfl (by show 2 * 0 + _ ≤ _; exact Nat.le_of_eq rfl) (hb hby at_13) (fun _ _ => ⟨rfl, eh126, (by decide : 0 + 0 ≤ _), (by decide : 0 + 0 ≤ _)⟩)
  dsimp only [Pt.U, Pt.locs, Pt.cells, Pt.slots] at X127 l127 y127 z127 st127 hQ127
  subst l127 y127 z127
  obtain ⟨rfl, N127q, eh127⟩ := hQ127
  have N127 := Fr.app N126 N127q
  obtain ⟨_, _, ⟨T128, L128, k128, n128⟩, -, X128, ⟨Lc128, hQ128, l128, y128, z128⟩, st128⟩ := Jvm.LawKit.callS X127 hx (y := (⟨"java/lang/Math", "max", "(JJ)J"⟩ : MethodName)) hown (mvT hZ (hw _ (List.mem_of_getElem? (i := 4) rfl))) (mvT hZ (hw _ (List.mem_of_getElem? (i := 5) rfl))) (mvT hZ (hw _ (List.mem_of_getElem? (i := 2) rfl))) (mvT hZ (hw _ (List.mem_of_getElem? (i := 6) rfl))) (by decide) (backOf (W := 2) (own_max l Z a0 hw [] vy vz h n0 Z0 ) hZ (hw _ (List.mem_of_getElem? (i := 6) rfl)) (hw _ (List.mem_of_getElem? (i := 2) rfl)) (by decide) (by decide)) (g := (mkF m 22 #[.val (.long vx), .second, .val (.long vy), .second, .val (.long vz), .second, x6, x7, x8, x9, x10, x11, .val (.long a), .second, .unset, .unset, .unset, .unset, x18, x19, x20, x21, x22, x23, x24, x25, x26, x27, x28, x29, x30, x31, x32, x33, x34, x35] [(.long vz), (.long vy), (.long vx)])) rfl (by rw [hml]; rfl) (argsL := [(.long vy), (.long vz)]) (rest := [(.long vx)]) (lenOf pd_7 rfl) rfl (by show 2 * 0 + _ ≤ _; exact Nat.le_of_eq rfl) (hb hby at_22) (fun _ _ => ⟨rfl, eh127, (by decide : 0 + 0 ≤ _), (by decide : 0 + 0 ≤ _)⟩)
  dsimp only [Pt.U, Pt.locs, Pt.cells, Pt.slots] at X128 l128 y128 z128 st128 hQ128
  subst l128 y128 z128
  obtain ⟨rfl, N128q, eh128⟩ := hQ128
  have N128 := Fr.app N127 N128q
  obtain ⟨_, _, ⟨T129, L129, k129, n129⟩, -, X129, ⟨Lc129, hQ129, l129, y129, z129⟩, st129⟩ := Jvm.LawKit.callS X128 hx (y := (⟨"java/lang/Math", "max", "(JJ)J"⟩ : MethodName)) hown (mvT hZ (hw _ (List.mem_of_getElem? (i := 4) rfl))) (mvT hZ (hw _ (List.mem_of_getElem? (i := 5) rfl))) (mvT hZ (hw _ (List.mem_of_getElem? (i := 2) rfl))) (mvT hZ (hw _ (List.mem_of_getElem? (i := 6) rfl))) (by decide) (backOf (W := 0) (own_max l Z a0 hw [] vx (if vy < vz then vz else vy) h n0 Z0 ) hZ (hw _ (List.mem_of_getElem? (i := 6) rfl)) (hw _ (List.mem_of_getElem? (i := 2) rfl)) (by decide) (by decide)) (g := (mkF m 25 #[.val (.long vx), .second, .val (.long vy), .second, .val (.long vz), .second, x6, x7, x8, x9, x10, x11, .val (.long a), .second, .unset, .unset, .unset, .unset, x18, x19, x20, x21, x22, x23, x24, x25, x26, x27, x28, x29, x30, x31, x32, x33, x34, x35] [(.long (if vy < vz then vz else vy)), (.long vx)])) rfl (by rw [hml]; rfl) (argsL := [(.long vx), (.long (if vy < vz then vz else vy))]) (rest := []) (lenOf pd_7 rfl) rfl (by show 2 * 0 + _ ≤ _; exact Nat.le_of_eq rfl) (hb hby at_25) (fun _ _ => ⟨rfl, eh128, (by decide : 0 + 0 ≤ _), (by decide : 0 + 0 ≤ _)⟩)
  dsimp only [Pt.U, Pt.locs, Pt.cells, Pt.slots] at X129 l129 y129 z129 st129 hQ129
  subst l129 y129 z129
  obtain ⟨rfl, N129q, eh129⟩ := hQ129
  have N129 := Fr.app N128 N129q
  obtain ⟨_, _, ⟨T130, L130, k130, n130⟩, -, X130, ⟨Lc130, hQ130, l130, y130, z130⟩, st130⟩ := Jvm.LawKit.callS X129 hx (y := (⟨"java/lang/Math", "min", "(JJ)J"⟩ : MethodName)) hown (mvT hZ (hw _ (List.mem_of_getElem? (i := 0) rfl))) (mvT hZ (hw _ (List.mem_of_getElem? (i := 1) rfl))) (mvT hZ (hw _ (List.mem_of_getElem? (i := 2) rfl))) (mvT hZ (hw _ (List.mem_of_getElem? (i := 3) rfl))) (by decide) (backOf (W := 0) (own_min l Z a0 hw [] vx vy h n0 Z0 ) hZ (hw _ (List.mem_of_getElem? (i := 3) rfl)) (hw _ (List.mem_of_getElem? (i := 2) rfl)) (by decide) (by decide)) (g := (mkF m 32 #[.val (.long vx), .second, .val (.long vy), .second, .val (.long vz), .second, x6, x7, x8, x9, x10, x11, .val (.long a), .second, .val (.long d), .second, .unset, .unset, x18, x19, x20, x21, x22, x23, x24, x25, x26, x27, x28, x29, x30, x31, x32, x33, x34, x35] [(.long vy), (.long vx)])) rfl (by rw [hml]; rfl) (argsL := [(.long vx), (.long vy)]) (rest := []) (lenOf pd_7 rfl) rfl (by show 2 * 0 + _ ≤ _; exact Nat.le_of_eq rfl) (hb hby at_32) (fun _ _ => ⟨rfl, eh129, (by decide : 0 + 0 ≤ _), (by decide : 0 + 0 ≤ _)⟩)
  dsimp only [Pt.U, Pt.locs, Pt.cells, Pt.slots] at X130 l130 y130 z130 st130 hQ130
  subst l130 y130 z130
  obtain ⟨rfl, N130q, eh130⟩ := hQ130
  have N130 := Fr.app N129 N130q
  obtain ⟨_, _, ⟨T131, L131, k131, n131⟩, -, X131, ⟨Lc131, hQ131, l131, y131, z131⟩, st131⟩ := Jvm.LawKit.callS X130 hx (y := (⟨"java/lang/Math", "max", "(JJ)J"⟩ : MethodName)) hown (mvT hZ (hw _ (List.mem_of_getElem? (i := 4) rfl))) (mvT hZ (hw _ (List.mem_of_getElem? (i := 5) rfl))) (mvT hZ (hw _ (List.mem_of_getElem? (i := 2) rfl))) (mvT hZ (hw _ (List.mem_of_getElem? (i := 6) rfl))) (by decide) (backOf (W := 2) (own_max l Z a0 hw [] vx vy h n0 Z0 ) hZ (hw _ (List.mem_of_getElem? (i := 6) rfl)) (hw _ (List.mem_of_getElem? (i := 2) rfl)) (by decide) (by decide)) (g := (mkF m 37 #[.val (.long vx), .second, .val (.long vy), .second, .val (.long vz), .second, x6, x7, x8, x9, x10, x11, .val (.long a), .second, .val (.long d), .second, .unset, .unset, x18, x19, x20, x21, x22, x23, x24, x25, x26, x27, x28, x29, x30, x31, x32, x33, x34, x35] [(.long vy), (.long vx), (.long (if vy < vx then vy else vx))])) rfl (by rw [hml]; rfl) (argsL := [(.long vx), (.long vy)]) (rest := [(.long (if vy < vx then vy else vx))]) (lenOf pd_7 rfl) rfl (by show 2 * 0 + _ ≤ _; exact Nat.le_of_eq rfl) (hb hby at_37) (fun _ _ => ⟨rfl, eh130, (by decide : 0 + 0 ≤ _), (by decide : 0 + 0 ≤ _)⟩)
  dsimp only [Pt.U, Pt.locs, Pt.cells, Pt.slots] at X131 l131 y131 z131 st131 hQ131
  subst l131 y131 z131
  obtain ⟨rfl, N131q, eh131⟩ := hQ131
  have N131 := Fr.app N130 N131q
  obtain ⟨_, _, ⟨T132, L132, k132, n132⟩, -, X132, ⟨Lc132, hQ132, l132, y132, z132⟩, st132⟩ := Jvm.LawKit.callS X131 hx (y := (⟨"java/lang/Math", "min", "(JJ)J"⟩ : MethodName)) hown (mvT hZ (hw _ (List.mem_of_getElem? (i := 0) rfl))) (mvT hZ (hw _ (List.mem_of_getElem? (i := 1) rfl))) (mvT hZ (hw _ (List.mem_of_getElem? (i := 2) rfl))) (mvT hZ (hw _ (List.mem_of_getElem? (i := 3) rfl))) (by decide) (backOf (W := 2) (own_min l Z a0 hw [] (if vx < vy then vy else vx) vz h n0 Z0 ) hZ (hw _ (List.mem_of_getElem? (i := 3) rfl)) (hw _ (List.mem_of_getElem? (i := 2) rfl)) (by decide) (by decide)) (g := (mkF m 42 #[.val (.long vx), .second, .val (.long vy), .second, .val (.long vz), .second, x6, x7, x8, x9, x10, x11, .val (.long a), .second, .val (.long d), .second, .unset, .unset, x18, x19, x20, x21, x22, x23, x24, x25, x26, x27, x28, x29, x30, x31, x32, x33, x34, x35] [(.long vz), (.long (if vx < vy then vy else vx)), (.long (if vy < vx then vy else vx))])) rfl (by rw [hml]; rfl) (argsL := [(.long (if vx < vy then vy else vx)), (.long vz)]) (rest := [(.long (if vy < vx then vy else vx))]) (lenOf pd_7 rfl) rfl (by show 2 * 0 + _ ≤ _; exact Nat.le_of_eq rfl) (hb hby at_42) (fun _ _ => ⟨rfl, eh131, (by decide : 0 + 0 ≤ _), (by decide : 0 + 0 ≤ _)⟩)
  dsimp only [Pt.U, Pt.locs, Pt.cells, Pt.slots] at X132 l132 y132 z132 st132 hQ132
  subst l132 y132 z132
  obtain ⟨rfl, N132q, eh132⟩ := hQ132
  have N132 := Fr.app N131 N132q
  obtain ⟨_, _, ⟨T133, L133, k133, n133⟩, -, X133, ⟨Lc133, hQ133, l133, y133, z133⟩, st133⟩ := Jvm.LawKit.callS X132 hx (y := (⟨"java/lang/Math", "max", "(JJ)J"⟩ : MethodName)) hown (mvT hZ (hw _ (List.mem_of_getElem? (i := 4) rfl))) (mvT hZ (hw _ (List.mem_of_getElem? (i := 5) rfl))) (mvT hZ (hw _ (List.mem_of_getElem? (i := 2) rfl))) (mvT hZ (hw _ (List.mem_of_getElem? (i := 6) rfl))) (by decide) (backOf (W := 0) (own_max l Z a0 hw [] (if vy < vx then vy else vx) (if vz < (if vx < vy then vy else vx) then vz else (if vx < vy then vy else vx)) h n0 Z0 ) hZ (hw _ (List.mem_of_getElem? (i := 6) rfl)) (hw _ (List.mem_of_getElem? (i := 2) rfl)) (by decide) (by decide)) (g := (mkF m 45 #[.val (.long vx), .second, .val (.long vy), .second, .val (.long vz), .second, x6, x7, x8, x9, x10, x11, .val (.long a), .second, .val (.long d), .second, .unset, .unset, x18, x19, x20, x21, x22, x23, x24, x25, x26, x27, x28, x29, x30, x31, x32, x33, x34, x35] [(.long (if vz < (if vx < vy then vy else vx) then vz else (if vx < vy then vy else vx))), (.long (if vy < vx then vy else vx))])) rfl (by rw [hml]; rfl) (argsL := [(.long (if vy < vx then vy else vx)), (.long (if vz < (if vx < vy then vy else vx) then vz else (if vx < vy then vy else vx)))]) (rest := []) (lenOf pd_7 rfl) rfl (by show 2 * 0 + _ ≤ _; exact Nat.le_of_eq rfl) (hb hby at_45) (fun _ _ => ⟨rfl, eh132, (by decide : 0 + 0 ≤ _), (by decide : 0 + 0 ≤ _)⟩)
  dsimp only [Pt.U, Pt.locs, Pt.cells, Pt.slots] at X133 l133 y133 z133 st133 hQ133
  subst l133 y133 z133
  obtain ⟨rfl, N133q, eh133⟩ := hQ133
  have N133 := Fr.app N132 N133q
  refine ⟨T133, _, X133, eh133, N133, fun target k => ?_⟩
  show Steps p.tables e below (T.setTop (mkF m 6 #[.val (.long vx), .second, .val (.long vy), .second, .val (.long vz), .second, x6, x7, x8, x9, x10, x11, .unset, .unset, .unset, .unset, .unset, .unset, x18, x19, x20, x21, x22, x23, x24, x25, x26, x27, x28, x29, x30, x31, x32, x33, x34, x35] [])) _
  refine XT.lloadN X.here hx rfl (hb hby at_6) rfl ?_
  show Steps p.tables e below (T.setTop (mkF m 7 #[.val (.long vx), .second, .val (.long vy), .second, .val (.long vz), .second, x6, x7, x8, x9, x10, x11, .unset, .unset, .unset, .unset, .unset, .unset, x18, x19, x20, x21, x22, x23, x24, x25, x26, x27, x28, x29, x30, x31, x32, x33, x34, x35] [(.long vx)])) _
  refine XT.lloadN X.here hx rfl (hb hby at_7) rfl ?_
  show Steps p.tables e below (T.setTop (mkF m 8 #[.val (.long vx), .second, .val (.long vy), .second, .val (.long vz), .second, x6, x7, x8, x9, x10, x11, .unset, .unset, .unset, .unset, .unset, .unset, x18, x19, x20, x21, x22, x23, x24, x25, x26, x27, x28, x29, x30, x31, x32, x33, x34, x35] [(.long vy), (.long vx)])) _
  refine XT.lload X.here hx rfl (hb hby at_8) rfl ?_
  show Steps p.tables e below (T.setTop (mkF m 10 #[.val (.long vx), .second, .val (.long vy), .second, .val (.long vz), .second, x6, x7, x8, x9, x10, x11, .unset, .unset, .unset, .unset, .unset, .unset, x18, x19, x20, x21, x22, x23, x24, x25, x26, x27, x28, x29, x30, x31, x32, x33, x34, x35] [(.long vz), (.long vy), (.long vx)])) _
  refine st126 _ ?_
  show Steps p.tables e below (T126.setTop (mkF m 13 #[.val (.long vx), .second, .val (.long vy), .second, .val (.long vz), .second, x6, x7, x8, x9, x10, x11, .unset, .unset, .unset, .unset, .unset, .unset, x18, x19, x20, x21, x22, x23, x24, x25, x26, x27, x28, x29, x30, x31, x32, x33, x34, x35] [(.long (if vz < vy then vz else vy)), (.long vx)])) _
  refine st127 _ ?_
  show Steps p.tables e below (T127.setTop (mkF m 16 #[.val (.long vx), .second, .val (.long vy), .second, .val (.long vz), .second, x6, x7, x8, x9, x10, x11, .unset, .unset, .unset, .unset, .unset, .unset, x18, x19, x20, x21, x22, x23, x24, x25, x26, x27, x28, x29, x30, x31, x32, x33, x34, x35] [(.long (if (if vz < vy then vz else vy) < vx then (if vz < vy then vz else vy) else vx))])) _
  rw [hA]
  show Steps p.tables e below (T127.setTop (mkF m 16 #[.val (.long vx), .second, .val (.long vy), .second, .val (.long vz), .second, x6, x7, x8, x9, x10, x11, .unset, .unset, .unset, .unset, .unset, .unset, x18, x19, x20, x21, x22, x23, x24, x25, x26, x27, x28, x29, x30, x31, x32, x33, x34, x35] [(.long a)])) _
  refine XT.lstore X127.here hx rfl (hb hby at_16) rfl (l' := #[.val (.long vx), .second, .val (.long vy), .second, .val (.long vz), .second, x6, x7, x8, x9, x10, x11, .val (.long a), .second, .unset, .unset, .unset, .unset, x18, x19, x20, x21, x22, x23, x24, x25, x26, x27, x28, x29, x30, x31, x32, x33, x34, x35]) rfl ?_
  show Steps p.tables e below (T127.setTop (mkF m 18 #[.val (.long vx), .second, .val (.long vy), .second, .val (.long vz), .second, x6, x7, x8, x9, x10, x11, .val (.long a), .second, .unset, .unset, .unset, .unset, x18, x19, x20, x21, x22, x23, x24, x25, x26, x27, x28, x29, x30, x31, x32, x33, x34, x35] [])) _
  refine XT.lloadN X127.here hx rfl (hb hby at_18) rfl ?_
  show Steps p.tables e below (T127.setTop (mkF m 19 #[.val (.long vx), .second, .val (.long vy), .second, .val (.long vz), .second, x6, x7, x8, x9, x10, x11, .val (.long a), .second, .unset, .unset, .unset, .unset, x18, x19, x20, x21, x22, x23, x24, x25, x26, x27, x28, x29, x30, x31, x32, x33, x34, x35] [(.long vx)])) _
  refine XT.lloadN X127.here hx rfl (hb hby at_19) rfl ?_
  show Steps p.tables e below (T127.setTop (mkF m 20 #[.val (.long vx), .second, .val (.long vy), .second, .val (.long vz), .second, x6, x7, x8, x9, x10, x11, .val (.long a), .second, .unset, .unset, .unset, .unset, x18, x19, x20, x21, x22, x23, x24, x25, x26, x27, x28, x29, x30, x31, x32, x33, x34, x35] [(.long vy), (.long vx)])) _
  refine XT.lload X127.here hx rfl (hb hby at_20) rfl ?_
  show Steps p.tables e below (T127.setTop (mkF m 22 #[.val (.long vx), .second, .val (.long vy), .second, .val (.long vz), .second, x6, x7, x8, x9, x10, x11, .val (.long a), .second, .unset, .unset, .unset, .unset, x18, x19, x20, x21, x22, x23, x24, x25, x26, x27, x28, x29, x30, x31, x32, x33, x34, x35] [(.long vz), (.long vy), (.long vx)])) _
  refine st128 _ ?_
  show Steps p.tables e below (T128.setTop (mkF m 25 #[.val (.long vx), .second, .val (.long vy), .second, .val (.long vz), .second, x6, x7, x8, x9, x10, x11, .val (.long a), .second, .unset, .unset, .unset, .unset, x18, x19, x20, x21, x22, x23, x24, x25, x26, x27, x28, x29, x30, x31, x32, x33, x34, x35] [(.long (if vy < vz then vz else vy)), (.long vx)])) _
  refine st129 _ ?_
  show Steps p.tables e below (T129.setTop (mkF m 28 #[.val (.long vx), .second, .val (.long vy), .second, .val (.long vz), .second, x6, x7, x8, x9, x10, x11, .val (.long a), .second, .unset, .unset, .unset, .unset, x18, x19, x20, x21, x22, x23, x24, x25, x26, x27, x28, x29, x30, x31, x32, x33, x34, x35] [(.long (if vx < (if vy < vz then vz else vy) then (if vy < vz then vz else vy) else vx))])) _
  rw [hC]
  show Steps p.tables e below (T129.setTop (mkF m 28 #[.val (.long vx), .second, .val (.long vy), .second, .val (.long vz), .second, x6, x7, x8, x9, x10, x11, .val (.long a), .second, .unset, .unset, .unset, .unset, x18, x19, x20, x21, x22, x23, x24, x25, x26, x27, x28, x29, x30, x31, x32, x33, x34, x35] [(.long d)])) _
  refine XT.lstore X129.here hx rfl (hb hby at_28) rfl (l' := #[.val (.long vx), .second, .val (.long vy), .second, .val (.long vz), .second, x6, x7, x8, x9, x10, x11, .val (.long a), .second, .val (.long d), .second, .unset, .unset, x18, x19, x20, x21, x22, x23, x24, x25, x26, x27, x28, x29, x30, x31, x32, x33, x34, x35]) rfl ?_
  show Steps p.tables e below (T129.setTop (mkF m 30 #[.val (.long vx), .second, .val (.long vy), .second, .val (.long vz), .second, x6, x7, x8, x9, x10, x11, .val (.long a), .second, .val (.long d), .second, .unset, .unset, x18, x19, x20, x21, x22, x23, x24, x25, x26, x27, x28, x29, x30, x31, x32, x33, x34, x35] [])) _
  refine XT.lloadN X129.here hx rfl (hb hby at_30) rfl ?_
  show Steps p.tables e below (T129.setTop (mkF m 31 #[.val (.long vx), .second, .val (.long vy), .second, .val (.long vz), .second, x6, x7, x8, x9, x10, x11, .val (.long a), .second, .val (.long d), .second, .unset, .unset, x18, x19, x20, x21, x22, x23, x24, x25, x26, x27, x28, x29, x30, x31, x32, x33, x34, x35] [(.long vx)])) _
  refine XT.lloadN X129.here hx rfl (hb hby at_31) rfl ?_
  show Steps p.tables e below (T129.setTop (mkF m 32 #[.val (.long vx), .second, .val (.long vy), .second, .val (.long vz), .second, x6, x7, x8, x9, x10, x11, .val (.long a), .second, .val (.long d), .second, .unset, .unset, x18, x19, x20, x21, x22, x23, x24, x25, x26, x27, x28, x29, x30, x31, x32, x33, x34, x35] [(.long vy), (.long vx)])) _
  refine st130 _ ?_
  show Steps p.tables e below (T130.setTop (mkF m 35 #[.val (.long vx), .second, .val (.long vy), .second, .val (.long vz), .second, x6, x7, x8, x9, x10, x11, .val (.long a), .second, .val (.long d), .second, .unset, .unset, x18, x19, x20, x21, x22, x23, x24, x25, x26, x27, x28, x29, x30, x31, x32, x33, x34, x35] [(.long (if vy < vx then vy else vx))])) _
  refine XT.lloadN X130.here hx rfl (hb hby at_35) rfl ?_
  show Steps p.tables e below (T130.setTop (mkF m 36 #[.val (.long vx), .second, .val (.long vy), .second, .val (.long vz), .second, x6, x7, x8, x9, x10, x11, .val (.long a), .second, .val (.long d), .second, .unset, .unset, x18, x19, x20, x21, x22, x23, x24, x25, x26, x27, x28, x29, x30, x31, x32, x33, x34, x35] [(.long vx), (.long (if vy < vx then vy else vx))])) _
  refine XT.lloadN X130.here hx rfl (hb hby at_36) rfl ?_
  show Steps p.tables e below (T130.setTop (mkF m 37 #[.val (.long vx), .second, .val (.long vy), .second, .val (.long vz), .second, x6, x7, x8, x9, x10, x11, .val (.long a), .second, .val (.long d), .second, .unset, .unset, x18, x19, x20, x21, x22, x23, x24, x25, x26, x27, x28, x29, x30, x31, x32, x33, x34, x35] [(.long vy), (.long vx), (.long (if vy < vx then vy else vx))])) _
  refine st131 _ ?_
  show Steps p.tables e below (T131.setTop (mkF m 40 #[.val (.long vx), .second, .val (.long vy), .second, .val (.long vz), .second, x6, x7, x8, x9, x10, x11, .val (.long a), .second, .val (.long d), .second, .unset, .unset, x18, x19, x20, x21, x22, x23, x24, x25, x26, x27, x28, x29, x30, x31, x32, x33, x34, x35] [(.long (if vx < vy then vy else vx)), (.long (if vy < vx then vy else vx))])) _
  refine XT.lload X131.here hx rfl (hb hby at_40) rfl ?_
  show Steps p.tables e below (T131.setTop (mkF m 42 #[.val (.long vx), .second, .val (.long vy), .second, .val (.long vz), .second, x6, x7, x8, x9, x10, x11, .val (.long a), .second, .val (.long d), .second, .unset, .unset, x18, x19, x20, x21, x22, x23, x24, x25, x26, x27, x28, x29, x30, x31, x32, x33, x34, x35] [(.long vz), (.long (if vx < vy then vy else vx)), (.long (if vy < vx then vy else vx))])) _
  refine st132 _ ?_
  show Steps p.tables e below (T132.setTop (mkF m 45 #[.val (.long vx), .second, .val (.long vy), .second, .val (.long vz), .second, x6, x7, x8, x9, x10, x11, .val (.long a), .second, .val (.long d), .second, .unset, .unset, x18, x19, x20, x21, x22, x23, x24, x25, x26, x27, x28, x29, x30, x31, x32, x33, x34, x35] [(.long (if vz < (if vx < vy then vy else vx) then vz else (if vx < vy then vy else vx))), (.long (if vy < vx then vy else vx))])) _
  refine st133 _ ?_
  show Steps p.tables e below (T133.setTop (mkF m 48 #[.val (.long vx), .second, .val (.long vy), .second, .val (.long vz), .second, x6, x7, x8, x9, x10, x11, .val (.long a), .second, .val (.long d), .second, .unset, .unset, x18, x19, x20, x21, x22, x23, x24, x25, x26, x27, x28, x29, x30, x31, x32, x33, x34, x35] [(.long (if (if vy < vx then vy else vx) < (if vz < (if vx < vy then vy else vx) then vz else (if vx < vy then vy else vx)) then (if vz < (if vx < vy then vy else vx) then vz else (if vx < vy then vy else vx)) else (if vy < vx then vy else vx)))])) _
  rw [hB]
  show Steps p.tables e below (T133.setTop (mkF m 48 #[.val (.long vx), .second, .val (.long vy), .second, .val (.long vz), .second, x6, x7, x8, x9, x10, x11, .val (.long a), .second, .val (.long d), .second, .unset, .unset, x18, x19, x20, x21, x22, x23, x24, x25, x26, x27, x28, x29, x30, x31, x32, x33, x34, x35] [(.long b)])) _
  refine XT.lstore X133.here hx rfl (hb hby at_48) rfl (l' := #[.val (.long vx), .second, .val (.long vy), .second, .val (.long vz), .second, x6, x7, x8, x9, x10, x11, .val (.long a), .second, .val (.long d), .second, .val (.long b), .second, x18, x19, x20, x21, x22, x23, x24, x25, x26, x27, x28, x29, x30, x31, x32, x33, x34, x35]) rfl ?_
  show Steps p.tables e below (T133.setTop (mkF m 50 #[.val (.long vx), .second, .val (.long vy), .second, .val (.long vz), .second, x6, x7, x8, x9, x10, x11, .val (.long a), .second, .val (.long d), .second, .val (.long b), .second, x18, x19, x20, x21, x22, x23, x24, x25, x26, x27, x28, x29, x30, x31, x32, x33, x34, x35] [])) _
  exact k
set_option maxRecDepth 65536 in
set_option maxHeartbeats 40000000 in
theorem own_sB {p : Program} {l : Launch} {e : Env} {s : State} {m : MethodId} {args : Array Value} {below : List Frame} {meth : Method} {c : Code} {T : State} {locs : List Loc} {Z : State} {a0 : Array Value} {h : Heap} {n0 : Nat} (hw : ∀ d ∈ tables_1, d.before a0 Z = true) (X : Stand p l e room_1 s m args below meth c T locs 0 0) (hx : p.tables.exec = Jvm.exec) (hZ : Z.Warmed39 s.vm) (hby : c.code = code) (hml : c.maxLocals = 36) (hown : s.vm.findClass "com/example/xml_element_search/xmlelementsearch/ElementScoresHoldsPinLaw" = some m.cls) (eT : T.heap = h) (N : Fr n0 locs) (Z0 : n0 ≤ h.size) (x0 : Slot) (x1 : Slot) (x2 : Slot) (x3 : Slot) (x4 : Slot) (x5 : Slot) (vu : Int64) (vw : Int64) (sel : Int32) (x11 : Slot) (a : Int64) (d : Int64) (b : Int64) (x30 : Slot) (x31 : Slot) (x32 : Slot) (x33 : Slot) (x34 : Slot) (x35 : Slot) (r1 : Int64) (r2 : Int64) (q1 : Int64) (q2 : Int64) (hr1 : ((own_base ((XT.ushr sel (2 : Int32)) &&& (3 : Int32)) vu a b d) + ((((XT.ushr sel (4 : Int32)) &&& (3 : Int32)) % (3 : Int32)) - (1 : Int32)).toInt64) = r1) (hr2 : ((own_base ((XT.ushr sel (6 : Int32)) &&& (3 : Int32)) vw a b d) + ((((XT.ushr sel (8 : Int32)) &&& (3 : Int32)) % (3 : Int32)) - (1 : Int32)).toInt64) = r2) (hq1 : (if r2 < r1 then r2 else r1) = q1) (hq2 : (if r1 < r2 then r2 else r1) = q2) :
    ∃ T' L', Stand p l e room_1 s m args below meth c T' L' 0 0 ∧ T'.heap = h ∧ Fr n0 L' ∧ ∀ target, Steps p.tables e below (T'.setTop (mkF m 180 #[x0, x1, x2, x3, x4, x5, .val (.long vu), .second, .val (.long vw), .second, .val (.int sel), x11, .val (.long a), .second, .val (.long d), .second, .val (.long b), .second, .val (.int ((XT.ushr sel (2 : Int32)) &&& (3 : Int32))), .val (.int ((((XT.ushr sel (4 : Int32)) &&& (3 : Int32)) % (3 : Int32)) - (1 : Int32))), .val (.int ((XT.ushr sel (6 : Int32)) &&& (3 : Int32))), .val (.int ((((XT.ushr sel (8 : Int32)) &&& (3 : Int32)) % (3 : Int32)) - (1 : Int32))), .val (.long r1), .second, .val (.long r2), .second, .val (.long q1), .second, .val (.long q2), .second, x30, x31, x32, x33, x34, x35] [])) target → Steps p.tables e below (T.setTop (mkF m 82 #[x0, x1, x2, x3, x4, x5, .val (.long vu), .second, .val (.long vw), .second, .val (.int sel), x11, .val (.long a), .second, .val (.long d), .second, .val (.long b), .second, .unset, .unset, .unset, .unset, .unset, .unset, .unset, .unset, .unset, .unset, .unset, .unset, x30, x31, x32, x33, x34, x35] [])) target := by
  obtain ⟨_, _, ⟨T134, L134, k134, n134⟩, -, X134, ⟨Lc134, hQ134, l134, y134, z134⟩, st134⟩ := Jvm.LawKit.callS X hx (y := (⟨"com/example/xml_element_search/xmlelementsearch/ElementScoresHoldsPinLaw", "base", "(IJJJJ)J"⟩ : MethodName)) hown (mvT hZ (hw _ (List.mem_of_getElem? (i := 7) rfl))) (mvT hZ (hw _ (List.mem_of_getElem? (i := 8) rfl))) (mvT hZ (hw _ (List.mem_of_getElem? (i := 9) rfl))) (mvT hZ (hw _ (List.mem_of_getElem? (i := 10) rfl))) (by decide) (backOf (W := 0) (own_bas l Z a0 hw [] ((XT.ushr sel (2 : Int32)) &&& (3 : Int32)) vu a b d h n0 Z0 ) hZ (hw _ (List.mem_of_getElem? (i := 10) rfl)) (hw _ (List.mem_of_getElem? (i := 9) rfl)) (by decide) (by decide)) (g := (mkF m 134 #[x0, x1, x2, x3, x4, x5, .val (.long vu), .second, .val (.long vw), .second, .val (.int sel), x11, .val (.long a), .second, .val (.long d), .second, .val (.long b), .second, .val (.int ((XT.ushr sel (2 : Int32)) &&& (3 : Int32))), .val (.int ((((XT.ushr sel (4 : Int32)) &&& (3 : Int32)) % (3 : Int32)) - (1 : Int32))), .val (.int ((XT.ushr sel (6 : Int32)) &&& (3 : Int32))), .val (.int ((((XT.ushr sel (8 : Int32)) &&& (3 : Int32)) % (3 : Int32)) - (1 : Int32))), .unset, .unset, .unset, .unset, .unset, .unset, .unset, .unset, x30, x31, x32, x33, x34, x35] [(.long d), (.long b), (.long a), (.long vu), (.int ((XT.ushr sel (2 : Int32)) &&& (3 : Int32)))])) rfl (by rw [hml]; rfl) (argsL := [(.int ((XT.ushr sel (2 : Int32)) &&& (3 : Int32))), (.long vu), (.long a), (.long b), (.long d)]) (rest := []) (lenOf pd_8 rfl) rfl (by show 2 * 0 + _ ≤ _; exact Nat.le_of_eq rfl) (hb hby at_134) (fun _ _ => ⟨rfl, eT, (by decide : 0 + 0 ≤ _), (by decide : 0 + 0 ≤ _)⟩)
  dsimp only [Pt.U, Pt.locs, Pt.cells, Pt.slots] at X134 l134 y134 z134 st134 hQ134
  subst l134 y134 z134
  obtain ⟨rfl, N134q, eh134⟩ := hQ134
  have N134 := Fr.app N N134q
  obtain ⟨_, _, ⟨T135, L135, k135, n135⟩, -, X135, ⟨Lc135, hQ135, l135, y135, z135⟩, st135⟩ := Jvm.LawKit.callS X134 hx (y := (⟨"com/example/xml_element_search/xmlelementsearch/ElementScoresHoldsPinLaw", "base", "(IJJJJ)J"⟩ : MethodName)) hown (mvT hZ (hw _ (List.mem_of_getElem? (i := 7) rfl))) (mvT hZ (hw _ (List.mem_of_getElem? (i := 8) rfl))) (mvT hZ (hw _ (List.mem_of_getElem? (i := 9) rfl))) (mvT hZ (hw _ (List.mem_of_getElem? (i := 10) rfl))) (by decide) (backOf (W := 0) (own_bas l Z a0 hw [] ((XT.ushr sel (6 : Int32)) &&& (3 : Int32)) vw a b d h n0 Z0 ) hZ (hw _ (List.mem_of_getElem? (i := 10) rfl)) (hw _ (List.mem_of_getElem? (i := 9) rfl)) (by decide) (by decide)) (g := (mkF m 153 #[x0, x1, x2, x3, x4, x5, .val (.long vu), .second, .val (.long vw), .second, .val (.int sel), x11, .val (.long a), .second, .val (.long d), .second, .val (.long b), .second, .val (.int ((XT.ushr sel (2 : Int32)) &&& (3 : Int32))), .val (.int ((((XT.ushr sel (4 : Int32)) &&& (3 : Int32)) % (3 : Int32)) - (1 : Int32))), .val (.int ((XT.ushr sel (6 : Int32)) &&& (3 : Int32))), .val (.int ((((XT.ushr sel (8 : Int32)) &&& (3 : Int32)) % (3 : Int32)) - (1 : Int32))), .val (.long r1), .second, .unset, .unset, .unset, .unset, .unset, .unset, x30, x31, x32, x33, x34, x35] [(.long d), (.long b), (.long a), (.long vw), (.int ((XT.ushr sel (6 : Int32)) &&& (3 : Int32)))])) rfl (by rw [hml]; rfl) (argsL := [(.int ((XT.ushr sel (6 : Int32)) &&& (3 : Int32))), (.long vw), (.long a), (.long b), (.long d)]) (rest := []) (lenOf pd_8 rfl) rfl (by show 2 * 0 + _ ≤ _; exact Nat.le_of_eq rfl) (hb hby at_153) (fun _ _ => ⟨rfl, eh134, (by decide : 0 + 0 ≤ _), (by decide : 0 + 0 ≤ _)⟩)
  dsimp only [Pt.U, Pt.locs, Pt.cells, Pt.slots] at X135 l135 y135 z135 st135 hQ135
  subst l135 y135 z135
  obtain ⟨rfl, N135q, eh135⟩ := hQ135
  have N135 := Fr.app N134 N135q
  obtain ⟨_, _, ⟨T136, L136, k136, n136⟩, -, X136, ⟨Lc136, hQ136, l136, y136, z136⟩, st136⟩ := Jvm.LawKit.callS X135 hx (y := (⟨"java/lang/Math", "min", "(JJ)J"⟩ : MethodName)) hown (mvT hZ (hw _ (List.mem_of_getElem? (i := 0) rfl))) (mvT hZ (hw _ (List.mem_of_getElem? (i := 1) rfl))) (mvT hZ (hw _ (List.mem_of_getElem? (i := 2) rfl))) (mvT hZ (hw _ (List.mem_of_getElem? (i := 3) rfl))) (by decide) (backOf (W := 0) (own_min l Z a0 hw [] r1 r2 h n0 Z0 ) hZ (hw _ (List.mem_of_getElem? (i := 3) rfl)) (hw _ (List.mem_of_getElem? (i := 2) rfl)) (by decide) (by decide)) (g := (mkF m 166 #[x0, x1, x2, x3, x4, x5, .val (.long vu), .second, .val (.long vw), .second, .val (.int sel), x11, .val (.long a), .second, .val (.long d), .second, .val (.long b), .second, .val (.int ((XT.ushr sel (2 : Int32)) &&& (3 : Int32))), .val (.int ((((XT.ushr sel (4 : Int32)) &&& (3 : Int32)) % (3 : Int32)) - (1 : Int32))), .val (.int ((XT.ushr sel (6 : Int32)) &&& (3 : Int32))), .val (.int ((((XT.ushr sel (8 : Int32)) &&& (3 : Int32)) % (3 : Int32)) - (1 : Int32))), .val (.long r1), .second, .val (.long r2), .second, .unset, .unset, .unset, .unset, x30, x31, x32, x33, x34, x35] [(.long r2), (.long r1)])) rfl (by rw [hml]; rfl) (argsL := [(.long r1), (.long r2)]) (rest := []) (lenOf pd_7 rfl) rfl (by show 2 * 0 + _ ≤ _; exact Nat.le_of_eq rfl) (hb hby at_166) (fun _ _ => ⟨rfl, eh135, (by decide : 0 + 0 ≤ _), (by decide : 0 + 0 ≤ _)⟩)
  dsimp only [Pt.U, Pt.locs, Pt.cells, Pt.slots] at X136 l136 y136 z136 st136 hQ136
  subst l136 y136 z136
  obtain ⟨rfl, N136q, eh136⟩ := hQ136
  have N136 := Fr.app N135 N136q
  obtain ⟨_, _, ⟨T137, L137, k137, n137⟩, -, X137, ⟨Lc137, hQ137, l137, y137, z137⟩, st137⟩ := Jvm.LawKit.callS X136 hx (y := (⟨"java/lang/Math", "max", "(JJ)J"⟩ : MethodName)) hown (mvT hZ (hw _ (List.mem_of_getElem? (i := 4) rfl))) (mvT hZ (hw _ (List.mem_of_getElem? (i := 5) rfl))) (mvT hZ (hw _ (List.mem_of_getElem? (i := 2) rfl))) (mvT hZ (hw _ (List.mem_of_getElem? (i := 6) rfl))) (by decide) (backOf (W := 0) (own_max l Z a0 hw [] r1 r2 h n0 Z0 ) hZ (hw _ (List.mem_of_getElem? (i := 6) rfl)) (hw _ (List.mem_of_getElem? (i := 2) rfl)) (by decide) (by decide)) (g := (mkF m 175 #[x0, x1, x2, x3, x4, x5, .val (.long vu), .second, .val (.long vw), .second, .val (.int sel), x11, .val (.long a), .second, .val (.long d), .second, .val (.long b), .second, .val (.int ((XT.ushr sel (2 : Int32)) &&& (3 : Int32))), .val (.int ((((XT.ushr sel (4 : Int32)) &&& (3 : Int32)) % (3 : Int32)) - (1 : Int32))), .val (.int ((XT.ushr sel (6 : Int32)) &&& (3 : Int32))), .val (.int ((((XT.ushr sel (8 : Int32)) &&& (3 : Int32)) % (3 : Int32)) - (1 : Int32))), .val (.long r1), .second, .val (.long r2), .second, .val (.long q1), .second, .unset, .unset, x30, x31, x32, x33, x34, x35] [(.long r2), (.long r1)])) rfl (by rw [hml]; rfl) (argsL := [(.long r1), (.long r2)]) (rest := []) (lenOf pd_7 rfl) rfl (by show 2 * 0 + _ ≤ _; exact Nat.le_of_eq rfl) (hb hby at_175) (fun _ _ => ⟨rfl, eh136, (by decide : 0 + 0 ≤ _), (by decide : 0 + 0 ≤ _)⟩)
  dsimp only [Pt.U, Pt.locs, Pt.cells, Pt.slots] at X137 l137 y137 z137 st137 hQ137
  subst l137 y137 z137
  obtain ⟨rfl, N137q, eh137⟩ := hQ137
  have N137 := Fr.app N136 N137q
  refine ⟨T137, _, X137, eh137, N137, fun target k => ?_⟩
  show Steps p.tables e below (T.setTop (mkF m 82 #[x0, x1, x2, x3, x4, x5, .val (.long vu), .second, .val (.long vw), .second, .val (.int sel), x11, .val (.long a), .second, .val (.long d), .second, .val (.long b), .second, .unset, .unset, .unset, .unset, .unset, .unset, .unset, .unset, .unset, .unset, .unset, .unset, x30, x31, x32, x33, x34, x35] [])) _
  refine XS.iload X.here hx rfl (hb hby at_82) rfl ?_
  show Steps p.tables e below (T.setTop (mkF m 84 #[x0, x1, x2, x3, x4, x5, .val (.long vu), .second, .val (.long vw), .second, .val (.int sel), x11, .val (.long a), .second, .val (.long d), .second, .val (.long b), .second, .unset, .unset, .unset, .unset, .unset, .unset, .unset, .unset, .unset, .unset, .unset, .unset, x30, x31, x32, x33, x34, x35] [(.int sel)])) _
  refine XS.iconst X.here hx rfl (hb hby at_84) ?_
  show Steps p.tables e below (T.setTop (mkF m 85 #[x0, x1, x2, x3, x4, x5, .val (.long vu), .second, .val (.long vw), .second, .val (.int sel), x11, .val (.long a), .second, .val (.long d), .second, .val (.long b), .second, .unset, .unset, .unset, .unset, .unset, .unset, .unset, .unset, .unset, .unset, .unset, .unset, x30, x31, x32, x33, x34, x35] [(.int (2 : Int32)), (.int sel)])) _
  refine XT.iushr X.here hx rfl (hb hby at_85) rfl ?_
  show Steps p.tables e below (T.setTop (mkF m 86 #[x0, x1, x2, x3, x4, x5, .val (.long vu), .second, .val (.long vw), .second, .val (.int sel), x11, .val (.long a), .second, .val (.long d), .second, .val (.long b), .second, .unset, .unset, .unset, .unset, .unset, .unset, .unset, .unset, .unset, .unset, .unset, .unset, x30, x31, x32, x33, x34, x35] [(.int (XT.ushr sel (2 : Int32)))])) _
  refine XS.iconst X.here hx rfl (hb hby at_86) ?_
  show Steps p.tables e below (T.setTop (mkF m 87 #[x0, x1, x2, x3, x4, x5, .val (.long vu), .second, .val (.long vw), .second, .val (.int sel), x11, .val (.long a), .second, .val (.long d), .second, .val (.long b), .second, .unset, .unset, .unset, .unset, .unset, .unset, .unset, .unset, .unset, .unset, .unset, .unset, x30, x31, x32, x33, x34, x35] [(.int (3 : Int32)), (.int (XT.ushr sel (2 : Int32)))])) _
  refine XS.iand X.here hx rfl (hb hby at_87) rfl ?_
  show Steps p.tables e below (T.setTop (mkF m 88 #[x0, x1, x2, x3, x4, x5, .val (.long vu), .second, .val (.long vw), .second, .val (.int sel), x11, .val (.long a), .second, .val (.long d), .second, .val (.long b), .second, .unset, .unset, .unset, .unset, .unset, .unset, .unset, .unset, .unset, .unset, .unset, .unset, x30, x31, x32, x33, x34, x35] [(.int ((XT.ushr sel (2 : Int32)) &&& (3 : Int32)))])) _
  refine XS.istore X.here hx rfl (hb hby at_88) rfl (l' := #[x0, x1, x2, x3, x4, x5, .val (.long vu), .second, .val (.long vw), .second, .val (.int sel), x11, .val (.long a), .second, .val (.long d), .second, .val (.long b), .second, .val (.int ((XT.ushr sel (2 : Int32)) &&& (3 : Int32))), .unset, .unset, .unset, .unset, .unset, .unset, .unset, .unset, .unset, .unset, .unset, x30, x31, x32, x33, x34, x35]) rfl ?_
  show Steps p.tables e below (T.setTop (mkF m 90 #[x0, x1, x2, x3, x4, x5, .val (.long vu), .second, .val (.long vw), .second, .val (.int sel), x11, .val (.long a), .second, .val (.long d), .second, .val (.long b), .second, .val (.int ((XT.ushr sel (2 : Int32)) &&& (3 : Int32))), .unset, .unset, .unset, .unset, .unset, .unset, .unset, .unset, .unset, .unset, .unset, x30, x31, x32, x33, x34, x35] [])) _
  refine XS.iload X.here hx rfl (hb hby at_90) rfl ?_
  show Steps p.tables e below (T.setTop (mkF m 92 #[x0, x1, x2, x3, x4, x5, .val (.long vu), .second, .val (.long vw), .second, .val (.int sel), x11, .val (.long a), .second, .val (.long d), .second, .val (.long b), .second, .val (.int ((XT.ushr sel (2 : Int32)) &&& (3 : Int32))), .unset, .unset, .unset, .unset, .unset, .unset, .unset, .unset, .unset, .unset, .unset, x30, x31, x32, x33, x34, x35] [(.int sel)])) _
  refine XS.iconst X.here hx rfl (hb hby at_92) ?_
  show Steps p.tables e below (T.setTop (mkF m 93 #[x0, x1, x2, x3, x4, x5, .val (.long vu), .second, .val (.long vw), .second, .val (.int sel), x11, .val (.long a), .second, .val (.long d), .second, .val (.long b), .second, .val (.int ((XT.ushr sel (2 : Int32)) &&& (3 : Int32))), .unset, .unset, .unset, .unset, .unset, .unset, .unset, .unset, .unset, .unset, .unset, x30, x31, x32, x33, x34, x35] [(.int (4 : Int32)), (.int sel)])) _
  refine XT.iushr X.here hx rfl (hb hby at_93) rfl ?_
  show Steps p.tables e below (T.setTop (mkF m 94 #[x0, x1, x2, x3, x4, x5, .val (.long vu), .second, .val (.long vw), .second, .val (.int sel), x11, .val (.long a), .second, .val (.long d), .second, .val (.long b), .second, .val (.int ((XT.ushr sel (2 : Int32)) &&& (3 : Int32))), .unset, .unset, .unset, .unset, .unset, .unset, .unset, .unset, .unset, .unset, .unset, x30, x31, x32, x33, x34, x35] [(.int (XT.ushr sel (4 : Int32)))])) _
  refine XS.iconst X.here hx rfl (hb hby at_94) ?_
  show Steps p.tables e below (T.setTop (mkF m 95 #[x0, x1, x2, x3, x4, x5, .val (.long vu), .second, .val (.long vw), .second, .val (.int sel), x11, .val (.long a), .second, .val (.long d), .second, .val (.long b), .second, .val (.int ((XT.ushr sel (2 : Int32)) &&& (3 : Int32))), .unset, .unset, .unset, .unset, .unset, .unset, .unset, .unset, .unset, .unset, .unset, x30, x31, x32, x33, x34, x35] [(.int (3 : Int32)), (.int (XT.ushr sel (4 : Int32)))])) _
  refine XS.iand X.here hx rfl (hb hby at_95) rfl ?_
  show Steps p.tables e below (T.setTop (mkF m 96 #[x0, x1, x2, x3, x4, x5, .val (.long vu), .second, .val (.long vw), .second, .val (.int sel), x11, .val (.long a), .second, .val (.long d), .second, .val (.long b), .second, .val (.int ((XT.ushr sel (2 : Int32)) &&& (3 : Int32))), .unset, .unset, .unset, .unset, .unset, .unset, .unset, .unset, .unset, .unset, .unset, x30, x31, x32, x33, x34, x35] [(.int ((XT.ushr sel (4 : Int32)) &&& (3 : Int32)))])) _
  refine XS.iconst X.here hx rfl (hb hby at_96) ?_
  show Steps p.tables e below (T.setTop (mkF m 97 #[x0, x1, x2, x3, x4, x5, .val (.long vu), .second, .val (.long vw), .second, .val (.int sel), x11, .val (.long a), .second, .val (.long d), .second, .val (.long b), .second, .val (.int ((XT.ushr sel (2 : Int32)) &&& (3 : Int32))), .unset, .unset, .unset, .unset, .unset, .unset, .unset, .unset, .unset, .unset, .unset, x30, x31, x32, x33, x34, x35] [(.int (3 : Int32)), (.int ((XT.ushr sel (4 : Int32)) &&& (3 : Int32)))])) _
  refine Jvm.RoadKit.iremM (g := (mkF m 97 #[x0, x1, x2, x3, x4, x5, .val (.long vu), .second, .val (.long vw), .second, .val (.int sel), x11, .val (.long a), .second, .val (.long d), .second, .val (.long b), .second, .val (.int ((XT.ushr sel (2 : Int32)) &&& (3 : Int32))), .unset, .unset, .unset, .unset, .unset, .unset, .unset, .unset, .unset, .unset, .unset, x30, x31, x32, x33, x34, x35] [(.int (3 : Int32)), (.int ((XT.ushr sel (4 : Int32)) &&& (3 : Int32)))])) X hx rfl (hb hby at_97) rfl (by decide) ?_
  show Steps p.tables e below (T.setTop (mkF m 98 #[x0, x1, x2, x3, x4, x5, .val (.long vu), .second, .val (.long vw), .second, .val (.int sel), x11, .val (.long a), .second, .val (.long d), .second, .val (.long b), .second, .val (.int ((XT.ushr sel (2 : Int32)) &&& (3 : Int32))), .unset, .unset, .unset, .unset, .unset, .unset, .unset, .unset, .unset, .unset, .unset, x30, x31, x32, x33, x34, x35] [(.int (((XT.ushr sel (4 : Int32)) &&& (3 : Int32)) % (3 : Int32)))])) _
  refine XS.iconst X.here hx rfl (hb hby at_98) ?_
  show Steps p.tables e below (T.setTop (mkF m 99 #[x0, x1, x2, x3, x4, x5, .val (.long vu), .second, .val (.long vw), .second, .val (.int sel), x11, .val (.long a), .second, .val (.long d), .second, .val (.long b), .second, .val (.int ((XT.ushr sel (2 : Int32)) &&& (3 : Int32))), .unset, .unset, .unset, .unset, .unset, .unset, .unset, .unset, .unset, .unset, .unset, x30, x31, x32, x33, x34, x35] [(.int (1 : Int32)), (.int (((XT.ushr sel (4 : Int32)) &&& (3 : Int32)) % (3 : Int32)))])) _
  refine XS.isub X.here hx rfl (hb hby at_99) rfl ?_
  show Steps p.tables e below (T.setTop (mkF m 100 #[x0, x1, x2, x3, x4, x5, .val (.long vu), .second, .val (.long vw), .second, .val (.int sel), x11, .val (.long a), .second, .val (.long d), .second, .val (.long b), .second, .val (.int ((XT.ushr sel (2 : Int32)) &&& (3 : Int32))), .unset, .unset, .unset, .unset, .unset, .unset, .unset, .unset, .unset, .unset, .unset, x30, x31, x32, x33, x34, x35] [(.int ((((XT.ushr sel (4 : Int32)) &&& (3 : Int32)) % (3 : Int32)) - (1 : Int32)))])) _
  refine XS.istore X.here hx rfl (hb hby at_100) rfl (l' := #[x0, x1, x2, x3, x4, x5, .val (.long vu), .second, .val (.long vw), .second, .val (.int sel), x11, .val (.long a), .second, .val (.long d), .second, .val (.long b), .second, .val (.int ((XT.ushr sel (2 : Int32)) &&& (3 : Int32))), .val (.int ((((XT.ushr sel (4 : Int32)) &&& (3 : Int32)) % (3 : Int32)) - (1 : Int32))), .unset, .unset, .unset, .unset, .unset, .unset, .unset, .unset, .unset, .unset, x30, x31, x32, x33, x34, x35]) rfl ?_
  show Steps p.tables e below (T.setTop (mkF m 102 #[x0, x1, x2, x3, x4, x5, .val (.long vu), .second, .val (.long vw), .second, .val (.int sel), x11, .val (.long a), .second, .val (.long d), .second, .val (.long b), .second, .val (.int ((XT.ushr sel (2 : Int32)) &&& (3 : Int32))), .val (.int ((((XT.ushr sel (4 : Int32)) &&& (3 : Int32)) % (3 : Int32)) - (1 : Int32))), .unset, .unset, .unset, .unset, .unset, .unset, .unset, .unset, .unset, .unset, x30, x31, x32, x33, x34, x35] [])) _
  refine XS.iload X.here hx rfl (hb hby at_102) rfl ?_
  show Steps p.tables e below (T.setTop (mkF m 104 #[x0, x1, x2, x3, x4, x5, .val (.long vu), .second, .val (.long vw), .second, .val (.int sel), x11, .val (.long a), .second, .val (.long d), .second, .val (.long b), .second, .val (.int ((XT.ushr sel (2 : Int32)) &&& (3 : Int32))), .val (.int ((((XT.ushr sel (4 : Int32)) &&& (3 : Int32)) % (3 : Int32)) - (1 : Int32))), .unset, .unset, .unset, .unset, .unset, .unset, .unset, .unset, .unset, .unset, x30, x31, x32, x33, x34, x35] [(.int sel)])) _
  refine XS.bipush X.here hx rfl (hb hby at_104) ?_
  show Steps p.tables e below (T.setTop (mkF m 106 #[x0, x1, x2, x3, x4, x5, .val (.long vu), .second, .val (.long vw), .second, .val (.int sel), x11, .val (.long a), .second, .val (.long d), .second, .val (.long b), .second, .val (.int ((XT.ushr sel (2 : Int32)) &&& (3 : Int32))), .val (.int ((((XT.ushr sel (4 : Int32)) &&& (3 : Int32)) % (3 : Int32)) - (1 : Int32))), .unset, .unset, .unset, .unset, .unset, .unset, .unset, .unset, .unset, .unset, x30, x31, x32, x33, x34, x35] [(.int (6 : Int32)), (.int sel)])) _
  refine XT.iushr X.here hx rfl (hb hby at_106) rfl ?_
  show Steps p.tables e below (T.setTop (mkF m 107 #[x0, x1, x2, x3, x4, x5, .val (.long vu), .second, .val (.long vw), .second, .val (.int sel), x11, .val (.long a), .second, .val (.long d), .second, .val (.long b), .second, .val (.int ((XT.ushr sel (2 : Int32)) &&& (3 : Int32))), .val (.int ((((XT.ushr sel (4 : Int32)) &&& (3 : Int32)) % (3 : Int32)) - (1 : Int32))), .unset, .unset, .unset, .unset, .unset, .unset, .unset, .unset, .unset, .unset, x30, x31, x32, x33, x34, x35] [(.int (XT.ushr sel (6 : Int32)))])) _
  refine XS.iconst X.here hx rfl (hb hby at_107) ?_
  show Steps p.tables e below (T.setTop (mkF m 108 #[x0, x1, x2, x3, x4, x5, .val (.long vu), .second, .val (.long vw), .second, .val (.int sel), x11, .val (.long a), .second, .val (.long d), .second, .val (.long b), .second, .val (.int ((XT.ushr sel (2 : Int32)) &&& (3 : Int32))), .val (.int ((((XT.ushr sel (4 : Int32)) &&& (3 : Int32)) % (3 : Int32)) - (1 : Int32))), .unset, .unset, .unset, .unset, .unset, .unset, .unset, .unset, .unset, .unset, x30, x31, x32, x33, x34, x35] [(.int (3 : Int32)), (.int (XT.ushr sel (6 : Int32)))])) _
  refine XS.iand X.here hx rfl (hb hby at_108) rfl ?_
  show Steps p.tables e below (T.setTop (mkF m 109 #[x0, x1, x2, x3, x4, x5, .val (.long vu), .second, .val (.long vw), .second, .val (.int sel), x11, .val (.long a), .second, .val (.long d), .second, .val (.long b), .second, .val (.int ((XT.ushr sel (2 : Int32)) &&& (3 : Int32))), .val (.int ((((XT.ushr sel (4 : Int32)) &&& (3 : Int32)) % (3 : Int32)) - (1 : Int32))), .unset, .unset, .unset, .unset, .unset, .unset, .unset, .unset, .unset, .unset, x30, x31, x32, x33, x34, x35] [(.int ((XT.ushr sel (6 : Int32)) &&& (3 : Int32)))])) _
  refine XS.istore X.here hx rfl (hb hby at_109) rfl (l' := #[x0, x1, x2, x3, x4, x5, .val (.long vu), .second, .val (.long vw), .second, .val (.int sel), x11, .val (.long a), .second, .val (.long d), .second, .val (.long b), .second, .val (.int ((XT.ushr sel (2 : Int32)) &&& (3 : Int32))), .val (.int ((((XT.ushr sel (4 : Int32)) &&& (3 : Int32)) % (3 : Int32)) - (1 : Int32))), .val (.int ((XT.ushr sel (6 : Int32)) &&& (3 : Int32))), .unset, .unset, .unset, .unset, .unset, .unset, .unset, .unset, .unset, x30, x31, x32, x33, x34, x35]) rfl ?_
  show Steps p.tables e below (T.setTop (mkF m 111 #[x0, x1, x2, x3, x4, x5, .val (.long vu), .second, .val (.long vw), .second, .val (.int sel), x11, .val (.long a), .second, .val (.long d), .second, .val (.long b), .second, .val (.int ((XT.ushr sel (2 : Int32)) &&& (3 : Int32))), .val (.int ((((XT.ushr sel (4 : Int32)) &&& (3 : Int32)) % (3 : Int32)) - (1 : Int32))), .val (.int ((XT.ushr sel (6 : Int32)) &&& (3 : Int32))), .unset, .unset, .unset, .unset, .unset, .unset, .unset, .unset, .unset, x30, x31, x32, x33, x34, x35] [])) _
  refine XS.iload X.here hx rfl (hb hby at_111) rfl ?_
  show Steps p.tables e below (T.setTop (mkF m 113 #[x0, x1, x2, x3, x4, x5, .val (.long vu), .second, .val (.long vw), .second, .val (.int sel), x11, .val (.long a), .second, .val (.long d), .second, .val (.long b), .second, .val (.int ((XT.ushr sel (2 : Int32)) &&& (3 : Int32))), .val (.int ((((XT.ushr sel (4 : Int32)) &&& (3 : Int32)) % (3 : Int32)) - (1 : Int32))), .val (.int ((XT.ushr sel (6 : Int32)) &&& (3 : Int32))), .unset, .unset, .unset, .unset, .unset, .unset, .unset, .unset, .unset, x30, x31, x32, x33, x34, x35] [(.int sel)])) _
  refine XS.bipush X.here hx rfl (hb hby at_113) ?_
  show Steps p.tables e below (T.setTop (mkF m 115 #[x0, x1, x2, x3, x4, x5, .val (.long vu), .second, .val (.long vw), .second, .val (.int sel), x11, .val (.long a), .second, .val (.long d), .second, .val (.long b), .second, .val (.int ((XT.ushr sel (2 : Int32)) &&& (3 : Int32))), .val (.int ((((XT.ushr sel (4 : Int32)) &&& (3 : Int32)) % (3 : Int32)) - (1 : Int32))), .val (.int ((XT.ushr sel (6 : Int32)) &&& (3 : Int32))), .unset, .unset, .unset, .unset, .unset, .unset, .unset, .unset, .unset, x30, x31, x32, x33, x34, x35] [(.int (8 : Int32)), (.int sel)])) _
  refine XT.iushr X.here hx rfl (hb hby at_115) rfl ?_
  show Steps p.tables e below (T.setTop (mkF m 116 #[x0, x1, x2, x3, x4, x5, .val (.long vu), .second, .val (.long vw), .second, .val (.int sel), x11, .val (.long a), .second, .val (.long d), .second, .val (.long b), .second, .val (.int ((XT.ushr sel (2 : Int32)) &&& (3 : Int32))), .val (.int ((((XT.ushr sel (4 : Int32)) &&& (3 : Int32)) % (3 : Int32)) - (1 : Int32))), .val (.int ((XT.ushr sel (6 : Int32)) &&& (3 : Int32))), .unset, .unset, .unset, .unset, .unset, .unset, .unset, .unset, .unset, x30, x31, x32, x33, x34, x35] [(.int (XT.ushr sel (8 : Int32)))])) _
  refine XS.iconst X.here hx rfl (hb hby at_116) ?_
  show Steps p.tables e below (T.setTop (mkF m 117 #[x0, x1, x2, x3, x4, x5, .val (.long vu), .second, .val (.long vw), .second, .val (.int sel), x11, .val (.long a), .second, .val (.long d), .second, .val (.long b), .second, .val (.int ((XT.ushr sel (2 : Int32)) &&& (3 : Int32))), .val (.int ((((XT.ushr sel (4 : Int32)) &&& (3 : Int32)) % (3 : Int32)) - (1 : Int32))), .val (.int ((XT.ushr sel (6 : Int32)) &&& (3 : Int32))), .unset, .unset, .unset, .unset, .unset, .unset, .unset, .unset, .unset, x30, x31, x32, x33, x34, x35] [(.int (3 : Int32)), (.int (XT.ushr sel (8 : Int32)))])) _
  refine XS.iand X.here hx rfl (hb hby at_117) rfl ?_
  show Steps p.tables e below (T.setTop (mkF m 118 #[x0, x1, x2, x3, x4, x5, .val (.long vu), .second, .val (.long vw), .second, .val (.int sel), x11, .val (.long a), .second, .val (.long d), .second, .val (.long b), .second, .val (.int ((XT.ushr sel (2 : Int32)) &&& (3 : Int32))), .val (.int ((((XT.ushr sel (4 : Int32)) &&& (3 : Int32)) % (3 : Int32)) - (1 : Int32))), .val (.int ((XT.ushr sel (6 : Int32)) &&& (3 : Int32))), .unset, .unset, .unset, .unset, .unset, .unset, .unset, .unset, .unset, x30, x31, x32, x33, x34, x35] [(.int ((XT.ushr sel (8 : Int32)) &&& (3 : Int32)))])) _
  refine XS.iconst X.here hx rfl (hb hby at_118) ?_
  show Steps p.tables e below (T.setTop (mkF m 119 #[x0, x1, x2, x3, x4, x5, .val (.long vu), .second, .val (.long vw), .second, .val (.int sel), x11, .val (.long a), .second, .val (.long d), .second, .val (.long b), .second, .val (.int ((XT.ushr sel (2 : Int32)) &&& (3 : Int32))), .val (.int ((((XT.ushr sel (4 : Int32)) &&& (3 : Int32)) % (3 : Int32)) - (1 : Int32))), .val (.int ((XT.ushr sel (6 : Int32)) &&& (3 : Int32))), .unset, .unset, .unset, .unset, .unset, .unset, .unset, .unset, .unset, x30, x31, x32, x33, x34, x35] [(.int (3 : Int32)), (.int ((XT.ushr sel (8 : Int32)) &&& (3 : Int32)))])) _
  refine Jvm.RoadKit.iremM (g := (mkF m 119 #[x0, x1, x2, x3, x4, x5, .val (.long vu), .second, .val (.long vw), .second, .val (.int sel), x11, .val (.long a), .second, .val (.long d), .second, .val (.long b), .second, .val (.int ((XT.ushr sel (2 : Int32)) &&& (3 : Int32))), .val (.int ((((XT.ushr sel (4 : Int32)) &&& (3 : Int32)) % (3 : Int32)) - (1 : Int32))), .val (.int ((XT.ushr sel (6 : Int32)) &&& (3 : Int32))), .unset, .unset, .unset, .unset, .unset, .unset, .unset, .unset, .unset, x30, x31, x32, x33, x34, x35] [(.int (3 : Int32)), (.int ((XT.ushr sel (8 : Int32)) &&& (3 : Int32)))])) X hx rfl (hb hby at_119) rfl (by decide) ?_
  show Steps p.tables e below (T.setTop (mkF m 120 #[x0, x1, x2, x3, x4, x5, .val (.long vu), .second, .val (.long vw), .second, .val (.int sel), x11, .val (.long a), .second, .val (.long d), .second, .val (.long b), .second, .val (.int ((XT.ushr sel (2 : Int32)) &&& (3 : Int32))), .val (.int ((((XT.ushr sel (4 : Int32)) &&& (3 : Int32)) % (3 : Int32)) - (1 : Int32))), .val (.int ((XT.ushr sel (6 : Int32)) &&& (3 : Int32))), .unset, .unset, .unset, .unset, .unset, .unset, .unset, .unset, .unset, x30, x31, x32, x33, x34, x35] [(.int (((XT.ushr sel (8 : Int32)) &&& (3 : Int32)) % (3 : Int32)))])) _
  refine XS.iconst X.here hx rfl (hb hby at_120) ?_
  show Steps p.tables e below (T.setTop (mkF m 121 #[x0, x1, x2, x3, x4, x5, .val (.long vu), .second, .val (.long vw), .second, .val (.int sel), x11, .val (.long a), .second, .val (.long d), .second, .val (.long b), .second, .val (.int ((XT.ushr sel (2 : Int32)) &&& (3 : Int32))), .val (.int ((((XT.ushr sel (4 : Int32)) &&& (3 : Int32)) % (3 : Int32)) - (1 : Int32))), .val (.int ((XT.ushr sel (6 : Int32)) &&& (3 : Int32))), .unset, .unset, .unset, .unset, .unset, .unset, .unset, .unset, .unset, x30, x31, x32, x33, x34, x35] [(.int (1 : Int32)), (.int (((XT.ushr sel (8 : Int32)) &&& (3 : Int32)) % (3 : Int32)))])) _
  refine XS.isub X.here hx rfl (hb hby at_121) rfl ?_
  show Steps p.tables e below (T.setTop (mkF m 122 #[x0, x1, x2, x3, x4, x5, .val (.long vu), .second, .val (.long vw), .second, .val (.int sel), x11, .val (.long a), .second, .val (.long d), .second, .val (.long b), .second, .val (.int ((XT.ushr sel (2 : Int32)) &&& (3 : Int32))), .val (.int ((((XT.ushr sel (4 : Int32)) &&& (3 : Int32)) % (3 : Int32)) - (1 : Int32))), .val (.int ((XT.ushr sel (6 : Int32)) &&& (3 : Int32))), .unset, .unset, .unset, .unset, .unset, .unset, .unset, .unset, .unset, x30, x31, x32, x33, x34, x35] [(.int ((((XT.ushr sel (8 : Int32)) &&& (3 : Int32)) % (3 : Int32)) - (1 : Int32)))])) _
  refine XS.istore X.here hx rfl (hb hby at_122) rfl (l' := #[x0, x1, x2, x3, x4, x5, .val (.long vu), .second, .val (.long vw), .second, .val (.int sel), x11, .val (.long a), .second, .val (.long d), .second, .val (.long b), .second, .val (.int ((XT.ushr sel (2 : Int32)) &&& (3 : Int32))), .val (.int ((((XT.ushr sel (4 : Int32)) &&& (3 : Int32)) % (3 : Int32)) - (1 : Int32))), .val (.int ((XT.ushr sel (6 : Int32)) &&& (3 : Int32))), .val (.int ((((XT.ushr sel (8 : Int32)) &&& (3 : Int32)) % (3 : Int32)) - (1 : Int32))), .unset, .unset, .unset, .unset, .unset, .unset, .unset, .unset, x30, x31, x32, x33, x34, x35]) rfl ?_
  show Steps p.tables e below (T.setTop (mkF m 124 #[x0, x1, x2, x3, x4, x5, .val (.long vu), .second, .val (.long vw), .second, .val (.int sel), x11, .val (.long a), .second, .val (.long d), .second, .val (.long b), .second, .val (.int ((XT.ushr sel (2 : Int32)) &&& (3 : Int32))), .val (.int ((((XT.ushr sel (4 : Int32)) &&& (3 : Int32)) % (3 : Int32)) - (1 : Int32))), .val (.int ((XT.ushr sel (6 : Int32)) &&& (3 : Int32))), .val (.int ((((XT.ushr sel (8 : Int32)) &&& (3 : Int32)) % (3 : Int32)) - (1 : Int32))), .unset, .unset, .unset, .unset, .unset, .unset, .unset, .unset, x30, x31, x32, x33, x34, x35] [])) _
  refine XS.iload X.here hx rfl (hb hby at_124) rfl ?_
  show Steps p.tables e below (T.setTop (mkF m 126 #[x0, x1, x2, x3, x4, x5, .val (.long vu), .second, .val (.long vw), .second, .val (.int sel), x11, .val (.long a), .second, .val (.long d), .second, .val (.long b), .second, .val (.int ((XT.ushr sel (2 : Int32)) &&& (3 : Int32))), .val (.int ((((XT.ushr sel (4 : Int32)) &&& (3 : Int32)) % (3 : Int32)) - (1 : Int32))), .val (.int ((XT.ushr sel (6 : Int32)) &&& (3 : Int32))), .val (.int ((((XT.ushr sel (8 : Int32)) &&& (3 : Int32)) % (3 : Int32)) - (1 : Int32))), .unset, .unset, .unset, .unset, .unset, .unset, .unset, .unset, x30, x31, x32, x33, x34, x35] [(.int ((XT.ushr sel (2 : Int32)) &&& (3 : Int32)))])) _
  refine XT.lload X.here hx rfl (hb hby at_126) rfl ?_
  show Steps p.tables e below (T.setTop (mkF m 128 #[x0, x1, x2, x3, x4, x5, .val (.long vu), .second, .val (.long vw), .second, .val (.int sel), x11, .val (.long a), .second, .val (.long d), .second, .val (.long b), .second, .val (.int ((XT.ushr sel (2 : Int32)) &&& (3 : Int32))), .val (.int ((((XT.ushr sel (4 : Int32)) &&& (3 : Int32)) % (3 : Int32)) - (1 : Int32))), .val (.int ((XT.ushr sel (6 : Int32)) &&& (3 : Int32))), .val (.int ((((XT.ushr sel (8 : Int32)) &&& (3 : Int32)) % (3 : Int32)) - (1 : Int32))), .unset, .unset, .unset, .unset, .unset, .unset, .unset, .unset, x30, x31, x32, x33, x34, x35] [(.long vu), (.int ((XT.ushr sel (2 : Int32)) &&& (3 : Int32)))])) _
  refine XT.lload X.here hx rfl (hb hby at_128) rfl ?_
  show Steps p.tables e below (T.setTop (mkF m 130 #[x0, x1, x2, x3, x4, x5, .val (.long vu), .second, .val (.long vw), .second, .val (.int sel), x11, .val (.long a), .second, .val (.long d), .second, .val (.long b), .second, .val (.int ((XT.ushr sel (2 : Int32)) &&& (3 : Int32))), .val (.int ((((XT.ushr sel (4 : Int32)) &&& (3 : Int32)) % (3 : Int32)) - (1 : Int32))), .val (.int ((XT.ushr sel (6 : Int32)) &&& (3 : Int32))), .val (.int ((((XT.ushr sel (8 : Int32)) &&& (3 : Int32)) % (3 : Int32)) - (1 : Int32))), .unset, .unset, .unset, .unset, .unset, .unset, .unset, .unset, x30, x31, x32, x33, x34, x35] [(.long a), (.long vu), (.int ((XT.ushr sel (2 : Int32)) &&& (3 : Int32)))])) _
  refine XT.lload X.here hx rfl (hb hby at_130) rfl ?_
  show Steps p.tables e below (T.setTop (mkF m 132 #[x0, x1, x2, x3, x4, x5, .val (.long vu), .second, .val (.long vw), .second, .val (.int sel), x11, .val (.long a), .second, .val (.long d), .second, .val (.long b), .second, .val (.int ((XT.ushr sel (2 : Int32)) &&& (3 : Int32))), .val (.int ((((XT.ushr sel (4 : Int32)) &&& (3 : Int32)) % (3 : Int32)) - (1 : Int32))), .val (.int ((XT.ushr sel (6 : Int32)) &&& (3 : Int32))), .val (.int ((((XT.ushr sel (8 : Int32)) &&& (3 : Int32)) % (3 : Int32)) - (1 : Int32))), .unset, .unset, .unset, .unset, .unset, .unset, .unset, .unset, x30, x31, x32, x33, x34, x35] [(.long b), (.long a), (.long vu), (.int ((XT.ushr sel (2 : Int32)) &&& (3 : Int32)))])) _
  refine XT.lload X.here hx rfl (hb hby at_132) rfl ?_
  show Steps p.tables e below (T.setTop (mkF m 134 #[x0, x1, x2, x3, x4, x5, .val (.long vu), .second, .val (.long vw), .second, .val (.int sel), x11, .val (.long a), .second, .val (.long d), .second, .val (.long b), .second, .val (.int ((XT.ushr sel (2 : Int32)) &&& (3 : Int32))), .val (.int ((((XT.ushr sel (4 : Int32)) &&& (3 : Int32)) % (3 : Int32)) - (1 : Int32))), .val (.int ((XT.ushr sel (6 : Int32)) &&& (3 : Int32))), .val (.int ((((XT.ushr sel (8 : Int32)) &&& (3 : Int32)) % (3 : Int32)) - (1 : Int32))), .unset, .unset, .unset, .unset, .unset, .unset, .unset, .unset, x30, x31, x32, x33, x34, x35] [(.long d), (.long b), (.long a), (.long vu), (.int ((XT.ushr sel (2 : Int32)) &&& (3 : Int32)))])) _
  refine st134 _ ?_
  show Steps p.tables e below (T134.setTop (mkF m 137 #[x0, x1, x2, x3, x4, x5, .val (.long vu), .second, .val (.long vw), .second, .val (.int sel), x11, .val (.long a), .second, .val (.long d), .second, .val (.long b), .second, .val (.int ((XT.ushr sel (2 : Int32)) &&& (3 : Int32))), .val (.int ((((XT.ushr sel (4 : Int32)) &&& (3 : Int32)) % (3 : Int32)) - (1 : Int32))), .val (.int ((XT.ushr sel (6 : Int32)) &&& (3 : Int32))), .val (.int ((((XT.ushr sel (8 : Int32)) &&& (3 : Int32)) % (3 : Int32)) - (1 : Int32))), .unset, .unset, .unset, .unset, .unset, .unset, .unset, .unset, x30, x31, x32, x33, x34, x35] [(.long (own_base ((XT.ushr sel (2 : Int32)) &&& (3 : Int32)) vu a b d))])) _
  refine XS.iload X134.here hx rfl (hb hby at_137) rfl ?_
  show Steps p.tables e below (T134.setTop (mkF m 139 #[x0, x1, x2, x3, x4, x5, .val (.long vu), .second, .val (.long vw), .second, .val (.int sel), x11, .val (.long a), .second, .val (.long d), .second, .val (.long b), .second, .val (.int ((XT.ushr sel (2 : Int32)) &&& (3 : Int32))), .val (.int ((((XT.ushr sel (4 : Int32)) &&& (3 : Int32)) % (3 : Int32)) - (1 : Int32))), .val (.int ((XT.ushr sel (6 : Int32)) &&& (3 : Int32))), .val (.int ((((XT.ushr sel (8 : Int32)) &&& (3 : Int32)) % (3 : Int32)) - (1 : Int32))), .unset, .unset, .unset, .unset, .unset, .unset, .unset, .unset, x30, x31, x32, x33, x34, x35] [(.int ((((XT.ushr sel (4 : Int32)) &&& (3 : Int32)) % (3 : Int32)) - (1 : Int32))), (.long (own_base ((XT.ushr sel (2 : Int32)) &&& (3 : Int32)) vu a b d))])) _
  refine XT.i2l X134.here hx rfl (hb hby at_139) rfl ?_
  show Steps p.tables e below (T134.setTop (mkF m 140 #[x0, x1, x2, x3, x4, x5, .val (.long vu), .second, .val (.long vw), .second, .val (.int sel), x11, .val (.long a), .second, .val (.long d), .second, .val (.long b), .second, .val (.int ((XT.ushr sel (2 : Int32)) &&& (3 : Int32))), .val (.int ((((XT.ushr sel (4 : Int32)) &&& (3 : Int32)) % (3 : Int32)) - (1 : Int32))), .val (.int ((XT.ushr sel (6 : Int32)) &&& (3 : Int32))), .val (.int ((((XT.ushr sel (8 : Int32)) &&& (3 : Int32)) % (3 : Int32)) - (1 : Int32))), .unset, .unset, .unset, .unset, .unset, .unset, .unset, .unset, x30, x31, x32, x33, x34, x35] [(.long ((((XT.ushr sel (4 : Int32)) &&& (3 : Int32)) % (3 : Int32)) - (1 : Int32)).toInt64), (.long (own_base ((XT.ushr sel (2 : Int32)) &&& (3 : Int32)) vu a b d))])) _
  refine XT.ladd X134.here hx rfl (hb hby at_140) rfl ?_
  show Steps p.tables e below (T134.setTop (mkF m 141 #[x0, x1, x2, x3, x4, x5, .val (.long vu), .second, .val (.long vw), .second, .val (.int sel), x11, .val (.long a), .second, .val (.long d), .second, .val (.long b), .second, .val (.int ((XT.ushr sel (2 : Int32)) &&& (3 : Int32))), .val (.int ((((XT.ushr sel (4 : Int32)) &&& (3 : Int32)) % (3 : Int32)) - (1 : Int32))), .val (.int ((XT.ushr sel (6 : Int32)) &&& (3 : Int32))), .val (.int ((((XT.ushr sel (8 : Int32)) &&& (3 : Int32)) % (3 : Int32)) - (1 : Int32))), .unset, .unset, .unset, .unset, .unset, .unset, .unset, .unset, x30, x31, x32, x33, x34, x35] [(.long ((own_base ((XT.ushr sel (2 : Int32)) &&& (3 : Int32)) vu a b d) + ((((XT.ushr sel (4 : Int32)) &&& (3 : Int32)) % (3 : Int32)) - (1 : Int32)).toInt64))])) _
  rw [hr1]
  show Steps p.tables e below (T134.setTop (mkF m 141 #[x0, x1, x2, x3, x4, x5, .val (.long vu), .second, .val (.long vw), .second, .val (.int sel), x11, .val (.long a), .second, .val (.long d), .second, .val (.long b), .second, .val (.int ((XT.ushr sel (2 : Int32)) &&& (3 : Int32))), .val (.int ((((XT.ushr sel (4 : Int32)) &&& (3 : Int32)) % (3 : Int32)) - (1 : Int32))), .val (.int ((XT.ushr sel (6 : Int32)) &&& (3 : Int32))), .val (.int ((((XT.ushr sel (8 : Int32)) &&& (3 : Int32)) % (3 : Int32)) - (1 : Int32))), .unset, .unset, .unset, .unset, .unset, .unset, .unset, .unset, x30, x31, x32, x33, x34, x35] [(.long r1)])) _
  refine XT.lstore X134.here hx rfl (hb hby at_141) rfl (l' := #[x0, x1, x2, x3, x4, x5, .val (.long vu), .second, .val (.long vw), .second, .val (.int sel), x11, .val (.long a), .second, .val (.long d), .second, .val (.long b), .second, .val (.int ((XT.ushr sel (2 : Int32)) &&& (3 : Int32))), .val (.int ((((XT.ushr sel (4 : Int32)) &&& (3 : Int32)) % (3 : Int32)) - (1 : Int32))), .val (.int ((XT.ushr sel (6 : Int32)) &&& (3 : Int32))), .val (.int ((((XT.ushr sel (8 : Int32)) &&& (3 : Int32)) % (3 : Int32)) - (1 : Int32))), .val (.long r1), .second, .unset, .unset, .unset, .unset, .unset, .unset, x30, x31, x32, x33, x34, x35]) rfl ?_
  show Steps p.tables e below (T134.setTop (mkF m 143 #[x0, x1, x2, x3, x4, x5, .val (.long vu), .second, .val (.long vw), .second, .val (.int sel), x11, .val (.long a), .second, .val (.long d), .second, .val (.long b), .second, .val (.int ((XT.ushr sel (2 : Int32)) &&& (3 : Int32))), .val (.int ((((XT.ushr sel (4 : Int32)) &&& (3 : Int32)) % (3 : Int32)) - (1 : Int32))), .val (.int ((XT.ushr sel (6 : Int32)) &&& (3 : Int32))), .val (.int ((((XT.ushr sel (8 : Int32)) &&& (3 : Int32)) % (3 : Int32)) - (1 : Int32))), .val (.long r1), .second, .unset, .unset, .unset, .unset, .unset, .unset, x30, x31, x32, x33, x34, x35] [])) _
  refine XS.iload X134.here hx rfl (hb hby at_143) rfl ?_
  show Steps p.tables e below (T134.setTop (mkF m 145 #[x0, x1, x2, x3, x4, x5, .val (.long vu), .second, .val (.long vw), .second, .val (.int sel), x11, .val (.long a), .second, .val (.long d), .second, .val (.long b), .second, .val (.int ((XT.ushr sel (2 : Int32)) &&& (3 : Int32))), .val (.int ((((XT.ushr sel (4 : Int32)) &&& (3 : Int32)) % (3 : Int32)) - (1 : Int32))), .val (.int ((XT.ushr sel (6 : Int32)) &&& (3 : Int32))), .val (.int ((((XT.ushr sel (8 : Int32)) &&& (3 : Int32)) % (3 : Int32)) - (1 : Int32))), .val (.long r1), .second, .unset, .unset, .unset, .unset, .unset, .unset, x30, x31, x32, x33, x34, x35] [(.int ((XT.ushr sel (6 : Int32)) &&& (3 : Int32)))])) _
  refine XT.lload X134.here hx rfl (hb hby at_145) rfl ?_
  show Steps p.tables e below (T134.setTop (mkF m 147 #[x0, x1, x2, x3, x4, x5, .val (.long vu), .second, .val (.long vw), .second, .val (.int sel), x11, .val (.long a), .second, .val (.long d), .second, .val (.long b), .second, .val (.int ((XT.ushr sel (2 : Int32)) &&& (3 : Int32))), .val (.int ((((XT.ushr sel (4 : Int32)) &&& (3 : Int32)) % (3 : Int32)) - (1 : Int32))), .val (.int ((XT.ushr sel (6 : Int32)) &&& (3 : Int32))), .val (.int ((((XT.ushr sel (8 : Int32)) &&& (3 : Int32)) % (3 : Int32)) - (1 : Int32))), .val (.long r1), .second, .unset, .unset, .unset, .unset, .unset, .unset, x30, x31, x32, x33, x34, x35] [(.long vw), (.int ((XT.ushr sel (6 : Int32)) &&& (3 : Int32)))])) _
  refine XT.lload X134.here hx rfl (hb hby at_147) rfl ?_
  show Steps p.tables e below (T134.setTop (mkF m 149 #[x0, x1, x2, x3, x4, x5, .val (.long vu), .second, .val (.long vw), .second, .val (.int sel), x11, .val (.long a), .second, .val (.long d), .second, .val (.long b), .second, .val (.int ((XT.ushr sel (2 : Int32)) &&& (3 : Int32))), .val (.int ((((XT.ushr sel (4 : Int32)) &&& (3 : Int32)) % (3 : Int32)) - (1 : Int32))), .val (.int ((XT.ushr sel (6 : Int32)) &&& (3 : Int32))), .val (.int ((((XT.ushr sel (8 : Int32)) &&& (3 : Int32)) % (3 : Int32)) - (1 : Int32))), .val (.long r1), .second, .unset, .unset, .unset, .unset, .unset, .unset, x30, x31, x32, x33, x34, x35] [(.long a), (.long vw), (.int ((XT.ushr sel (6 : Int32)) &&& (3 : Int32)))])) _
  refine XT.lload X134.here hx rfl (hb hby at_149) rfl ?_
  show Steps p.tables e below (T134.setTop (mkF m 151 #[x0, x1, x2, x3, x4, x5, .val (.long vu), .second, .val (.long vw), .second, .val (.int sel), x11, .val (.long a), .second, .val (.long d), .second, .val (.long b), .second, .val (.int ((XT.ushr sel (2 : Int32)) &&& (3 : Int32))), .val (.int ((((XT.ushr sel (4 : Int32)) &&& (3 : Int32)) % (3 : Int32)) - (1 : Int32))), .val (.int ((XT.ushr sel (6 : Int32)) &&& (3 : Int32))), .val (.int ((((XT.ushr sel (8 : Int32)) &&& (3 : Int32)) % (3 : Int32)) - (1 : Int32))), .val (.long r1), .second, .unset, .unset, .unset, .unset, .unset, .unset, x30, x31, x32, x33, x34, x35] [(.long b), (.long a), (.long vw), (.int ((XT.ushr sel (6 : Int32)) &&& (3 : Int32)))])) _
  refine XT.lload X134.here hx rfl (hb hby at_151) rfl ?_
  show Steps p.tables e below (T134.setTop (mkF m 153 #[x0, x1, x2, x3, x4, x5, .val (.long vu), .second, .val (.long vw), .second, .val (.int sel), x11, .val (.long a), .second, .val (.long d), .second, .val (.long b), .second, .val (.int ((XT.ushr sel (2 : Int32)) &&& (3 : Int32))), .val (.int ((((XT.ushr sel (4 : Int32)) &&& (3 : Int32)) % (3 : Int32)) - (1 : Int32))), .val (.int ((XT.ushr sel (6 : Int32)) &&& (3 : Int32))), .val (.int ((((XT.ushr sel (8 : Int32)) &&& (3 : Int32)) % (3 : Int32)) - (1 : Int32))), .val (.long r1), .second, .unset, .unset, .unset, .unset, .unset, .unset, x30, x31, x32, x33, x34, x35] [(.long d), (.long b), (.long a), (.long vw), (.int ((XT.ushr sel (6 : Int32)) &&& (3 : Int32)))])) _
  refine st135 _ ?_
  show Steps p.tables e below (T135.setTop (mkF m 156 #[x0, x1, x2, x3, x4, x5, .val (.long vu), .second, .val (.long vw), .second, .val (.int sel), x11, .val (.long a), .second, .val (.long d), .second, .val (.long b), .second, .val (.int ((XT.ushr sel (2 : Int32)) &&& (3 : Int32))), .val (.int ((((XT.ushr sel (4 : Int32)) &&& (3 : Int32)) % (3 : Int32)) - (1 : Int32))), .val (.int ((XT.ushr sel (6 : Int32)) &&& (3 : Int32))), .val (.int ((((XT.ushr sel (8 : Int32)) &&& (3 : Int32)) % (3 : Int32)) - (1 : Int32))), .val (.long r1), .second, .unset, .unset, .unset, .unset, .unset, .unset, x30, x31, x32, x33, x34, x35] [(.long (own_base ((XT.ushr sel (6 : Int32)) &&& (3 : Int32)) vw a b d))])) _
  refine XS.iload X135.here hx rfl (hb hby at_156) rfl ?_
  show Steps p.tables e below (T135.setTop (mkF m 158 #[x0, x1, x2, x3, x4, x5, .val (.long vu), .second, .val (.long vw), .second, .val (.int sel), x11, .val (.long a), .second, .val (.long d), .second, .val (.long b), .second, .val (.int ((XT.ushr sel (2 : Int32)) &&& (3 : Int32))), .val (.int ((((XT.ushr sel (4 : Int32)) &&& (3 : Int32)) % (3 : Int32)) - (1 : Int32))), .val (.int ((XT.ushr sel (6 : Int32)) &&& (3 : Int32))), .val (.int ((((XT.ushr sel (8 : Int32)) &&& (3 : Int32)) % (3 : Int32)) - (1 : Int32))), .val (.long r1), .second, .unset, .unset, .unset, .unset, .unset, .unset, x30, x31, x32, x33, x34, x35] [(.int ((((XT.ushr sel (8 : Int32)) &&& (3 : Int32)) % (3 : Int32)) - (1 : Int32))), (.long (own_base ((XT.ushr sel (6 : Int32)) &&& (3 : Int32)) vw a b d))])) _
  refine XT.i2l X135.here hx rfl (hb hby at_158) rfl ?_
  show Steps p.tables e below (T135.setTop (mkF m 159 #[x0, x1, x2, x3, x4, x5, .val (.long vu), .second, .val (.long vw), .second, .val (.int sel), x11, .val (.long a), .second, .val (.long d), .second, .val (.long b), .second, .val (.int ((XT.ushr sel (2 : Int32)) &&& (3 : Int32))), .val (.int ((((XT.ushr sel (4 : Int32)) &&& (3 : Int32)) % (3 : Int32)) - (1 : Int32))), .val (.int ((XT.ushr sel (6 : Int32)) &&& (3 : Int32))), .val (.int ((((XT.ushr sel (8 : Int32)) &&& (3 : Int32)) % (3 : Int32)) - (1 : Int32))), .val (.long r1), .second, .unset, .unset, .unset, .unset, .unset, .unset, x30, x31, x32, x33, x34, x35] [(.long ((((XT.ushr sel (8 : Int32)) &&& (3 : Int32)) % (3 : Int32)) - (1 : Int32)).toInt64), (.long (own_base ((XT.ushr sel (6 : Int32)) &&& (3 : Int32)) vw a b d))])) _
  refine XT.ladd X135.here hx rfl (hb hby at_159) rfl ?_
  show Steps p.tables e below (T135.setTop (mkF m 160 #[x0, x1, x2, x3, x4, x5, .val (.long vu), .second, .val (.long vw), .second, .val (.int sel), x11, .val (.long a), .second, .val (.long d), .second, .val (.long b), .second, .val (.int ((XT.ushr sel (2 : Int32)) &&& (3 : Int32))), .val (.int ((((XT.ushr sel (4 : Int32)) &&& (3 : Int32)) % (3 : Int32)) - (1 : Int32))), .val (.int ((XT.ushr sel (6 : Int32)) &&& (3 : Int32))), .val (.int ((((XT.ushr sel (8 : Int32)) &&& (3 : Int32)) % (3 : Int32)) - (1 : Int32))), .val (.long r1), .second, .unset, .unset, .unset, .unset, .unset, .unset, x30, x31, x32, x33, x34, x35] [(.long ((own_base ((XT.ushr sel (6 : Int32)) &&& (3 : Int32)) vw a b d) + ((((XT.ushr sel (8 : Int32)) &&& (3 : Int32)) % (3 : Int32)) - (1 : Int32)).toInt64))])) _
  rw [hr2]
  show Steps p.tables e below (T135.setTop (mkF m 160 #[x0, x1, x2, x3, x4, x5, .val (.long vu), .second, .val (.long vw), .second, .val (.int sel), x11, .val (.long a), .second, .val (.long d), .second, .val (.long b), .second, .val (.int ((XT.ushr sel (2 : Int32)) &&& (3 : Int32))), .val (.int ((((XT.ushr sel (4 : Int32)) &&& (3 : Int32)) % (3 : Int32)) - (1 : Int32))), .val (.int ((XT.ushr sel (6 : Int32)) &&& (3 : Int32))), .val (.int ((((XT.ushr sel (8 : Int32)) &&& (3 : Int32)) % (3 : Int32)) - (1 : Int32))), .val (.long r1), .second, .unset, .unset, .unset, .unset, .unset, .unset, x30, x31, x32, x33, x34, x35] [(.long r2)])) _
  refine XT.lstore X135.here hx rfl (hb hby at_160) rfl (l' := #[x0, x1, x2, x3, x4, x5, .val (.long vu), .second, .val (.long vw), .second, .val (.int sel), x11, .val (.long a), .second, .val (.long d), .second, .val (.long b), .second, .val (.int ((XT.ushr sel (2 : Int32)) &&& (3 : Int32))), .val (.int ((((XT.ushr sel (4 : Int32)) &&& (3 : Int32)) % (3 : Int32)) - (1 : Int32))), .val (.int ((XT.ushr sel (6 : Int32)) &&& (3 : Int32))), .val (.int ((((XT.ushr sel (8 : Int32)) &&& (3 : Int32)) % (3 : Int32)) - (1 : Int32))), .val (.long r1), .second, .val (.long r2), .second, .unset, .unset, .unset, .unset, x30, x31, x32, x33, x34, x35]) rfl ?_
  show Steps p.tables e below (T135.setTop (mkF m 162 #[x0, x1, x2, x3, x4, x5, .val (.long vu), .second, .val (.long vw), .second, .val (.int sel), x11, .val (.long a), .second, .val (.long d), .second, .val (.long b), .second, .val (.int ((XT.ushr sel (2 : Int32)) &&& (3 : Int32))), .val (.int ((((XT.ushr sel (4 : Int32)) &&& (3 : Int32)) % (3 : Int32)) - (1 : Int32))), .val (.int ((XT.ushr sel (6 : Int32)) &&& (3 : Int32))), .val (.int ((((XT.ushr sel (8 : Int32)) &&& (3 : Int32)) % (3 : Int32)) - (1 : Int32))), .val (.long r1), .second, .val (.long r2), .second, .unset, .unset, .unset, .unset, x30, x31, x32, x33, x34, x35] [])) _
  refine XT.lload X135.here hx rfl (hb hby at_162) rfl ?_
  show Steps p.tables e below (T135.setTop (mkF m 164 #[x0, x1, x2, x3, x4, x5, .val (.long vu), .second, .val (.long vw), .second, .val (.int sel), x11, .val (.long a), .second, .val (.long d), .second, .val (.long b), .second, .val (.int ((XT.ushr sel (2 : Int32)) &&& (3 : Int32))), .val (.int ((((XT.ushr sel (4 : Int32)) &&& (3 : Int32)) % (3 : Int32)) - (1 : Int32))), .val (.int ((XT.ushr sel (6 : Int32)) &&& (3 : Int32))), .val (.int ((((XT.ushr sel (8 : Int32)) &&& (3 : Int32)) % (3 : Int32)) - (1 : Int32))), .val (.long r1), .second, .val (.long r2), .second, .unset, .unset, .unset, .unset, x30, x31, x32, x33, x34, x35] [(.long r1)])) _
  refine XT.lload X135.here hx rfl (hb hby at_164) rfl ?_
  show Steps p.tables e below (T135.setTop (mkF m 166 #[x0, x1, x2, x3, x4, x5, .val (.long vu), .second, .val (.long vw), .second, .val (.int sel), x11, .val (.long a), .second, .val (.long d), .second, .val (.long b), .second, .val (.int ((XT.ushr sel (2 : Int32)) &&& (3 : Int32))), .val (.int ((((XT.ushr sel (4 : Int32)) &&& (3 : Int32)) % (3 : Int32)) - (1 : Int32))), .val (.int ((XT.ushr sel (6 : Int32)) &&& (3 : Int32))), .val (.int ((((XT.ushr sel (8 : Int32)) &&& (3 : Int32)) % (3 : Int32)) - (1 : Int32))), .val (.long r1), .second, .val (.long r2), .second, .unset, .unset, .unset, .unset, x30, x31, x32, x33, x34, x35] [(.long r2), (.long r1)])) _
  refine st136 _ ?_
  show Steps p.tables e below (T136.setTop (mkF m 169 #[x0, x1, x2, x3, x4, x5, .val (.long vu), .second, .val (.long vw), .second, .val (.int sel), x11, .val (.long a), .second, .val (.long d), .second, .val (.long b), .second, .val (.int ((XT.ushr sel (2 : Int32)) &&& (3 : Int32))), .val (.int ((((XT.ushr sel (4 : Int32)) &&& (3 : Int32)) % (3 : Int32)) - (1 : Int32))), .val (.int ((XT.ushr sel (6 : Int32)) &&& (3 : Int32))), .val (.int ((((XT.ushr sel (8 : Int32)) &&& (3 : Int32)) % (3 : Int32)) - (1 : Int32))), .val (.long r1), .second, .val (.long r2), .second, .unset, .unset, .unset, .unset, x30, x31, x32, x33, x34, x35] [(.long (if r2 < r1 then r2 else r1))])) _
  rw [hq1]
  show Steps p.tables e below (T136.setTop (mkF m 169 #[x0, x1, x2, x3, x4, x5, .val (.long vu), .second, .val (.long vw), .second, .val (.int sel), x11, .val (.long a), .second, .val (.long d), .second, .val (.long b), .second, .val (.int ((XT.ushr sel (2 : Int32)) &&& (3 : Int32))), .val (.int ((((XT.ushr sel (4 : Int32)) &&& (3 : Int32)) % (3 : Int32)) - (1 : Int32))), .val (.int ((XT.ushr sel (6 : Int32)) &&& (3 : Int32))), .val (.int ((((XT.ushr sel (8 : Int32)) &&& (3 : Int32)) % (3 : Int32)) - (1 : Int32))), .val (.long r1), .second, .val (.long r2), .second, .unset, .unset, .unset, .unset, x30, x31, x32, x33, x34, x35] [(.long q1)])) _
  refine XT.lstore X136.here hx rfl (hb hby at_169) rfl (l' := #[x0, x1, x2, x3, x4, x5, .val (.long vu), .second, .val (.long vw), .second, .val (.int sel), x11, .val (.long a), .second, .val (.long d), .second, .val (.long b), .second, .val (.int ((XT.ushr sel (2 : Int32)) &&& (3 : Int32))), .val (.int ((((XT.ushr sel (4 : Int32)) &&& (3 : Int32)) % (3 : Int32)) - (1 : Int32))), .val (.int ((XT.ushr sel (6 : Int32)) &&& (3 : Int32))), .val (.int ((((XT.ushr sel (8 : Int32)) &&& (3 : Int32)) % (3 : Int32)) - (1 : Int32))), .val (.long r1), .second, .val (.long r2), .second, .val (.long q1), .second, .unset, .unset, x30, x31, x32, x33, x34, x35]) rfl ?_
  show Steps p.tables e below (T136.setTop (mkF m 171 #[x0, x1, x2, x3, x4, x5, .val (.long vu), .second, .val (.long vw), .second, .val (.int sel), x11, .val (.long a), .second, .val (.long d), .second, .val (.long b), .second, .val (.int ((XT.ushr sel (2 : Int32)) &&& (3 : Int32))), .val (.int ((((XT.ushr sel (4 : Int32)) &&& (3 : Int32)) % (3 : Int32)) - (1 : Int32))), .val (.int ((XT.ushr sel (6 : Int32)) &&& (3 : Int32))), .val (.int ((((XT.ushr sel (8 : Int32)) &&& (3 : Int32)) % (3 : Int32)) - (1 : Int32))), .val (.long r1), .second, .val (.long r2), .second, .val (.long q1), .second, .unset, .unset, x30, x31, x32, x33, x34, x35] [])) _
  refine XT.lload X136.here hx rfl (hb hby at_171) rfl ?_
  show Steps p.tables e below (T136.setTop (mkF m 173 #[x0, x1, x2, x3, x4, x5, .val (.long vu), .second, .val (.long vw), .second, .val (.int sel), x11, .val (.long a), .second, .val (.long d), .second, .val (.long b), .second, .val (.int ((XT.ushr sel (2 : Int32)) &&& (3 : Int32))), .val (.int ((((XT.ushr sel (4 : Int32)) &&& (3 : Int32)) % (3 : Int32)) - (1 : Int32))), .val (.int ((XT.ushr sel (6 : Int32)) &&& (3 : Int32))), .val (.int ((((XT.ushr sel (8 : Int32)) &&& (3 : Int32)) % (3 : Int32)) - (1 : Int32))), .val (.long r1), .second, .val (.long r2), .second, .val (.long q1), .second, .unset, .unset, x30, x31, x32, x33, x34, x35] [(.long r1)])) _
  refine XT.lload X136.here hx rfl (hb hby at_173) rfl ?_
  show Steps p.tables e below (T136.setTop (mkF m 175 #[x0, x1, x2, x3, x4, x5, .val (.long vu), .second, .val (.long vw), .second, .val (.int sel), x11, .val (.long a), .second, .val (.long d), .second, .val (.long b), .second, .val (.int ((XT.ushr sel (2 : Int32)) &&& (3 : Int32))), .val (.int ((((XT.ushr sel (4 : Int32)) &&& (3 : Int32)) % (3 : Int32)) - (1 : Int32))), .val (.int ((XT.ushr sel (6 : Int32)) &&& (3 : Int32))), .val (.int ((((XT.ushr sel (8 : Int32)) &&& (3 : Int32)) % (3 : Int32)) - (1 : Int32))), .val (.long r1), .second, .val (.long r2), .second, .val (.long q1), .second, .unset, .unset, x30, x31, x32, x33, x34, x35] [(.long r2), (.long r1)])) _
  refine st137 _ ?_
  show Steps p.tables e below (T137.setTop (mkF m 178 #[x0, x1, x2, x3, x4, x5, .val (.long vu), .second, .val (.long vw), .second, .val (.int sel), x11, .val (.long a), .second, .val (.long d), .second, .val (.long b), .second, .val (.int ((XT.ushr sel (2 : Int32)) &&& (3 : Int32))), .val (.int ((((XT.ushr sel (4 : Int32)) &&& (3 : Int32)) % (3 : Int32)) - (1 : Int32))), .val (.int ((XT.ushr sel (6 : Int32)) &&& (3 : Int32))), .val (.int ((((XT.ushr sel (8 : Int32)) &&& (3 : Int32)) % (3 : Int32)) - (1 : Int32))), .val (.long r1), .second, .val (.long r2), .second, .val (.long q1), .second, .unset, .unset, x30, x31, x32, x33, x34, x35] [(.long (if r1 < r2 then r2 else r1))])) _
  rw [hq2]
  show Steps p.tables e below (T137.setTop (mkF m 178 #[x0, x1, x2, x3, x4, x5, .val (.long vu), .second, .val (.long vw), .second, .val (.int sel), x11, .val (.long a), .second, .val (.long d), .second, .val (.long b), .second, .val (.int ((XT.ushr sel (2 : Int32)) &&& (3 : Int32))), .val (.int ((((XT.ushr sel (4 : Int32)) &&& (3 : Int32)) % (3 : Int32)) - (1 : Int32))), .val (.int ((XT.ushr sel (6 : Int32)) &&& (3 : Int32))), .val (.int ((((XT.ushr sel (8 : Int32)) &&& (3 : Int32)) % (3 : Int32)) - (1 : Int32))), .val (.long r1), .second, .val (.long r2), .second, .val (.long q1), .second, .unset, .unset, x30, x31, x32, x33, x34, x35] [(.long q2)])) _
  refine XT.lstore X137.here hx rfl (hb hby at_178) rfl (l' := #[x0, x1, x2, x3, x4, x5, .val (.long vu), .second, .val (.long vw), .second, .val (.int sel), x11, .val (.long a), .second, .val (.long d), .second, .val (.long b), .second, .val (.int ((XT.ushr sel (2 : Int32)) &&& (3 : Int32))), .val (.int ((((XT.ushr sel (4 : Int32)) &&& (3 : Int32)) % (3 : Int32)) - (1 : Int32))), .val (.int ((XT.ushr sel (6 : Int32)) &&& (3 : Int32))), .val (.int ((((XT.ushr sel (8 : Int32)) &&& (3 : Int32)) % (3 : Int32)) - (1 : Int32))), .val (.long r1), .second, .val (.long r2), .second, .val (.long q1), .second, .val (.long q2), .second, x30, x31, x32, x33, x34, x35]) rfl ?_
  show Steps p.tables e below (T137.setTop (mkF m 180 #[x0, x1, x2, x3, x4, x5, .val (.long vu), .second, .val (.long vw), .second, .val (.int sel), x11, .val (.long a), .second, .val (.long d), .second, .val (.long b), .second, .val (.int ((XT.ushr sel (2 : Int32)) &&& (3 : Int32))), .val (.int ((((XT.ushr sel (4 : Int32)) &&& (3 : Int32)) % (3 : Int32)) - (1 : Int32))), .val (.int ((XT.ushr sel (6 : Int32)) &&& (3 : Int32))), .val (.int ((((XT.ushr sel (8 : Int32)) &&& (3 : Int32)) % (3 : Int32)) - (1 : Int32))), .val (.long r1), .second, .val (.long r2), .second, .val (.long q1), .second, .val (.long q2), .second, x30, x31, x32, x33, x34, x35] [])) _
  exact k
theorem own_slt {x y : Int64} (h1 : ¬ x = y) (h2 : ¬ y < x) : x < y := by
  rw [Int64.lt_iff_toInt_lt] at *; rw [← Int64.toInt_inj] at h1; omega
theorem own_asc2 {a b d : Int64} (h : a < b) : ∀ i j, i < j → j < 2 → own_e a b d i < own_e a b d j := fun i j h1 h2 => by
  obtain rfl : i = 0 := by omega
  obtain rfl : j = 1 := by omega
  exact h
theorem own_asc3 {a b d : Int64} (h : a < b) (h' : b < d) : ∀ i j, i < j → j < 3 → own_e a b d i < own_e a b d j := fun i j h1 h2 => by
  have hc : (i = 0 ∧ j = 1) ∨ (i = 0 ∧ j = 2) ∨ (i = 1 ∧ j = 2) := by omega
  rcases hc with ⟨rfl, rfl⟩ | ⟨rfl, rfl⟩ | ⟨rfl, rfl⟩
  · exact h
  · show a < d
    rw [Int64.lt_iff_toInt_lt] at *; omega
  · exact h'
theorem own_srt (vx vy vz : Int64) : ¬ (if (if vy < vx then vy else vx) < (if vz < (if vx < vy then vy else vx) then vz else (if vx < vy then vy else vx)) then (if vz < (if vx < vy then vy else vx) then vz else (if vx < vy then vy else vx)) else (if vy < vx then vy else vx)) < (if (if vz < vy then vz else vy) < vx then (if vz < vy then vz else vy) else vx) ∧ ¬ (if vx < (if vy < vz then vz else vy) then (if vy < vz then vz else vy) else vx) < (if (if vy < vx then vy else vx) < (if vz < (if vx < vy then vy else vx) then vz else (if vx < vy then vy else vx)) then (if vz < (if vx < vy then vy else vx) then vz else (if vx < vy then vy else vx)) else (if vy < vx then vy else vx)) := by
  simp only [Int64.lt_iff_toInt_lt]
  constructor <;> (repeat' split) <;> omega
theorem own_mm (x y : Int64) : ¬ (if x < y then y else x) < (if y < x then y else x) := by
  simp only [Int64.lt_iff_toInt_lt]
  split <;> split <;> omega
theorem own_four (x : Int32) : (x &&& (3 : Int32)) = 0 ∨ (x &&& (3 : Int32)) = 1 ∨ (x &&& (3 : Int32)) = 2 ∨ (x &&& (3 : Int32)) = 3 := by
  have a := c_mask x (3 : Int32) 2 (by decide) (by decide)
  simp only [Nat.reducePow] at a
  have e0 : (0 : Int32).toInt = 0 := rfl
  have e1 : (1 : Int32).toInt = 1 := rfl
  have e2 : (2 : Int32).toInt = 2 := rfl
  have e3 : (3 : Int32).toInt = 3 := rfl
  simp only [← Int32.toInt_inj]
  omega
theorem pn_own_law0 : plainName "com/example/xml_element_search/xmlelementsearch/ElementScoresHoldsPinLaw" = true := by first | (simp [plainName, overriddenIn]; done) | decide +kernel
theorem ef_own_law0 (m : MethodId) (x0 : Int64) (x1 : Int64) (x2 : Int64) (x3 : Int64) (x4 : Int64) (x5 : Int32) : entryFrame m #[(.long x0), (.long x1), (.long x2), (.long x3), (.long x4), (.int x5)] maxLocals = mkF m 0 #[.val (.long x0), .second, .val (.long x1), .second, .val (.long x2), .second, .val (.long x3), .second, .val (.long x4), .second, .val (.int x5), .unset, .unset, .unset, .unset, .unset, .unset, .unset, .unset, .unset, .unset, .unset, .unset, .unset, .unset, .unset, .unset, .unset, .unset, .unset, .unset, .unset, .unset, .unset, .unset, .unset] [] := by first | (simp [entryFrame, mkF, argsToLocals, Value.category, maxLocals]; done) | rfl
def Q_own_law0 (Z : State) (vx : Int64) (vy : Int64) (vz : Int64) (vu : Int64) (vw : Int64) (sel : Int32) (a : Int64) (b : Int64) (d : Int64) (r1 : Int64) (r2 : Int64) (q1 : Int64) (q2 : Int64) (h0 : Heap) (n0 : Nat) (v : Option Value) (h : Heap) (L : List Loc) : Prop := v = some (.int 1) ∧ Fr n0 L
set_option maxRecDepth 65536 in
set_option maxHeartbeats 40000000 in
theorem own_law0 (l : Launch) (Z : State) (a0 : Array Value) (hw : ∀ d ∈ tables_1, d.before a0 Z = true) (ws : List Jvm.Cond) (vx : Int64) (vy : Int64) (vz : Int64) (vu : Int64) (vw : Int64) (sel : Int32) (a : Int64) (b : Int64) (d : Int64) (r1 : Int64) (r2 : Int64) (q1 : Int64) (q2 : Int64) (h0 : Heap) (n0 : Nat) (Z0 : n0 ≤ h0.size) (hn_ : (sel &&& (3 : Int32)) = (0 : Int32)) (hA : (if (if vz < vy then vz else vy) < vx then (if vz < vy then vz else vy) else vx) = a) (hC : (if vx < (if vy < vz then vz else vy) then (if vy < vz then vz else vy) else vx) = d) (hB : (if (if vy < vx then vy else vx) < (if vz < (if vx < vy then vy else vx) then vz else (if vx < vy then vy else vx)) then (if vz < (if vx < vy then vy else vx) then vz else (if vx < vy then vy else vx)) else (if vy < vx then vy else vx)) = b) (hr1 : ((own_base ((XT.ushr sel (2 : Int32)) &&& (3 : Int32)) vu a b d) + ((((XT.ushr sel (4 : Int32)) &&& (3 : Int32)) % (3 : Int32)) - (1 : Int32)).toInt64) = r1) (hr2 : ((own_base ((XT.ushr sel (6 : Int32)) &&& (3 : Int32)) vw a b d) + ((((XT.ushr sel (8 : Int32)) &&& (3 : Int32)) % (3 : Int32)) - (1 : Int32)).toInt64) = r2) (hq1 : (if r2 < r1 then r2 else r1) = q1) (hq2 : (if r1 < r2 then r2 else r1) = q2) (h_ab : ¬ b < a) (h_bc : ¬ d < b) (hqq : ¬ q2 < q1) :
    MetFree l x (head1 (Jvm.Cond.code x code maxLocals ret :: ws) room_1) (fun a U => a = #[(.long vx), (.long vy), (.long vz), (.long vu), (.long vw), (.int sel)] ∧ Z.Warmed39 U.vm ∧ U.heap = h0) (fun _ _ _ _ _ => True) (fun _ U o U' => ∃ v L, o = .returned v ∧ Q_own_law0 Z vx vy vz vu vw sel a b d r1 r2 q1 q2 h0 n0 v U'.heap L ∧ FrameEnd U o U' L 24 128) := by
  refine MetFree.of_bodySF (plainFor_of_name pn_own_law0) hisR ?_
  intro p e s m args below meth c s₁ Bd hml0 hP hK
  obtain ⟨rfl, hZ, hh⟩ := hP
  have hx := Bd.exec
  have hby := Bd.bytes
  have hml : c.maxLocals = 36 := hml0
  have hown : s.vm.findClass "com/example/xml_element_search/xmlelementsearch/ElementScoresHoldsPinLaw" = some m.cls := findClass_of_methodNamed Bd.named
  have hnm := (name_of_methodNamed Bd.named Bd.method).1
  have X0 : Stand p l e room_1 s m #[(.long vx), (.long vy), (.long vz), (.long vu), (.long vw), (.int sel)] below meth c s₁ [] 0 0 := Stand.of_body Bd
  have e0 : s₁.heap = h0 := by rw [← hh, Bd.state]; rfl
  have N0 := Fr.nil n0
  have pre0 : ∀ t, Steps p.tables e below (s₁.setTop (mkF m 0 #[.val (.long vx), .second, .val (.long vy), .second, .val (.long vz), .second, .val (.long vu), .second, .val (.long vw), .second, .val (.int sel), .unset, .unset, .unset, .unset, .unset, .unset, .unset, .unset, .unset, .unset, .unset, .unset, .unset, .unset, .unset, .unset, .unset, .unset, .unset, .unset, .unset, .unset, .unset, .unset, .unset] [])) t → Steps p.tables e below (s₁.setTop (entryFrame m #[(.long vx), (.long vy), (.long vz), (.long vu), (.long vw), (.int sel)] maxLocals)) t := fun t k => castTop (ef_own_law0 m (vx) (vy) (vz) (vu) (vw) (sel)) k
  obtain ⟨T138, L138, X138, e138, N138, st138⟩ := own_sA hw X0 hx hZ hby hml hown e0 N0 Z0 vx vy vz (.val (.long vu)) (.second) (.val (.long vw)) (.second) (.val (.int sel)) (.val (.int (0 : Int32))) (.unset) (.unset) (.unset) (.unset) (.unset) (.unset) (.unset) (.unset) (.unset) (.unset) (.unset) (.unset) (.unset) (.unset) (.unset) (.unset) (.unset) (.unset) a b d hA hC hB
  obtain ⟨T139, L139, X139, e139, N139, st139⟩ := own_sB hw X138 hx hZ hby hml hown e138 N138 Z0 (.val (.long vx)) (.second) (.val (.long vy)) (.second) (.val (.long vz)) (.second) vu vw sel (.val (.int (0 : Int32))) a d b (.unset) (.unset) (.unset) (.unset) (.unset) (.unset) r1 r2 q1 q2 hr1 hr2 hq1 hq2
  obtain ⟨T140, h140, X140, e140, E140, A140, D140, -, st140⟩ := newO X139 hx hZ hown (hw _ (List.mem_of_getElem? (i := 11) rfl)) (hw _ (List.mem_of_getElem? (i := 12) rfl)) (hw _ (List.mem_of_getElem? (i := 13) rfl)) e139 (g := (mkF m 180 #[.val (.long vx), .second, .val (.long vy), .second, .val (.long vz), .second, .val (.long vu), .second, .val (.long vw), .second, .val (.int sel), .val (.int (0 : Int32)), .val (.long a), .second, .val (.long d), .second, .val (.long b), .second, .val (.int ((XT.ushr sel (2 : Int32)) &&& (3 : Int32))), .val (.int ((((XT.ushr sel (4 : Int32)) &&& (3 : Int32)) % (3 : Int32)) - (1 : Int32))), .val (.int ((XT.ushr sel (6 : Int32)) &&& (3 : Int32))), .val (.int ((((XT.ushr sel (8 : Int32)) &&& (3 : Int32)) % (3 : Int32)) - (1 : Int32))), .val (.long r1), .second, .val (.long r2), .second, .val (.long q1), .second, .val (.long q2), .second, .unset, .unset, .unset, .unset, .unset, .unset] [])) rfl (hb hby at_180) (by decide) (by decide)
  obtain ⟨b140, g140⟩ : ∃ z, z = h0.size := ⟨_, rfl⟩
  rw [← g140] at A140 D140 st140
  have g_b140 : n0 ≤ b140 := Nat.le_trans Z0 (Nat.le_of_eq g140.symm)
  have F140_runStarts : Fld Z h140 b140 "com/example/xml_element_search/xmlelementsearch/ElementScores" "runStarts" "[I" .null := D140 (Or.inl (hw _ (List.mem_of_getElem? (i := 25) rfl))) (ty := (.array .int)) (by decide)
  have F140_elements : Fld Z h140 b140 "com/example/xml_element_search/xmlelementsearch/ElementScores" "elements" "[J" .null := D140 (Or.inl (hw _ (List.mem_of_getElem? (i := 31) rfl))) (ty := (.array .long)) (by decide)
  have F140_scores : Fld Z h140 b140 "com/example/xml_element_search/xmlelementsearch/ElementScores" "scores" "[D" .null := D140 (Or.inl (hw _ (List.mem_of_getElem? (i := 34) rfl))) (ty := (.array .double)) (by decide)
  have F140_size : Fld Z h140 b140 "com/example/xml_element_search/xmlelementsearch/ElementScores" "size" "I" (.int (0 : Int32)) := D140 (Or.inl (hw _ (List.mem_of_getElem? (i := 41) rfl))) (ty := .int) (by decide)
  have F140_runs : Fld Z h140 b140 "com/example/xml_element_search/xmlelementsearch/ElementScores" "runs" "I" (.int (0 : Int32)) := D140 (Or.inl (hw _ (List.mem_of_getElem? (i := 43) rfl))) (ty := .int) (by decide)
  obtain ⟨_, _, ⟨T141, L141, k141, n141⟩, -, X141, ⟨Lc141, hQ141, l141, y141, z141⟩, st141⟩ := X140.specialBack hx (y := (⟨"com/example/xml_element_search/xmlelementsearch/ElementScores", "<init>", "()V"⟩ : MethodName)) rfl hown (mvT hZ (hw _ (List.mem_of_getElem? (i := 14) rfl))) (mvT hZ (hw _ (List.mem_of_getElem? (i := 15) rfl))) (mvT hZ (hw _ (List.mem_of_getElem? (i := 16) rfl))) (by decide) (backOf (W := 1) (own_i0 l Z a0 hw [] b140 h140 n0 (Nat.le_trans Z0 E140.1) A140 F140_elements F140_scores F140_size F140_runStarts F140_runs g_b140) hZ (hw _ (List.mem_of_getElem? (i := 16) rfl)) (hw _ (List.mem_of_getElem? (i := 13) rfl)) (by decide) (by decide)) (g := (mkF m 184 #[.val (.long vx), .second, .val (.long vy), .second, .val (.long vz), .second, .val (.long vu), .second, .val (.long vw), .second, .val (.int sel), .val (.int (0 : Int32)), .val (.long a), .second, .val (.long d), .second, .val (.long b), .second, .val (.int ((XT.ushr sel (2 : Int32)) &&& (3 : Int32))), .val (.int ((((XT.ushr sel (4 : Int32)) &&& (3 : Int32)) % (3 : Int32)) - (1 : Int32))), .val (.int ((XT.ushr sel (6 : Int32)) &&& (3 : Int32))), .val (.int ((((XT.ushr sel (8 : Int32)) &&& (3 : Int32)) % (3 : Int32)) - (1 : Int32))), .val (.long r1), .second, .val (.long r2), .second, .val (.long q1), .second, .val (.long q2), .second, .unset, .unset, .unset, .unset, .unset, .unset] [(.ref b140), (.ref b140)])) rfl (by rw [hml]; rfl) (Steps.refl _) (a := b140) (argsL := []) (rest := [(.ref b140)]) (lenOf pd_9 rfl) rfl (by show 2 * 0 + _ ≤ _; exact Nat.le_of_eq rfl) (hb hby at_184) (fun _ _ => ⟨rfl, e140, (by decide : 1 + 3 ≤ _), (by decide : 5 + 17 ≤ _)⟩)
  dsimp only [Pt.U, Pt.locs, Pt.cells, Pt.slots] at X141 l141 y141 z141 st141 hQ141
  subst l141 y141 z141
  obtain ⟨rfl, N141q, ae, as_, ar, ke, ks, kr, ⟨g_ar, l1, l2, l3⟩, E_, F_e, F_s, F_n, F_r, F_u, V_e, V_s, V_r⟩ := hQ141
  have N141 := Fr.app N139 N141q
  have g_ae : n0 ≤ ae := Nat.le_trans g_ar (Nat.le_of_lt l2)
  have g_as_ : n0 ≤ as_ := Nat.le_trans g_ae (Nat.le_of_lt l3)
  obtain ⟨T142, h142, L142, y31_142, y32_142, y33_142, y34_142, y35_142, X142, e142, N142, -, st142⟩ := own_tail hw X141 hx hZ hby hml hown rfl N141 (Nat.le_trans g_ar (Nat.le_of_lt V_r.lt)) (.val (.long vx)) (.second) (.val (.long vy)) (.second) (.val (.long vz)) (.second) (.val (.long vu)) (.second) (.val (.long vw)) (.second) (.val (.int sel)) a d b (.val (.int ((XT.ushr sel (2 : Int32)) &&& (3 : Int32)))) (.val (.int ((((XT.ushr sel (4 : Int32)) &&& (3 : Int32)) % (3 : Int32)) - (1 : Int32)))) (.val (.int ((XT.ushr sel (6 : Int32)) &&& (3 : Int32)))) (.val (.int ((((XT.ushr sel (8 : Int32)) &&& (3 : Int32)) % (3 : Int32)) - (1 : Int32)))) (.val (.long r1)) (.second) (.val (.long r2)) (.second) q1 q2 b140 ae as_ ke ks (fun _ => Value.long 0) (fun _ => Value.double 0) (0 : Nat) (by decide) (fun i j _ h => absurd h (by omega)) hqq (fun j hj => match j, hj with | n + 0, h => absurd h (by omega)) (fun j hj => match j, hj with | n + 0, h => absurd h (by omega)) E_ F_n F_e F_s V_e V_s
  obtain ⟨fs, hr, hrun, hended, hW, hsame⟩ := X142.leave (v := some (.int (1 : Int32))) (fun h => by rw [Bd.returns] at h; cases h)
  refine ⟨_, _, pre0 _ ?_, hrun, hended, _, _, rfl, ?_, ⟨_, rfl⟩, hW, hsame.mono (by decide) (by decide)⟩
  · show Steps p.tables e below (s₁.setTop (mkF m 0 #[.val (.long vx), .second, .val (.long vy), .second, .val (.long vz), .second, .val (.long vu), .second, .val (.long vw), .second, .val (.int sel), .unset, .unset, .unset, .unset, .unset, .unset, .unset, .unset, .unset, .unset, .unset, .unset, .unset, .unset, .unset, .unset, .unset, .unset, .unset, .unset, .unset, .unset, .unset, .unset, .unset] [])) _
    refine XS.iload X0.here hx rfl (hb hby at_0) rfl ?_
    show Steps p.tables e below (s₁.setTop (mkF m 2 #[.val (.long vx), .second, .val (.long vy), .second, .val (.long vz), .second, .val (.long vu), .second, .val (.long vw), .second, .val (.int sel), .unset, .unset, .unset, .unset, .unset, .unset, .unset, .unset, .unset, .unset, .unset, .unset, .unset, .unset, .unset, .unset, .unset, .unset, .unset, .unset, .unset, .unset, .unset, .unset, .unset] [(.int sel)])) _
    refine XS.iconst X0.here hx rfl (hb hby at_2) ?_
    show Steps p.tables e below (s₁.setTop (mkF m 3 #[.val (.long vx), .second, .val (.long vy), .second, .val (.long vz), .second, .val (.long vu), .second, .val (.long vw), .second, .val (.int sel), .unset, .unset, .unset, .unset, .unset, .unset, .unset, .unset, .unset, .unset, .unset, .unset, .unset, .unset, .unset, .unset, .unset, .unset, .unset, .unset, .unset, .unset, .unset, .unset, .unset] [(.int (3 : Int32)), (.int sel)])) _
    refine XS.iand X0.here hx rfl (hb hby at_3) rfl ?_
    show Steps p.tables e below (s₁.setTop (mkF m 4 #[.val (.long vx), .second, .val (.long vy), .second, .val (.long vz), .second, .val (.long vu), .second, .val (.long vw), .second, .val (.int sel), .unset, .unset, .unset, .unset, .unset, .unset, .unset, .unset, .unset, .unset, .unset, .unset, .unset, .unset, .unset, .unset, .unset, .unset, .unset, .unset, .unset, .unset, .unset, .unset, .unset] [(.int (sel &&& (3 : Int32)))])) _
    rw [hn_]
    show Steps p.tables e below (s₁.setTop (mkF m 4 #[.val (.long vx), .second, .val (.long vy), .second, .val (.long vz), .second, .val (.long vu), .second, .val (.long vw), .second, .val (.int sel), .unset, .unset, .unset, .unset, .unset, .unset, .unset, .unset, .unset, .unset, .unset, .unset, .unset, .unset, .unset, .unset, .unset, .unset, .unset, .unset, .unset, .unset, .unset, .unset, .unset] [(.int (0 : Int32))])) _
    refine XS.istore X0.here hx rfl (hb hby at_4) rfl (l' := #[.val (.long vx), .second, .val (.long vy), .second, .val (.long vz), .second, .val (.long vu), .second, .val (.long vw), .second, .val (.int sel), .val (.int (0 : Int32)), .unset, .unset, .unset, .unset, .unset, .unset, .unset, .unset, .unset, .unset, .unset, .unset, .unset, .unset, .unset, .unset, .unset, .unset, .unset, .unset, .unset, .unset, .unset, .unset]) rfl ?_
    show Steps p.tables e below (s₁.setTop (mkF m 6 #[.val (.long vx), .second, .val (.long vy), .second, .val (.long vz), .second, .val (.long vu), .second, .val (.long vw), .second, .val (.int sel), .val (.int (0 : Int32)), .unset, .unset, .unset, .unset, .unset, .unset, .unset, .unset, .unset, .unset, .unset, .unset, .unset, .unset, .unset, .unset, .unset, .unset, .unset, .unset, .unset, .unset, .unset, .unset] [])) _
    refine st138 _ ?_
    show Steps p.tables e below (T138.setTop (mkF m 50 #[.val (.long vx), .second, .val (.long vy), .second, .val (.long vz), .second, .val (.long vu), .second, .val (.long vw), .second, .val (.int sel), .val (.int (0 : Int32)), .val (.long a), .second, .val (.long d), .second, .val (.long b), .second, .unset, .unset, .unset, .unset, .unset, .unset, .unset, .unset, .unset, .unset, .unset, .unset, .unset, .unset, .unset, .unset, .unset, .unset] [])) _
    refine XS.iload X138.here hx rfl (hb hby at_50) rfl ?_
    show Steps p.tables e below (T138.setTop (mkF m 52 #[.val (.long vx), .second, .val (.long vy), .second, .val (.long vz), .second, .val (.long vu), .second, .val (.long vw), .second, .val (.int sel), .val (.int (0 : Int32)), .val (.long a), .second, .val (.long d), .second, .val (.long b), .second, .unset, .unset, .unset, .unset, .unset, .unset, .unset, .unset, .unset, .unset, .unset, .unset, .unset, .unset, .unset, .unset, .unset, .unset] [(.int (0 : Int32))])) _
    refine XS.iconst X138.here hx rfl (hb hby at_52) ?_
    show Steps p.tables e below (T138.setTop (mkF m 53 #[.val (.long vx), .second, .val (.long vy), .second, .val (.long vz), .second, .val (.long vu), .second, .val (.long vw), .second, .val (.int sel), .val (.int (0 : Int32)), .val (.long a), .second, .val (.long d), .second, .val (.long b), .second, .unset, .unset, .unset, .unset, .unset, .unset, .unset, .unset, .unset, .unset, .unset, .unset, .unset, .unset, .unset, .unset, .unset, .unset] [(.int (2 : Int32)), (.int (0 : Int32))])) _
    refine XS.icmpYes X138.here hx rfl (pc0 := 53) (pc' := 66) rfl (hb hby at_53) rfl (XT.ii_lt_t (by decide)) (by decide) (by decide) ?_
    show Steps p.tables e below (T138.setTop (mkF m 66 #[.val (.long vx), .second, .val (.long vy), .second, .val (.long vz), .second, .val (.long vu), .second, .val (.long vw), .second, .val (.int sel), .val (.int (0 : Int32)), .val (.long a), .second, .val (.long d), .second, .val (.long b), .second, .unset, .unset, .unset, .unset, .unset, .unset, .unset, .unset, .unset, .unset, .unset, .unset, .unset, .unset, .unset, .unset, .unset, .unset] [])) _
    refine XS.iload X138.here hx rfl (hb hby at_66) rfl ?_
    show Steps p.tables e below (T138.setTop (mkF m 68 #[.val (.long vx), .second, .val (.long vy), .second, .val (.long vz), .second, .val (.long vu), .second, .val (.long vw), .second, .val (.int sel), .val (.int (0 : Int32)), .val (.long a), .second, .val (.long d), .second, .val (.long b), .second, .unset, .unset, .unset, .unset, .unset, .unset, .unset, .unset, .unset, .unset, .unset, .unset, .unset, .unset, .unset, .unset, .unset, .unset] [(.int (0 : Int32))])) _
    refine XS.iconst X138.here hx rfl (hb hby at_68) ?_
    show Steps p.tables e below (T138.setTop (mkF m 69 #[.val (.long vx), .second, .val (.long vy), .second, .val (.long vz), .second, .val (.long vu), .second, .val (.long vw), .second, .val (.int sel), .val (.int (0 : Int32)), .val (.long a), .second, .val (.long d), .second, .val (.long b), .second, .unset, .unset, .unset, .unset, .unset, .unset, .unset, .unset, .unset, .unset, .unset, .unset, .unset, .unset, .unset, .unset, .unset, .unset] [(.int (3 : Int32)), (.int (0 : Int32))])) _
    refine XS.icmpYes X138.here hx rfl (pc0 := 69) (pc' := 82) rfl (hb hby at_69) rfl (XT.ii_lt_t (by decide)) (by decide) (by decide) ?_
    show Steps p.tables e below (T138.setTop (mkF m 82 #[.val (.long vx), .second, .val (.long vy), .second, .val (.long vz), .second, .val (.long vu), .second, .val (.long vw), .second, .val (.int sel), .val (.int (0 : Int32)), .val (.long a), .second, .val (.long d), .second, .val (.long b), .second, .unset, .unset, .unset, .unset, .unset, .unset, .unset, .unset, .unset, .unset, .unset, .unset, .unset, .unset, .unset, .unset, .unset, .unset] [])) _
    refine st139 _ ?_
    show Steps p.tables e below (T139.setTop (mkF m 180 #[.val (.long vx), .second, .val (.long vy), .second, .val (.long vz), .second, .val (.long vu), .second, .val (.long vw), .second, .val (.int sel), .val (.int (0 : Int32)), .val (.long a), .second, .val (.long d), .second, .val (.long b), .second, .val (.int ((XT.ushr sel (2 : Int32)) &&& (3 : Int32))), .val (.int ((((XT.ushr sel (4 : Int32)) &&& (3 : Int32)) % (3 : Int32)) - (1 : Int32))), .val (.int ((XT.ushr sel (6 : Int32)) &&& (3 : Int32))), .val (.int ((((XT.ushr sel (8 : Int32)) &&& (3 : Int32)) % (3 : Int32)) - (1 : Int32))), .val (.long r1), .second, .val (.long r2), .second, .val (.long q1), .second, .val (.long q2), .second, .unset, .unset, .unset, .unset, .unset, .unset] [])) _
    refine st140 _ ?_
    show Steps p.tables e below (T140.setTop (mkF m 183 #[.val (.long vx), .second, .val (.long vy), .second, .val (.long vz), .second, .val (.long vu), .second, .val (.long vw), .second, .val (.int sel), .val (.int (0 : Int32)), .val (.long a), .second, .val (.long d), .second, .val (.long b), .second, .val (.int ((XT.ushr sel (2 : Int32)) &&& (3 : Int32))), .val (.int ((((XT.ushr sel (4 : Int32)) &&& (3 : Int32)) % (3 : Int32)) - (1 : Int32))), .val (.int ((XT.ushr sel (6 : Int32)) &&& (3 : Int32))), .val (.int ((((XT.ushr sel (8 : Int32)) &&& (3 : Int32)) % (3 : Int32)) - (1 : Int32))), .val (.long r1), .second, .val (.long r2), .second, .val (.long q1), .second, .val (.long q2), .second, .unset, .unset, .unset, .unset, .unset, .unset] [(.ref b140)])) _
    refine XS.dup X140.here hx rfl (hb hby at_183) rfl rfl ?_
    show Steps p.tables e below (T140.setTop (mkF m 184 #[.val (.long vx), .second, .val (.long vy), .second, .val (.long vz), .second, .val (.long vu), .second, .val (.long vw), .second, .val (.int sel), .val (.int (0 : Int32)), .val (.long a), .second, .val (.long d), .second, .val (.long b), .second, .val (.int ((XT.ushr sel (2 : Int32)) &&& (3 : Int32))), .val (.int ((((XT.ushr sel (4 : Int32)) &&& (3 : Int32)) % (3 : Int32)) - (1 : Int32))), .val (.int ((XT.ushr sel (6 : Int32)) &&& (3 : Int32))), .val (.int ((((XT.ushr sel (8 : Int32)) &&& (3 : Int32)) % (3 : Int32)) - (1 : Int32))), .val (.long r1), .second, .val (.long r2), .second, .val (.long q1), .second, .val (.long q2), .second, .unset, .unset, .unset, .unset, .unset, .unset] [(.ref b140), (.ref b140)])) _
    refine st141.trans ?_
    show Steps p.tables e below (T141.setTop (mkF m 187 #[.val (.long vx), .second, .val (.long vy), .second, .val (.long vz), .second, .val (.long vu), .second, .val (.long vw), .second, .val (.int sel), .val (.int (0 : Int32)), .val (.long a), .second, .val (.long d), .second, .val (.long b), .second, .val (.int ((XT.ushr sel (2 : Int32)) &&& (3 : Int32))), .val (.int ((((XT.ushr sel (4 : Int32)) &&& (3 : Int32)) % (3 : Int32)) - (1 : Int32))), .val (.int ((XT.ushr sel (6 : Int32)) &&& (3 : Int32))), .val (.int ((((XT.ushr sel (8 : Int32)) &&& (3 : Int32)) % (3 : Int32)) - (1 : Int32))), .val (.long r1), .second, .val (.long r2), .second, .val (.long q1), .second, .val (.long q2), .second, .unset, .unset, .unset, .unset, .unset, .unset] [(.ref b140)])) _
    refine XS.astore X141.here hx rfl (hb hby at_187) rfl rfl (l' := #[.val (.long vx), .second, .val (.long vy), .second, .val (.long vz), .second, .val (.long vu), .second, .val (.long vw), .second, .val (.int sel), .val (.int (0 : Int32)), .val (.long a), .second, .val (.long d), .second, .val (.long b), .second, .val (.int ((XT.ushr sel (2 : Int32)) &&& (3 : Int32))), .val (.int ((((XT.ushr sel (4 : Int32)) &&& (3 : Int32)) % (3 : Int32)) - (1 : Int32))), .val (.int ((XT.ushr sel (6 : Int32)) &&& (3 : Int32))), .val (.int ((((XT.ushr sel (8 : Int32)) &&& (3 : Int32)) % (3 : Int32)) - (1 : Int32))), .val (.long r1), .second, .val (.long r2), .second, .val (.long q1), .second, .val (.long q2), .second, .val (.ref b140), .unset, .unset, .unset, .unset, .unset]) rfl ?_
    show Steps p.tables e below (T141.setTop (mkF m 189 #[.val (.long vx), .second, .val (.long vy), .second, .val (.long vz), .second, .val (.long vu), .second, .val (.long vw), .second, .val (.int sel), .val (.int (0 : Int32)), .val (.long a), .second, .val (.long d), .second, .val (.long b), .second, .val (.int ((XT.ushr sel (2 : Int32)) &&& (3 : Int32))), .val (.int ((((XT.ushr sel (4 : Int32)) &&& (3 : Int32)) % (3 : Int32)) - (1 : Int32))), .val (.int ((XT.ushr sel (6 : Int32)) &&& (3 : Int32))), .val (.int ((((XT.ushr sel (8 : Int32)) &&& (3 : Int32)) % (3 : Int32)) - (1 : Int32))), .val (.long r1), .second, .val (.long r2), .second, .val (.long q1), .second, .val (.long q2), .second, .val (.ref b140), .unset, .unset, .unset, .unset, .unset] [])) _
    refine XS.iload X141.here hx rfl (hb hby at_189) rfl ?_
    show Steps p.tables e below (T141.setTop (mkF m 191 #[.val (.long vx), .second, .val (.long vy), .second, .val (.long vz), .second, .val (.long vu), .second, .val (.long vw), .second, .val (.int sel), .val (.int (0 : Int32)), .val (.long a), .second, .val (.long d), .second, .val (.long b), .second, .val (.int ((XT.ushr sel (2 : Int32)) &&& (3 : Int32))), .val (.int ((((XT.ushr sel (4 : Int32)) &&& (3 : Int32)) % (3 : Int32)) - (1 : Int32))), .val (.int ((XT.ushr sel (6 : Int32)) &&& (3 : Int32))), .val (.int ((((XT.ushr sel (8 : Int32)) &&& (3 : Int32)) % (3 : Int32)) - (1 : Int32))), .val (.long r1), .second, .val (.long r2), .second, .val (.long q1), .second, .val (.long q2), .second, .val (.ref b140), .unset, .unset, .unset, .unset, .unset] [(.int (0 : Int32))])) _
    refine XS.ifYes X141.here hx rfl (pc0 := 191) (pc' := 202) rfl (hb hby at_191) rfl (XT.i0_le_t (by decide)) (by decide) (by decide) ?_
    show Steps p.tables e below (T141.setTop (mkF m 202 #[.val (.long vx), .second, .val (.long vy), .second, .val (.long vz), .second, .val (.long vu), .second, .val (.long vw), .second, .val (.int sel), .val (.int (0 : Int32)), .val (.long a), .second, .val (.long d), .second, .val (.long b), .second, .val (.int ((XT.ushr sel (2 : Int32)) &&& (3 : Int32))), .val (.int ((((XT.ushr sel (4 : Int32)) &&& (3 : Int32)) % (3 : Int32)) - (1 : Int32))), .val (.int ((XT.ushr sel (6 : Int32)) &&& (3 : Int32))), .val (.int ((((XT.ushr sel (8 : Int32)) &&& (3 : Int32)) % (3 : Int32)) - (1 : Int32))), .val (.long r1), .second, .val (.long r2), .second, .val (.long q1), .second, .val (.long q2), .second, .val (.ref b140), .unset, .unset, .unset, .unset, .unset] [])) _
    refine XS.iload X141.here hx rfl (hb hby at_202) rfl ?_
    show Steps p.tables e below (T141.setTop (mkF m 204 #[.val (.long vx), .second, .val (.long vy), .second, .val (.long vz), .second, .val (.long vu), .second, .val (.long vw), .second, .val (.int sel), .val (.int (0 : Int32)), .val (.long a), .second, .val (.long d), .second, .val (.long b), .second, .val (.int ((XT.ushr sel (2 : Int32)) &&& (3 : Int32))), .val (.int ((((XT.ushr sel (4 : Int32)) &&& (3 : Int32)) % (3 : Int32)) - (1 : Int32))), .val (.int ((XT.ushr sel (6 : Int32)) &&& (3 : Int32))), .val (.int ((((XT.ushr sel (8 : Int32)) &&& (3 : Int32)) % (3 : Int32)) - (1 : Int32))), .val (.long r1), .second, .val (.long r2), .second, .val (.long q1), .second, .val (.long q2), .second, .val (.ref b140), .unset, .unset, .unset, .unset, .unset] [(.int (0 : Int32))])) _
    refine XS.iconst X141.here hx rfl (hb hby at_204) ?_
    show Steps p.tables e below (T141.setTop (mkF m 205 #[.val (.long vx), .second, .val (.long vy), .second, .val (.long vz), .second, .val (.long vu), .second, .val (.long vw), .second, .val (.int sel), .val (.int (0 : Int32)), .val (.long a), .second, .val (.long d), .second, .val (.long b), .second, .val (.int ((XT.ushr sel (2 : Int32)) &&& (3 : Int32))), .val (.int ((((XT.ushr sel (4 : Int32)) &&& (3 : Int32)) % (3 : Int32)) - (1 : Int32))), .val (.int ((XT.ushr sel (6 : Int32)) &&& (3 : Int32))), .val (.int ((((XT.ushr sel (8 : Int32)) &&& (3 : Int32)) % (3 : Int32)) - (1 : Int32))), .val (.long r1), .second, .val (.long r2), .second, .val (.long q1), .second, .val (.long q2), .second, .val (.ref b140), .unset, .unset, .unset, .unset, .unset] [(.int (1 : Int32)), (.int (0 : Int32))])) _
    refine XS.icmpYes X141.here hx rfl (pc0 := 205) (pc' := 218) rfl (hb hby at_205) rfl (XT.ii_le_t (by decide)) (by decide) (by decide) ?_
    show Steps p.tables e below (T141.setTop (mkF m 218 #[.val (.long vx), .second, .val (.long vy), .second, .val (.long vz), .second, .val (.long vu), .second, .val (.long vw), .second, .val (.int sel), .val (.int (0 : Int32)), .val (.long a), .second, .val (.long d), .second, .val (.long b), .second, .val (.int ((XT.ushr sel (2 : Int32)) &&& (3 : Int32))), .val (.int ((((XT.ushr sel (4 : Int32)) &&& (3 : Int32)) % (3 : Int32)) - (1 : Int32))), .val (.int ((XT.ushr sel (6 : Int32)) &&& (3 : Int32))), .val (.int ((((XT.ushr sel (8 : Int32)) &&& (3 : Int32)) % (3 : Int32)) - (1 : Int32))), .val (.long r1), .second, .val (.long r2), .second, .val (.long q1), .second, .val (.long q2), .second, .val (.ref b140), .unset, .unset, .unset, .unset, .unset] [])) _
    refine XS.iload X141.here hx rfl (hb hby at_218) rfl ?_
    show Steps p.tables e below (T141.setTop (mkF m 220 #[.val (.long vx), .second, .val (.long vy), .second, .val (.long vz), .second, .val (.long vu), .second, .val (.long vw), .second, .val (.int sel), .val (.int (0 : Int32)), .val (.long a), .second, .val (.long d), .second, .val (.long b), .second, .val (.int ((XT.ushr sel (2 : Int32)) &&& (3 : Int32))), .val (.int ((((XT.ushr sel (4 : Int32)) &&& (3 : Int32)) % (3 : Int32)) - (1 : Int32))), .val (.int ((XT.ushr sel (6 : Int32)) &&& (3 : Int32))), .val (.int ((((XT.ushr sel (8 : Int32)) &&& (3 : Int32)) % (3 : Int32)) - (1 : Int32))), .val (.long r1), .second, .val (.long r2), .second, .val (.long q1), .second, .val (.long q2), .second, .val (.ref b140), .unset, .unset, .unset, .unset, .unset] [(.int (0 : Int32))])) _
    refine XS.iconst X141.here hx rfl (hb hby at_220) ?_
    show Steps p.tables e below (T141.setTop (mkF m 221 #[.val (.long vx), .second, .val (.long vy), .second, .val (.long vz), .second, .val (.long vu), .second, .val (.long vw), .second, .val (.int sel), .val (.int (0 : Int32)), .val (.long a), .second, .val (.long d), .second, .val (.long b), .second, .val (.int ((XT.ushr sel (2 : Int32)) &&& (3 : Int32))), .val (.int ((((XT.ushr sel (4 : Int32)) &&& (3 : Int32)) % (3 : Int32)) - (1 : Int32))), .val (.int ((XT.ushr sel (6 : Int32)) &&& (3 : Int32))), .val (.int ((((XT.ushr sel (8 : Int32)) &&& (3 : Int32)) % (3 : Int32)) - (1 : Int32))), .val (.long r1), .second, .val (.long r2), .second, .val (.long q1), .second, .val (.long q2), .second, .val (.ref b140), .unset, .unset, .unset, .unset, .unset] [(.int (2 : Int32)), (.int (0 : Int32))])) _
    refine XS.icmpYes X141.here hx rfl (pc0 := 221) (pc' := 234) rfl (hb hby at_221) rfl (XT.ii_le_t (by decide)) (by decide) (by decide) ?_
    show Steps p.tables e below (T141.setTop (mkF m 234 #[.val (.long vx), .second, .val (.long vy), .second, .val (.long vz), .second, .val (.long vu), .second, .val (.long vw), .second, .val (.int sel), .val (.int (0 : Int32)), .val (.long a), .second, .val (.long d), .second, .val (.long b), .second, .val (.int ((XT.ushr sel (2 : Int32)) &&& (3 : Int32))), .val (.int ((((XT.ushr sel (4 : Int32)) &&& (3 : Int32)) % (3 : Int32)) - (1 : Int32))), .val (.int ((XT.ushr sel (6 : Int32)) &&& (3 : Int32))), .val (.int ((((XT.ushr sel (8 : Int32)) &&& (3 : Int32)) % (3 : Int32)) - (1 : Int32))), .val (.long r1), .second, .val (.long r2), .second, .val (.long q1), .second, .val (.long q2), .second, .val (.ref b140), .unset, .unset, .unset, .unset, .unset] [])) _
    refine st142 _ ?_
    show Steps p.tables e below (T142.setTop (mkF m 374 #[.val (.long vx), .second, .val (.long vy), .second, .val (.long vz), .second, .val (.long vu), .second, .val (.long vw), .second, .val (.int sel), .val (.int (0 : Nat).toInt32), .val (.long a), .second, .val (.long d), .second, .val (.long b), .second, .val (.int ((XT.ushr sel (2 : Int32)) &&& (3 : Int32))), .val (.int ((((XT.ushr sel (4 : Int32)) &&& (3 : Int32)) % (3 : Int32)) - (1 : Int32))), .val (.int ((XT.ushr sel (6 : Int32)) &&& (3 : Int32))), .val (.int ((((XT.ushr sel (8 : Int32)) &&& (3 : Int32)) % (3 : Int32)) - (1 : Int32))), .val (.long r1), .second, .val (.long r2), .second, .val (.long q1), .second, .val (.long q2), .second, .val (.ref b140), y31_142, y32_142, y33_142, y34_142, y35_142] [])) _
    refine XS.iconst X142.here hx rfl (hb hby at_374) ?_
    show Steps p.tables e below (T142.setTop (mkF m 375 #[.val (.long vx), .second, .val (.long vy), .second, .val (.long vz), .second, .val (.long vu), .second, .val (.long vw), .second, .val (.int sel), .val (.int (0 : Nat).toInt32), .val (.long a), .second, .val (.long d), .second, .val (.long b), .second, .val (.int ((XT.ushr sel (2 : Int32)) &&& (3 : Int32))), .val (.int ((((XT.ushr sel (4 : Int32)) &&& (3 : Int32)) % (3 : Int32)) - (1 : Int32))), .val (.int ((XT.ushr sel (6 : Int32)) &&& (3 : Int32))), .val (.int ((((XT.ushr sel (8 : Int32)) &&& (3 : Int32)) % (3 : Int32)) - (1 : Int32))), .val (.long r1), .second, .val (.long r2), .second, .val (.long q1), .second, .val (.long q2), .second, .val (.ref b140), y31_142, y32_142, y33_142, y34_142, y35_142] [(.int (1 : Int32))])) _
    exact retN X142 hx (t := .boolean) Bd.returns (by simp) (hb hby at_375) hr
  · show Q_own_law0 Z vx vy vz vu vw sel a b d r1 r2 q1 q2 h0 n0 _ T142.heap _
    rw [e142]
    exact ⟨rfl, N142⟩
theorem pn_own_law1 : plainName "com/example/xml_element_search/xmlelementsearch/ElementScoresHoldsPinLaw" = true := by first | (simp [plainName, overriddenIn]; done) | decide +kernel
theorem ef_own_law1 (m : MethodId) (x0 : Int64) (x1 : Int64) (x2 : Int64) (x3 : Int64) (x4 : Int64) (x5 : Int32) : entryFrame m #[(.long x0), (.long x1), (.long x2), (.long x3), (.long x4), (.int x5)] maxLocals = mkF m 0 #[.val (.long x0), .second, .val (.long x1), .second, .val (.long x2), .second, .val (.long x3), .second, .val (.long x4), .second, .val (.int x5), .unset, .unset, .unset, .unset, .unset, .unset, .unset, .unset, .unset, .unset, .unset, .unset, .unset, .unset, .unset, .unset, .unset, .unset, .unset, .unset, .unset, .unset, .unset, .unset, .unset] [] := by first | (simp [entryFrame, mkF, argsToLocals, Value.category, maxLocals]; done) | rfl
def Q_own_law1 (Z : State) (vx : Int64) (vy : Int64) (vz : Int64) (vu : Int64) (vw : Int64) (sel : Int32) (a : Int64) (b : Int64) (d : Int64) (r1 : Int64) (r2 : Int64) (q1 : Int64) (q2 : Int64) (h0 : Heap) (n0 : Nat) (v : Option Value) (h : Heap) (L : List Loc) : Prop := v = some (.int 1) ∧ Fr n0 L
set_option maxRecDepth 65536 in
set_option maxHeartbeats 40000000 in
theorem own_law1 (l : Launch) (Z : State) (a0 : Array Value) (hw : ∀ d ∈ tables_1, d.before a0 Z = true) (ws : List Jvm.Cond) (vx : Int64) (vy : Int64) (vz : Int64) (vu : Int64) (vw : Int64) (sel : Int32) (a : Int64) (b : Int64) (d : Int64) (r1 : Int64) (r2 : Int64) (q1 : Int64) (q2 : Int64) (h0 : Heap) (n0 : Nat) (Z0 : n0 ≤ h0.size) (hn_ : (sel &&& (3 : Int32)) = (1 : Int32)) (hA : (if (if vz < vy then vz else vy) < vx then (if vz < vy then vz else vy) else vx) = a) (hC : (if vx < (if vy < vz then vz else vy) then (if vy < vz then vz else vy) else vx) = d) (hB : (if (if vy < vx then vy else vx) < (if vz < (if vx < vy then vy else vx) then vz else (if vx < vy then vy else vx)) then (if vz < (if vx < vy then vy else vx) then vz else (if vx < vy then vy else vx)) else (if vy < vx then vy else vx)) = b) (hr1 : ((own_base ((XT.ushr sel (2 : Int32)) &&& (3 : Int32)) vu a b d) + ((((XT.ushr sel (4 : Int32)) &&& (3 : Int32)) % (3 : Int32)) - (1 : Int32)).toInt64) = r1) (hr2 : ((own_base ((XT.ushr sel (6 : Int32)) &&& (3 : Int32)) vw a b d) + ((((XT.ushr sel (8 : Int32)) &&& (3 : Int32)) % (3 : Int32)) - (1 : Int32)).toInt64) = r2) (hq1 : (if r2 < r1 then r2 else r1) = q1) (hq2 : (if r1 < r2 then r2 else r1) = q2) (h_ab : ¬ b < a) (h_bc : ¬ d < b) (hqq : ¬ q2 < q1) :
    MetFree l x (head1 (Jvm.Cond.code x code maxLocals ret :: ws) room_1) (fun a U => a = #[(.long vx), (.long vy), (.long vz), (.long vu), (.long vw), (.int sel)] ∧ Z.Warmed39 U.vm ∧ U.heap = h0) (fun _ _ _ _ _ => True) (fun _ U o U' => ∃ v L, o = .returned v ∧ Q_own_law1 Z vx vy vz vu vw sel a b d r1 r2 q1 q2 h0 n0 v U'.heap L ∧ FrameEnd U o U' L 24 128) := by
  refine MetFree.of_bodySF (plainFor_of_name pn_own_law1) hisR ?_
  intro p e s m args below meth c s₁ Bd hml0 hP hK
  obtain ⟨rfl, hZ, hh⟩ := hP
  have hx := Bd.exec
  have hby := Bd.bytes
  have hml : c.maxLocals = 36 := hml0
  have hown : s.vm.findClass "com/example/xml_element_search/xmlelementsearch/ElementScoresHoldsPinLaw" = some m.cls := findClass_of_methodNamed Bd.named
  have hnm := (name_of_methodNamed Bd.named Bd.method).1
  have X0 : Stand p l e room_1 s m #[(.long vx), (.long vy), (.long vz), (.long vu), (.long vw), (.int sel)] below meth c s₁ [] 0 0 := Stand.of_body Bd
  have e0 : s₁.heap = h0 := by rw [← hh, Bd.state]; rfl
  have N0 := Fr.nil n0
  have pre0 : ∀ t, Steps p.tables e below (s₁.setTop (mkF m 0 #[.val (.long vx), .second, .val (.long vy), .second, .val (.long vz), .second, .val (.long vu), .second, .val (.long vw), .second, .val (.int sel), .unset, .unset, .unset, .unset, .unset, .unset, .unset, .unset, .unset, .unset, .unset, .unset, .unset, .unset, .unset, .unset, .unset, .unset, .unset, .unset, .unset, .unset, .unset, .unset, .unset] [])) t → Steps p.tables e below (s₁.setTop (entryFrame m #[(.long vx), (.long vy), (.long vz), (.long vu), (.long vw), (.int sel)] maxLocals)) t := fun t k => castTop (ef_own_law1 m (vx) (vy) (vz) (vu) (vw) (sel)) k
  obtain ⟨T143, L143, X143, e143, N143, st143⟩ := own_sA hw X0 hx hZ hby hml hown e0 N0 Z0 vx vy vz (.val (.long vu)) (.second) (.val (.long vw)) (.second) (.val (.int sel)) (.val (.int (1 : Int32))) (.unset) (.unset) (.unset) (.unset) (.unset) (.unset) (.unset) (.unset) (.unset) (.unset) (.unset) (.unset) (.unset) (.unset) (.unset) (.unset) (.unset) (.unset) a b d hA hC hB
  obtain ⟨T144, L144, X144, e144, N144, st144⟩ := own_sB hw X143 hx hZ hby hml hown e143 N143 Z0 (.val (.long vx)) (.second) (.val (.long vy)) (.second) (.val (.long vz)) (.second) vu vw sel (.val (.int (1 : Int32))) a d b (.unset) (.unset) (.unset) (.unset) (.unset) (.unset) r1 r2 q1 q2 hr1 hr2 hq1 hq2
  obtain ⟨T145, h145, X145, e145, E145, A145, D145, -, st145⟩ := newO X144 hx hZ hown (hw _ (List.mem_of_getElem? (i := 11) rfl)) (hw _ (List.mem_of_getElem? (i := 12) rfl)) (hw _ (List.mem_of_getElem? (i := 13) rfl)) e144 (g := (mkF m 180 #[.val (.long vx), .second, .val (.long vy), .second, .val (.long vz), .second, .val (.long vu), .second, .val (.long vw), .second, .val (.int sel), .val (.int (1 : Int32)), .val (.long a), .second, .val (.long d), .second, .val (.long b), .second, .val (.int ((XT.ushr sel (2 : Int32)) &&& (3 : Int32))), .val (.int ((((XT.ushr sel (4 : Int32)) &&& (3 : Int32)) % (3 : Int32)) - (1 : Int32))), .val (.int ((XT.ushr sel (6 : Int32)) &&& (3 : Int32))), .val (.int ((((XT.ushr sel (8 : Int32)) &&& (3 : Int32)) % (3 : Int32)) - (1 : Int32))), .val (.long r1), .second, .val (.long r2), .second, .val (.long q1), .second, .val (.long q2), .second, .unset, .unset, .unset, .unset, .unset, .unset] [])) rfl (hb hby at_180) (by decide) (by decide)
  obtain ⟨b145, g145⟩ : ∃ z, z = h0.size := ⟨_, rfl⟩
  rw [← g145] at A145 D145 st145
  have g_b145 : n0 ≤ b145 := Nat.le_trans Z0 (Nat.le_of_eq g145.symm)
  have F145_runStarts : Fld Z h145 b145 "com/example/xml_element_search/xmlelementsearch/ElementScores" "runStarts" "[I" .null := D145 (Or.inl (hw _ (List.mem_of_getElem? (i := 25) rfl))) (ty := (.array .int)) (by decide)
  have F145_elements : Fld Z h145 b145 "com/example/xml_element_search/xmlelementsearch/ElementScores" "elements" "[J" .null := D145 (Or.inl (hw _ (List.mem_of_getElem? (i := 31) rfl))) (ty := (.array .long)) (by decide)
  have F145_scores : Fld Z h145 b145 "com/example/xml_element_search/xmlelementsearch/ElementScores" "scores" "[D" .null := D145 (Or.inl (hw _ (List.mem_of_getElem? (i := 34) rfl))) (ty := (.array .double)) (by decide)
  have F145_size : Fld Z h145 b145 "com/example/xml_element_search/xmlelementsearch/ElementScores" "size" "I" (.int (0 : Int32)) := D145 (Or.inl (hw _ (List.mem_of_getElem? (i := 41) rfl))) (ty := .int) (by decide)
  have F145_runs : Fld Z h145 b145 "com/example/xml_element_search/xmlelementsearch/ElementScores" "runs" "I" (.int (0 : Int32)) := D145 (Or.inl (hw _ (List.mem_of_getElem? (i := 43) rfl))) (ty := .int) (by decide)
  obtain ⟨_, _, ⟨T146, L146, k146, n146⟩, -, X146, ⟨Lc146, hQ146, l146, y146, z146⟩, st146⟩ := X145.specialBack hx (y := (⟨"com/example/xml_element_search/xmlelementsearch/ElementScores", "<init>", "()V"⟩ : MethodName)) rfl hown (mvT hZ (hw _ (List.mem_of_getElem? (i := 14) rfl))) (mvT hZ (hw _ (List.mem_of_getElem? (i := 15) rfl))) (mvT hZ (hw _ (List.mem_of_getElem? (i := 16) rfl))) (by decide) (backOf (W := 1) (own_i0 l Z a0 hw [] b145 h145 n0 (Nat.le_trans Z0 E145.1) A145 F145_elements F145_scores F145_size F145_runStarts F145_runs g_b145) hZ (hw _ (List.mem_of_getElem? (i := 16) rfl)) (hw _ (List.mem_of_getElem? (i := 13) rfl)) (by decide) (by decide)) (g := (mkF m 184 #[.val (.long vx), .second, .val (.long vy), .second, .val (.long vz), .second, .val (.long vu), .second, .val (.long vw), .second, .val (.int sel), .val (.int (1 : Int32)), .val (.long a), .second, .val (.long d), .second, .val (.long b), .second, .val (.int ((XT.ushr sel (2 : Int32)) &&& (3 : Int32))), .val (.int ((((XT.ushr sel (4 : Int32)) &&& (3 : Int32)) % (3 : Int32)) - (1 : Int32))), .val (.int ((XT.ushr sel (6 : Int32)) &&& (3 : Int32))), .val (.int ((((XT.ushr sel (8 : Int32)) &&& (3 : Int32)) % (3 : Int32)) - (1 : Int32))), .val (.long r1), .second, .val (.long r2), .second, .val (.long q1), .second, .val (.long q2), .second, .unset, .unset, .unset, .unset, .unset, .unset] [(.ref b145), (.ref b145)])) rfl (by rw [hml]; rfl) (Steps.refl _) (a := b145) (argsL := []) (rest := [(.ref b145)]) (lenOf pd_9 rfl) rfl (by show 2 * 0 + _ ≤ _; exact Nat.le_of_eq rfl) (hb hby at_184) (fun _ _ => ⟨rfl, e145, (by decide : 1 + 3 ≤ _), (by decide : 5 + 17 ≤ _)⟩)
  dsimp only [Pt.U, Pt.locs, Pt.cells, Pt.slots] at X146 l146 y146 z146 st146 hQ146
  subst l146 y146 z146
  obtain ⟨rfl, N146q, ae, as_, ar, ke, ks, kr, ⟨g_ar, l1, l2, l3⟩, E_, F_e, F_s, F_n, F_r, F_u, V_e, V_s, V_r⟩ := hQ146
  have N146 := Fr.app N144 N146q
  have g_ae : n0 ≤ ae := Nat.le_trans g_ar (Nat.le_of_lt l2)
  have g_as_ : n0 ≤ as_ := Nat.le_trans g_ae (Nat.le_of_lt l3)
  obtain ⟨cq147, kq147, q147a, q147b, q147c⟩ := isOf hZ rfl E_
  obtain ⟨_, _, ⟨T147, L147, k147, n147⟩, -, X147, ⟨Lc147, hQ147, l147, y147, z147⟩, st147⟩ := X146.virtualBack hx (y := (⟨"com/example/xml_element_search/xmlelementsearch/ElementScores", "add", "(JD)V"⟩ : MethodName)) (z := (⟨"com/example/xml_element_search/xmlelementsearch/ElementScores", "add", "(JD)V"⟩ : MethodName)) hown (mvT hZ (hw _ (List.mem_of_getElem? (i := 35) rfl))) (mvT hZ (hw _ (List.mem_of_getElem? (i := 36) rfl))) (notFace_of_selects (args := #[]) (mvT hZ (hw _ (List.mem_of_getElem? (i := 38) rfl)))) (mvT hZ (hw _ (List.mem_of_getElem? (i := 38) rfl))) (mvT hZ (hw _ (List.mem_of_getElem? (i := 37) rfl))) (by decide) (backOf (W := 0) (own_add0 l Z a0 hw [] b145 a FP.dconst1 ae as_ ar ke ks kr (fun _ => Value.long 0) (fun _ => Value.double 0) (fun _ => Value.int 0) T146.heap n0 (Nat.le_trans g_ar (Nat.le_of_lt V_r.lt)) g_b145 l1 l2 l3 g_ar g_ae g_as_ E_ F_e F_s F_n F_r F_u V_e V_s V_r) hZ (hw _ (List.mem_of_getElem? (i := 39) rfl)) (hw _ (List.mem_of_getElem? (i := 13) rfl)) (by decide) (by decide)) q147a q147c (g := (mkF m 199 #[.val (.long vx), .second, .val (.long vy), .second, .val (.long vz), .second, .val (.long vu), .second, .val (.long vw), .second, .val (.int sel), .val (.int (1 : Int32)), .val (.long a), .second, .val (.long d), .second, .val (.long b), .second, .val (.int ((XT.ushr sel (2 : Int32)) &&& (3 : Int32))), .val (.int ((((XT.ushr sel (4 : Int32)) &&& (3 : Int32)) % (3 : Int32)) - (1 : Int32))), .val (.int ((XT.ushr sel (6 : Int32)) &&& (3 : Int32))), .val (.int ((((XT.ushr sel (8 : Int32)) &&& (3 : Int32)) % (3 : Int32)) - (1 : Int32))), .val (.long r1), .second, .val (.long r2), .second, .val (.long q1), .second, .val (.long q2), .second, .val (.ref b145), .unset, .unset, .unset, .unset, .unset] [(.double FP.dconst1), (.long a), (.ref b145)])) rfl (by rw [hml]; rfl) (Steps.refl _) (argsL := [(.long a), (.double FP.dconst1)]) (rest := []) (lenOf pd_10 rfl) rfl (by show 2 * 0 + _ ≤ _; exact Nat.le_of_eq rfl) (hb hby at_199) (fun _ _ => ⟨rfl, rfl, (by decide : 4 + 0 ≤ _), (by decide : 22 + 0 ≤ _)⟩)
  dsimp only [Pt.U, Pt.locs, Pt.cells, Pt.slots] at X147 l147 y147 z147 st147 hQ147
  subst l147 y147 z147
  obtain ⟨rfl, N147q, E_0, F_e0, F_s0, F_n0, F_r0, F_u0, V_e0, V_s0, V_r0⟩ := hQ147
  have N147 := Fr.app N146 N147q
  obtain ⟨T148, h148, L148, y31_148, y32_148, y33_148, y34_148, y35_148, X148, e148, N148, -, st148⟩ := own_tail hw X147 hx hZ hby hml hown rfl N147 (Nat.le_trans g_ar (Nat.le_of_lt V_r0.lt)) (.val (.long vx)) (.second) (.val (.long vy)) (.second) (.val (.long vz)) (.second) (.val (.long vu)) (.second) (.val (.long vw)) (.second) (.val (.int sel)) a d b (.val (.int ((XT.ushr sel (2 : Int32)) &&& (3 : Int32)))) (.val (.int ((((XT.ushr sel (4 : Int32)) &&& (3 : Int32)) % (3 : Int32)) - (1 : Int32)))) (.val (.int ((XT.ushr sel (6 : Int32)) &&& (3 : Int32)))) (.val (.int ((((XT.ushr sel (8 : Int32)) &&& (3 : Int32)) % (3 : Int32)) - (1 : Int32)))) (.val (.long r1)) (.second) (.val (.long r2)) (.second) q1 q2 b145 ae as_ ke ks (upd (fun _ => Value.long 0) 0 (.long a)) (upd (fun _ => Value.double 0) 0 (.double FP.dconst1)) (1 : Nat) (by decide) (fun i j h1 h => absurd h (by omega)) hqq (fun j hj => match j, hj with | 0, _ => rfl | n + 1, h => absurd h (by omega)) (fun j hj => match j, hj with | 0, _ => rfl | n + 1, h => absurd h (by omega)) E_0 F_n0 F_e0 F_s0 V_e0 V_s0
  obtain ⟨fs, hr, hrun, hended, hW, hsame⟩ := X148.leave (v := some (.int (1 : Int32))) (fun h => by rw [Bd.returns] at h; cases h)
  refine ⟨_, _, pre0 _ ?_, hrun, hended, _, _, rfl, ?_, ⟨_, rfl⟩, hW, hsame.mono (by decide) (by decide)⟩
  · show Steps p.tables e below (s₁.setTop (mkF m 0 #[.val (.long vx), .second, .val (.long vy), .second, .val (.long vz), .second, .val (.long vu), .second, .val (.long vw), .second, .val (.int sel), .unset, .unset, .unset, .unset, .unset, .unset, .unset, .unset, .unset, .unset, .unset, .unset, .unset, .unset, .unset, .unset, .unset, .unset, .unset, .unset, .unset, .unset, .unset, .unset, .unset] [])) _
    refine XS.iload X0.here hx rfl (hb hby at_0) rfl ?_
    show Steps p.tables e below (s₁.setTop (mkF m 2 #[.val (.long vx), .second, .val (.long vy), .second, .val (.long vz), .second, .val (.long vu), .second, .val (.long vw), .second, .val (.int sel), .unset, .unset, .unset, .unset, .unset, .unset, .unset, .unset, .unset, .unset, .unset, .unset, .unset, .unset, .unset, .unset, .unset, .unset, .unset, .unset, .unset, .unset, .unset, .unset, .unset] [(.int sel)])) _
    refine XS.iconst X0.here hx rfl (hb hby at_2) ?_
    show Steps p.tables e below (s₁.setTop (mkF m 3 #[.val (.long vx), .second, .val (.long vy), .second, .val (.long vz), .second, .val (.long vu), .second, .val (.long vw), .second, .val (.int sel), .unset, .unset, .unset, .unset, .unset, .unset, .unset, .unset, .unset, .unset, .unset, .unset, .unset, .unset, .unset, .unset, .unset, .unset, .unset, .unset, .unset, .unset, .unset, .unset, .unset] [(.int (3 : Int32)), (.int sel)])) _
    refine XS.iand X0.here hx rfl (hb hby at_3) rfl ?_
    show Steps p.tables e below (s₁.setTop (mkF m 4 #[.val (.long vx), .second, .val (.long vy), .second, .val (.long vz), .second, .val (.long vu), .second, .val (.long vw), .second, .val (.int sel), .unset, .unset, .unset, .unset, .unset, .unset, .unset, .unset, .unset, .unset, .unset, .unset, .unset, .unset, .unset, .unset, .unset, .unset, .unset, .unset, .unset, .unset, .unset, .unset, .unset] [(.int (sel &&& (3 : Int32)))])) _
    rw [hn_]
    show Steps p.tables e below (s₁.setTop (mkF m 4 #[.val (.long vx), .second, .val (.long vy), .second, .val (.long vz), .second, .val (.long vu), .second, .val (.long vw), .second, .val (.int sel), .unset, .unset, .unset, .unset, .unset, .unset, .unset, .unset, .unset, .unset, .unset, .unset, .unset, .unset, .unset, .unset, .unset, .unset, .unset, .unset, .unset, .unset, .unset, .unset, .unset] [(.int (1 : Int32))])) _
    refine XS.istore X0.here hx rfl (hb hby at_4) rfl (l' := #[.val (.long vx), .second, .val (.long vy), .second, .val (.long vz), .second, .val (.long vu), .second, .val (.long vw), .second, .val (.int sel), .val (.int (1 : Int32)), .unset, .unset, .unset, .unset, .unset, .unset, .unset, .unset, .unset, .unset, .unset, .unset, .unset, .unset, .unset, .unset, .unset, .unset, .unset, .unset, .unset, .unset, .unset, .unset]) rfl ?_
    show Steps p.tables e below (s₁.setTop (mkF m 6 #[.val (.long vx), .second, .val (.long vy), .second, .val (.long vz), .second, .val (.long vu), .second, .val (.long vw), .second, .val (.int sel), .val (.int (1 : Int32)), .unset, .unset, .unset, .unset, .unset, .unset, .unset, .unset, .unset, .unset, .unset, .unset, .unset, .unset, .unset, .unset, .unset, .unset, .unset, .unset, .unset, .unset, .unset, .unset] [])) _
    refine st143 _ ?_
    show Steps p.tables e below (T143.setTop (mkF m 50 #[.val (.long vx), .second, .val (.long vy), .second, .val (.long vz), .second, .val (.long vu), .second, .val (.long vw), .second, .val (.int sel), .val (.int (1 : Int32)), .val (.long a), .second, .val (.long d), .second, .val (.long b), .second, .unset, .unset, .unset, .unset, .unset, .unset, .unset, .unset, .unset, .unset, .unset, .unset, .unset, .unset, .unset, .unset, .unset, .unset] [])) _
    refine XS.iload X143.here hx rfl (hb hby at_50) rfl ?_
    show Steps p.tables e below (T143.setTop (mkF m 52 #[.val (.long vx), .second, .val (.long vy), .second, .val (.long vz), .second, .val (.long vu), .second, .val (.long vw), .second, .val (.int sel), .val (.int (1 : Int32)), .val (.long a), .second, .val (.long d), .second, .val (.long b), .second, .unset, .unset, .unset, .unset, .unset, .unset, .unset, .unset, .unset, .unset, .unset, .unset, .unset, .unset, .unset, .unset, .unset, .unset] [(.int (1 : Int32))])) _
    refine XS.iconst X143.here hx rfl (hb hby at_52) ?_
    show Steps p.tables e below (T143.setTop (mkF m 53 #[.val (.long vx), .second, .val (.long vy), .second, .val (.long vz), .second, .val (.long vu), .second, .val (.long vw), .second, .val (.int sel), .val (.int (1 : Int32)), .val (.long a), .second, .val (.long d), .second, .val (.long b), .second, .unset, .unset, .unset, .unset, .unset, .unset, .unset, .unset, .unset, .unset, .unset, .unset, .unset, .unset, .unset, .unset, .unset, .unset] [(.int (2 : Int32)), (.int (1 : Int32))])) _
    refine XS.icmpYes X143.here hx rfl (pc0 := 53) (pc' := 66) rfl (hb hby at_53) rfl (XT.ii_lt_t (by decide)) (by decide) (by decide) ?_
    show Steps p.tables e below (T143.setTop (mkF m 66 #[.val (.long vx), .second, .val (.long vy), .second, .val (.long vz), .second, .val (.long vu), .second, .val (.long vw), .second, .val (.int sel), .val (.int (1 : Int32)), .val (.long a), .second, .val (.long d), .second, .val (.long b), .second, .unset, .unset, .unset, .unset, .unset, .unset, .unset, .unset, .unset, .unset, .unset, .unset, .unset, .unset, .unset, .unset, .unset, .unset] [])) _
    refine XS.iload X143.here hx rfl (hb hby at_66) rfl ?_
    show Steps p.tables e below (T143.setTop (mkF m 68 #[.val (.long vx), .second, .val (.long vy), .second, .val (.long vz), .second, .val (.long vu), .second, .val (.long vw), .second, .val (.int sel), .val (.int (1 : Int32)), .val (.long a), .second, .val (.long d), .second, .val (.long b), .second, .unset, .unset, .unset, .unset, .unset, .unset, .unset, .unset, .unset, .unset, .unset, .unset, .unset, .unset, .unset, .unset, .unset, .unset] [(.int (1 : Int32))])) _
    refine XS.iconst X143.here hx rfl (hb hby at_68) ?_
    show Steps p.tables e below (T143.setTop (mkF m 69 #[.val (.long vx), .second, .val (.long vy), .second, .val (.long vz), .second, .val (.long vu), .second, .val (.long vw), .second, .val (.int sel), .val (.int (1 : Int32)), .val (.long a), .second, .val (.long d), .second, .val (.long b), .second, .unset, .unset, .unset, .unset, .unset, .unset, .unset, .unset, .unset, .unset, .unset, .unset, .unset, .unset, .unset, .unset, .unset, .unset] [(.int (3 : Int32)), (.int (1 : Int32))])) _
    refine XS.icmpYes X143.here hx rfl (pc0 := 69) (pc' := 82) rfl (hb hby at_69) rfl (XT.ii_lt_t (by decide)) (by decide) (by decide) ?_
    show Steps p.tables e below (T143.setTop (mkF m 82 #[.val (.long vx), .second, .val (.long vy), .second, .val (.long vz), .second, .val (.long vu), .second, .val (.long vw), .second, .val (.int sel), .val (.int (1 : Int32)), .val (.long a), .second, .val (.long d), .second, .val (.long b), .second, .unset, .unset, .unset, .unset, .unset, .unset, .unset, .unset, .unset, .unset, .unset, .unset, .unset, .unset, .unset, .unset, .unset, .unset] [])) _
    refine st144 _ ?_
    show Steps p.tables e below (T144.setTop (mkF m 180 #[.val (.long vx), .second, .val (.long vy), .second, .val (.long vz), .second, .val (.long vu), .second, .val (.long vw), .second, .val (.int sel), .val (.int (1 : Int32)), .val (.long a), .second, .val (.long d), .second, .val (.long b), .second, .val (.int ((XT.ushr sel (2 : Int32)) &&& (3 : Int32))), .val (.int ((((XT.ushr sel (4 : Int32)) &&& (3 : Int32)) % (3 : Int32)) - (1 : Int32))), .val (.int ((XT.ushr sel (6 : Int32)) &&& (3 : Int32))), .val (.int ((((XT.ushr sel (8 : Int32)) &&& (3 : Int32)) % (3 : Int32)) - (1 : Int32))), .val (.long r1), .second, .val (.long r2), .second, .val (.long q1), .second, .val (.long q2), .second, .unset, .unset, .unset, .unset, .unset, .unset] [])) _
    refine st145 _ ?_
    show Steps p.tables e below (T145.setTop (mkF m 183 #[.val (.long vx), .second, .val (.long vy), .second, .val (.long vz), .second, .val (.long vu), .second, .val (.long vw), .second, .val (.int sel), .val (.int (1 : Int32)), .val (.long a), .second, .val (.long d), .second, .val (.long b), .second, .val (.int ((XT.ushr sel (2 : Int32)) &&& (3 : Int32))), .val (.int ((((XT.ushr sel (4 : Int32)) &&& (3 : Int32)) % (3 : Int32)) - (1 : Int32))), .val (.int ((XT.ushr sel (6 : Int32)) &&& (3 : Int32))), .val (.int ((((XT.ushr sel (8 : Int32)) &&& (3 : Int32)) % (3 : Int32)) - (1 : Int32))), .val (.long r1), .second, .val (.long r2), .second, .val (.long q1), .second, .val (.long q2), .second, .unset, .unset, .unset, .unset, .unset, .unset] [(.ref b145)])) _
    refine XS.dup X145.here hx rfl (hb hby at_183) rfl rfl ?_
    show Steps p.tables e below (T145.setTop (mkF m 184 #[.val (.long vx), .second, .val (.long vy), .second, .val (.long vz), .second, .val (.long vu), .second, .val (.long vw), .second, .val (.int sel), .val (.int (1 : Int32)), .val (.long a), .second, .val (.long d), .second, .val (.long b), .second, .val (.int ((XT.ushr sel (2 : Int32)) &&& (3 : Int32))), .val (.int ((((XT.ushr sel (4 : Int32)) &&& (3 : Int32)) % (3 : Int32)) - (1 : Int32))), .val (.int ((XT.ushr sel (6 : Int32)) &&& (3 : Int32))), .val (.int ((((XT.ushr sel (8 : Int32)) &&& (3 : Int32)) % (3 : Int32)) - (1 : Int32))), .val (.long r1), .second, .val (.long r2), .second, .val (.long q1), .second, .val (.long q2), .second, .unset, .unset, .unset, .unset, .unset, .unset] [(.ref b145), (.ref b145)])) _
    refine st146.trans ?_
    show Steps p.tables e below (T146.setTop (mkF m 187 #[.val (.long vx), .second, .val (.long vy), .second, .val (.long vz), .second, .val (.long vu), .second, .val (.long vw), .second, .val (.int sel), .val (.int (1 : Int32)), .val (.long a), .second, .val (.long d), .second, .val (.long b), .second, .val (.int ((XT.ushr sel (2 : Int32)) &&& (3 : Int32))), .val (.int ((((XT.ushr sel (4 : Int32)) &&& (3 : Int32)) % (3 : Int32)) - (1 : Int32))), .val (.int ((XT.ushr sel (6 : Int32)) &&& (3 : Int32))), .val (.int ((((XT.ushr sel (8 : Int32)) &&& (3 : Int32)) % (3 : Int32)) - (1 : Int32))), .val (.long r1), .second, .val (.long r2), .second, .val (.long q1), .second, .val (.long q2), .second, .unset, .unset, .unset, .unset, .unset, .unset] [(.ref b145)])) _
    refine XS.astore X146.here hx rfl (hb hby at_187) rfl rfl (l' := #[.val (.long vx), .second, .val (.long vy), .second, .val (.long vz), .second, .val (.long vu), .second, .val (.long vw), .second, .val (.int sel), .val (.int (1 : Int32)), .val (.long a), .second, .val (.long d), .second, .val (.long b), .second, .val (.int ((XT.ushr sel (2 : Int32)) &&& (3 : Int32))), .val (.int ((((XT.ushr sel (4 : Int32)) &&& (3 : Int32)) % (3 : Int32)) - (1 : Int32))), .val (.int ((XT.ushr sel (6 : Int32)) &&& (3 : Int32))), .val (.int ((((XT.ushr sel (8 : Int32)) &&& (3 : Int32)) % (3 : Int32)) - (1 : Int32))), .val (.long r1), .second, .val (.long r2), .second, .val (.long q1), .second, .val (.long q2), .second, .val (.ref b145), .unset, .unset, .unset, .unset, .unset]) rfl ?_
    show Steps p.tables e below (T146.setTop (mkF m 189 #[.val (.long vx), .second, .val (.long vy), .second, .val (.long vz), .second, .val (.long vu), .second, .val (.long vw), .second, .val (.int sel), .val (.int (1 : Int32)), .val (.long a), .second, .val (.long d), .second, .val (.long b), .second, .val (.int ((XT.ushr sel (2 : Int32)) &&& (3 : Int32))), .val (.int ((((XT.ushr sel (4 : Int32)) &&& (3 : Int32)) % (3 : Int32)) - (1 : Int32))), .val (.int ((XT.ushr sel (6 : Int32)) &&& (3 : Int32))), .val (.int ((((XT.ushr sel (8 : Int32)) &&& (3 : Int32)) % (3 : Int32)) - (1 : Int32))), .val (.long r1), .second, .val (.long r2), .second, .val (.long q1), .second, .val (.long q2), .second, .val (.ref b145), .unset, .unset, .unset, .unset, .unset] [])) _
    refine XS.iload X146.here hx rfl (hb hby at_189) rfl ?_
    show Steps p.tables e below (T146.setTop (mkF m 191 #[.val (.long vx), .second, .val (.long vy), .second, .val (.long vz), .second, .val (.long vu), .second, .val (.long vw), .second, .val (.int sel), .val (.int (1 : Int32)), .val (.long a), .second, .val (.long d), .second, .val (.long b), .second, .val (.int ((XT.ushr sel (2 : Int32)) &&& (3 : Int32))), .val (.int ((((XT.ushr sel (4 : Int32)) &&& (3 : Int32)) % (3 : Int32)) - (1 : Int32))), .val (.int ((XT.ushr sel (6 : Int32)) &&& (3 : Int32))), .val (.int ((((XT.ushr sel (8 : Int32)) &&& (3 : Int32)) % (3 : Int32)) - (1 : Int32))), .val (.long r1), .second, .val (.long r2), .second, .val (.long q1), .second, .val (.long q2), .second, .val (.ref b145), .unset, .unset, .unset, .unset, .unset] [(.int (1 : Int32))])) _
    refine XS.ifNo X146.here hx rfl (hb hby at_191) rfl (XT.i0_le_f (by decide)) ?_
    show Steps p.tables e below (T146.setTop (mkF m 194 #[.val (.long vx), .second, .val (.long vy), .second, .val (.long vz), .second, .val (.long vu), .second, .val (.long vw), .second, .val (.int sel), .val (.int (1 : Int32)), .val (.long a), .second, .val (.long d), .second, .val (.long b), .second, .val (.int ((XT.ushr sel (2 : Int32)) &&& (3 : Int32))), .val (.int ((((XT.ushr sel (4 : Int32)) &&& (3 : Int32)) % (3 : Int32)) - (1 : Int32))), .val (.int ((XT.ushr sel (6 : Int32)) &&& (3 : Int32))), .val (.int ((((XT.ushr sel (8 : Int32)) &&& (3 : Int32)) % (3 : Int32)) - (1 : Int32))), .val (.long r1), .second, .val (.long r2), .second, .val (.long q1), .second, .val (.long q2), .second, .val (.ref b145), .unset, .unset, .unset, .unset, .unset] [])) _
    refine XS.aload X146.here hx rfl (hb hby at_194) rfl rfl ?_
    show Steps p.tables e below (T146.setTop (mkF m 196 #[.val (.long vx), .second, .val (.long vy), .second, .val (.long vz), .second, .val (.long vu), .second, .val (.long vw), .second, .val (.int sel), .val (.int (1 : Int32)), .val (.long a), .second, .val (.long d), .second, .val (.long b), .second, .val (.int ((XT.ushr sel (2 : Int32)) &&& (3 : Int32))), .val (.int ((((XT.ushr sel (4 : Int32)) &&& (3 : Int32)) % (3 : Int32)) - (1 : Int32))), .val (.int ((XT.ushr sel (6 : Int32)) &&& (3 : Int32))), .val (.int ((((XT.ushr sel (8 : Int32)) &&& (3 : Int32)) % (3 : Int32)) - (1 : Int32))), .val (.long r1), .second, .val (.long r2), .second, .val (.long q1), .second, .val (.long q2), .second, .val (.ref b145), .unset, .unset, .unset, .unset, .unset] [(.ref b145)])) _
    refine XT.lload X146.here hx rfl (hb hby at_196) rfl ?_
    show Steps p.tables e below (T146.setTop (mkF m 198 #[.val (.long vx), .second, .val (.long vy), .second, .val (.long vz), .second, .val (.long vu), .second, .val (.long vw), .second, .val (.int sel), .val (.int (1 : Int32)), .val (.long a), .second, .val (.long d), .second, .val (.long b), .second, .val (.int ((XT.ushr sel (2 : Int32)) &&& (3 : Int32))), .val (.int ((((XT.ushr sel (4 : Int32)) &&& (3 : Int32)) % (3 : Int32)) - (1 : Int32))), .val (.int ((XT.ushr sel (6 : Int32)) &&& (3 : Int32))), .val (.int ((((XT.ushr sel (8 : Int32)) &&& (3 : Int32)) % (3 : Int32)) - (1 : Int32))), .val (.long r1), .second, .val (.long r2), .second, .val (.long q1), .second, .val (.long q2), .second, .val (.ref b145), .unset, .unset, .unset, .unset, .unset] [(.long a), (.ref b145)])) _
    refine own_dconst1 X146.here hx rfl (hb hby at_198) ?_
    show Steps p.tables e below (T146.setTop (mkF m 199 #[.val (.long vx), .second, .val (.long vy), .second, .val (.long vz), .second, .val (.long vu), .second, .val (.long vw), .second, .val (.int sel), .val (.int (1 : Int32)), .val (.long a), .second, .val (.long d), .second, .val (.long b), .second, .val (.int ((XT.ushr sel (2 : Int32)) &&& (3 : Int32))), .val (.int ((((XT.ushr sel (4 : Int32)) &&& (3 : Int32)) % (3 : Int32)) - (1 : Int32))), .val (.int ((XT.ushr sel (6 : Int32)) &&& (3 : Int32))), .val (.int ((((XT.ushr sel (8 : Int32)) &&& (3 : Int32)) % (3 : Int32)) - (1 : Int32))), .val (.long r1), .second, .val (.long r2), .second, .val (.long q1), .second, .val (.long q2), .second, .val (.ref b145), .unset, .unset, .unset, .unset, .unset] [(.double FP.dconst1), (.long a), (.ref b145)])) _
    refine st147.trans ?_
    show Steps p.tables e below (T147.setTop (mkF m 202 #[.val (.long vx), .second, .val (.long vy), .second, .val (.long vz), .second, .val (.long vu), .second, .val (.long vw), .second, .val (.int sel), .val (.int (1 : Int32)), .val (.long a), .second, .val (.long d), .second, .val (.long b), .second, .val (.int ((XT.ushr sel (2 : Int32)) &&& (3 : Int32))), .val (.int ((((XT.ushr sel (4 : Int32)) &&& (3 : Int32)) % (3 : Int32)) - (1 : Int32))), .val (.int ((XT.ushr sel (6 : Int32)) &&& (3 : Int32))), .val (.int ((((XT.ushr sel (8 : Int32)) &&& (3 : Int32)) % (3 : Int32)) - (1 : Int32))), .val (.long r1), .second, .val (.long r2), .second, .val (.long q1), .second, .val (.long q2), .second, .val (.ref b145), .unset, .unset, .unset, .unset, .unset] [])) _
    refine XS.iload X147.here hx rfl (hb hby at_202) rfl ?_
    show Steps p.tables e below (T147.setTop (mkF m 204 #[.val (.long vx), .second, .val (.long vy), .second, .val (.long vz), .second, .val (.long vu), .second, .val (.long vw), .second, .val (.int sel), .val (.int (1 : Int32)), .val (.long a), .second, .val (.long d), .second, .val (.long b), .second, .val (.int ((XT.ushr sel (2 : Int32)) &&& (3 : Int32))), .val (.int ((((XT.ushr sel (4 : Int32)) &&& (3 : Int32)) % (3 : Int32)) - (1 : Int32))), .val (.int ((XT.ushr sel (6 : Int32)) &&& (3 : Int32))), .val (.int ((((XT.ushr sel (8 : Int32)) &&& (3 : Int32)) % (3 : Int32)) - (1 : Int32))), .val (.long r1), .second, .val (.long r2), .second, .val (.long q1), .second, .val (.long q2), .second, .val (.ref b145), .unset, .unset, .unset, .unset, .unset] [(.int (1 : Int32))])) _
    refine XS.iconst X147.here hx rfl (hb hby at_204) ?_
    show Steps p.tables e below (T147.setTop (mkF m 205 #[.val (.long vx), .second, .val (.long vy), .second, .val (.long vz), .second, .val (.long vu), .second, .val (.long vw), .second, .val (.int sel), .val (.int (1 : Int32)), .val (.long a), .second, .val (.long d), .second, .val (.long b), .second, .val (.int ((XT.ushr sel (2 : Int32)) &&& (3 : Int32))), .val (.int ((((XT.ushr sel (4 : Int32)) &&& (3 : Int32)) % (3 : Int32)) - (1 : Int32))), .val (.int ((XT.ushr sel (6 : Int32)) &&& (3 : Int32))), .val (.int ((((XT.ushr sel (8 : Int32)) &&& (3 : Int32)) % (3 : Int32)) - (1 : Int32))), .val (.long r1), .second, .val (.long r2), .second, .val (.long q1), .second, .val (.long q2), .second, .val (.ref b145), .unset, .unset, .unset, .unset, .unset] [(.int (1 : Int32)), (.int (1 : Int32))])) _
    refine XS.icmpYes X147.here hx rfl (pc0 := 205) (pc' := 218) rfl (hb hby at_205) rfl (XT.ii_le_t (by decide)) (by decide) (by decide) ?_
    show Steps p.tables e below (T147.setTop (mkF m 218 #[.val (.long vx), .second, .val (.long vy), .second, .val (.long vz), .second, .val (.long vu), .second, .val (.long vw), .second, .val (.int sel), .val (.int (1 : Int32)), .val (.long a), .second, .val (.long d), .second, .val (.long b), .second, .val (.int ((XT.ushr sel (2 : Int32)) &&& (3 : Int32))), .val (.int ((((XT.ushr sel (4 : Int32)) &&& (3 : Int32)) % (3 : Int32)) - (1 : Int32))), .val (.int ((XT.ushr sel (6 : Int32)) &&& (3 : Int32))), .val (.int ((((XT.ushr sel (8 : Int32)) &&& (3 : Int32)) % (3 : Int32)) - (1 : Int32))), .val (.long r1), .second, .val (.long r2), .second, .val (.long q1), .second, .val (.long q2), .second, .val (.ref b145), .unset, .unset, .unset, .unset, .unset] [])) _
    refine XS.iload X147.here hx rfl (hb hby at_218) rfl ?_
    show Steps p.tables e below (T147.setTop (mkF m 220 #[.val (.long vx), .second, .val (.long vy), .second, .val (.long vz), .second, .val (.long vu), .second, .val (.long vw), .second, .val (.int sel), .val (.int (1 : Int32)), .val (.long a), .second, .val (.long d), .second, .val (.long b), .second, .val (.int ((XT.ushr sel (2 : Int32)) &&& (3 : Int32))), .val (.int ((((XT.ushr sel (4 : Int32)) &&& (3 : Int32)) % (3 : Int32)) - (1 : Int32))), .val (.int ((XT.ushr sel (6 : Int32)) &&& (3 : Int32))), .val (.int ((((XT.ushr sel (8 : Int32)) &&& (3 : Int32)) % (3 : Int32)) - (1 : Int32))), .val (.long r1), .second, .val (.long r2), .second, .val (.long q1), .second, .val (.long q2), .second, .val (.ref b145), .unset, .unset, .unset, .unset, .unset] [(.int (1 : Int32))])) _
    refine XS.iconst X147.here hx rfl (hb hby at_220) ?_
    show Steps p.tables e below (T147.setTop (mkF m 221 #[.val (.long vx), .second, .val (.long vy), .second, .val (.long vz), .second, .val (.long vu), .second, .val (.long vw), .second, .val (.int sel), .val (.int (1 : Int32)), .val (.long a), .second, .val (.long d), .second, .val (.long b), .second, .val (.int ((XT.ushr sel (2 : Int32)) &&& (3 : Int32))), .val (.int ((((XT.ushr sel (4 : Int32)) &&& (3 : Int32)) % (3 : Int32)) - (1 : Int32))), .val (.int ((XT.ushr sel (6 : Int32)) &&& (3 : Int32))), .val (.int ((((XT.ushr sel (8 : Int32)) &&& (3 : Int32)) % (3 : Int32)) - (1 : Int32))), .val (.long r1), .second, .val (.long r2), .second, .val (.long q1), .second, .val (.long q2), .second, .val (.ref b145), .unset, .unset, .unset, .unset, .unset] [(.int (2 : Int32)), (.int (1 : Int32))])) _
    refine XS.icmpYes X147.here hx rfl (pc0 := 221) (pc' := 234) rfl (hb hby at_221) rfl (XT.ii_le_t (by decide)) (by decide) (by decide) ?_
    show Steps p.tables e below (T147.setTop (mkF m 234 #[.val (.long vx), .second, .val (.long vy), .second, .val (.long vz), .second, .val (.long vu), .second, .val (.long vw), .second, .val (.int sel), .val (.int (1 : Int32)), .val (.long a), .second, .val (.long d), .second, .val (.long b), .second, .val (.int ((XT.ushr sel (2 : Int32)) &&& (3 : Int32))), .val (.int ((((XT.ushr sel (4 : Int32)) &&& (3 : Int32)) % (3 : Int32)) - (1 : Int32))), .val (.int ((XT.ushr sel (6 : Int32)) &&& (3 : Int32))), .val (.int ((((XT.ushr sel (8 : Int32)) &&& (3 : Int32)) % (3 : Int32)) - (1 : Int32))), .val (.long r1), .second, .val (.long r2), .second, .val (.long q1), .second, .val (.long q2), .second, .val (.ref b145), .unset, .unset, .unset, .unset, .unset] [])) _
    refine st148 _ ?_
    show Steps p.tables e below (T148.setTop (mkF m 374 #[.val (.long vx), .second, .val (.long vy), .second, .val (.long vz), .second, .val (.long vu), .second, .val (.long vw), .second, .val (.int sel), .val (.int (1 : Nat).toInt32), .val (.long a), .second, .val (.long d), .second, .val (.long b), .second, .val (.int ((XT.ushr sel (2 : Int32)) &&& (3 : Int32))), .val (.int ((((XT.ushr sel (4 : Int32)) &&& (3 : Int32)) % (3 : Int32)) - (1 : Int32))), .val (.int ((XT.ushr sel (6 : Int32)) &&& (3 : Int32))), .val (.int ((((XT.ushr sel (8 : Int32)) &&& (3 : Int32)) % (3 : Int32)) - (1 : Int32))), .val (.long r1), .second, .val (.long r2), .second, .val (.long q1), .second, .val (.long q2), .second, .val (.ref b145), y31_148, y32_148, y33_148, y34_148, y35_148] [])) _
    refine XS.iconst X148.here hx rfl (hb hby at_374) ?_
    show Steps p.tables e below (T148.setTop (mkF m 375 #[.val (.long vx), .second, .val (.long vy), .second, .val (.long vz), .second, .val (.long vu), .second, .val (.long vw), .second, .val (.int sel), .val (.int (1 : Nat).toInt32), .val (.long a), .second, .val (.long d), .second, .val (.long b), .second, .val (.int ((XT.ushr sel (2 : Int32)) &&& (3 : Int32))), .val (.int ((((XT.ushr sel (4 : Int32)) &&& (3 : Int32)) % (3 : Int32)) - (1 : Int32))), .val (.int ((XT.ushr sel (6 : Int32)) &&& (3 : Int32))), .val (.int ((((XT.ushr sel (8 : Int32)) &&& (3 : Int32)) % (3 : Int32)) - (1 : Int32))), .val (.long r1), .second, .val (.long r2), .second, .val (.long q1), .second, .val (.long q2), .second, .val (.ref b145), y31_148, y32_148, y33_148, y34_148, y35_148] [(.int (1 : Int32))])) _
    exact retN X148 hx (t := .boolean) Bd.returns (by simp) (hb hby at_375) hr
  · show Q_own_law1 Z vx vy vz vu vw sel a b d r1 r2 q1 q2 h0 n0 _ T148.heap _
    rw [e148]
    exact ⟨rfl, N148⟩
theorem pn_own_law2 : plainName "com/example/xml_element_search/xmlelementsearch/ElementScoresHoldsPinLaw" = true := by first | (simp [plainName, overriddenIn]; done) | decide +kernel
theorem ef_own_law2 (m : MethodId) (x0 : Int64) (x1 : Int64) (x2 : Int64) (x3 : Int64) (x4 : Int64) (x5 : Int32) : entryFrame m #[(.long x0), (.long x1), (.long x2), (.long x3), (.long x4), (.int x5)] maxLocals = mkF m 0 #[.val (.long x0), .second, .val (.long x1), .second, .val (.long x2), .second, .val (.long x3), .second, .val (.long x4), .second, .val (.int x5), .unset, .unset, .unset, .unset, .unset, .unset, .unset, .unset, .unset, .unset, .unset, .unset, .unset, .unset, .unset, .unset, .unset, .unset, .unset, .unset, .unset, .unset, .unset, .unset, .unset] [] := by first | (simp [entryFrame, mkF, argsToLocals, Value.category, maxLocals]; done) | rfl
def Q_own_law2 (Z : State) (vx : Int64) (vy : Int64) (vz : Int64) (vu : Int64) (vw : Int64) (sel : Int32) (a : Int64) (b : Int64) (d : Int64) (r1 : Int64) (r2 : Int64) (q1 : Int64) (q2 : Int64) (h0 : Heap) (n0 : Nat) (v : Option Value) (h : Heap) (L : List Loc) : Prop := v = some (.int 1) ∧ Fr n0 L
set_option maxRecDepth 65536 in
set_option maxHeartbeats 40000000 in
theorem own_law2 (l : Launch) (Z : State) (a0 : Array Value) (hw : ∀ d ∈ tables_1, d.before a0 Z = true) (ws : List Jvm.Cond) (vx : Int64) (vy : Int64) (vz : Int64) (vu : Int64) (vw : Int64) (sel : Int32) (a : Int64) (b : Int64) (d : Int64) (r1 : Int64) (r2 : Int64) (q1 : Int64) (q2 : Int64) (h0 : Heap) (n0 : Nat) (Z0 : n0 ≤ h0.size) (hn_ : (sel &&& (3 : Int32)) = (2 : Int32)) (hA : (if (if vz < vy then vz else vy) < vx then (if vz < vy then vz else vy) else vx) = a) (hC : (if vx < (if vy < vz then vz else vy) then (if vy < vz then vz else vy) else vx) = d) (hB : (if (if vy < vx then vy else vx) < (if vz < (if vx < vy then vy else vx) then vz else (if vx < vy then vy else vx)) then (if vz < (if vx < vy then vy else vx) then vz else (if vx < vy then vy else vx)) else (if vy < vx then vy else vx)) = b) (hr1 : ((own_base ((XT.ushr sel (2 : Int32)) &&& (3 : Int32)) vu a b d) + ((((XT.ushr sel (4 : Int32)) &&& (3 : Int32)) % (3 : Int32)) - (1 : Int32)).toInt64) = r1) (hr2 : ((own_base ((XT.ushr sel (6 : Int32)) &&& (3 : Int32)) vw a b d) + ((((XT.ushr sel (8 : Int32)) &&& (3 : Int32)) % (3 : Int32)) - (1 : Int32)).toInt64) = r2) (hq1 : (if r2 < r1 then r2 else r1) = q1) (hq2 : (if r1 < r2 then r2 else r1) = q2) (h_ab : ¬ b < a) (h_bc : ¬ d < b) (hqq : ¬ q2 < q1) :
    MetFree l x (head1 (Jvm.Cond.code x code maxLocals ret :: ws) room_1) (fun a U => a = #[(.long vx), (.long vy), (.long vz), (.long vu), (.long vw), (.int sel)] ∧ Z.Warmed39 U.vm ∧ U.heap = h0) (fun _ _ _ _ _ => True) (fun _ U o U' => ∃ v L, o = .returned v ∧ Q_own_law2 Z vx vy vz vu vw sel a b d r1 r2 q1 q2 h0 n0 v U'.heap L ∧ FrameEnd U o U' L 24 128) := by
  refine MetFree.of_bodySF (plainFor_of_name pn_own_law2) hisR ?_
  intro p e s m args below meth c s₁ Bd hml0 hP hK
  obtain ⟨rfl, hZ, hh⟩ := hP
  have hx := Bd.exec
  have hby := Bd.bytes
  have hml : c.maxLocals = 36 := hml0
  have hown : s.vm.findClass "com/example/xml_element_search/xmlelementsearch/ElementScoresHoldsPinLaw" = some m.cls := findClass_of_methodNamed Bd.named
  have hnm := (name_of_methodNamed Bd.named Bd.method).1
  have X0 : Stand p l e room_1 s m #[(.long vx), (.long vy), (.long vz), (.long vu), (.long vw), (.int sel)] below meth c s₁ [] 0 0 := Stand.of_body Bd
  have e0 : s₁.heap = h0 := by rw [← hh, Bd.state]; rfl
  have N0 := Fr.nil n0
  have pre0 : ∀ t, Steps p.tables e below (s₁.setTop (mkF m 0 #[.val (.long vx), .second, .val (.long vy), .second, .val (.long vz), .second, .val (.long vu), .second, .val (.long vw), .second, .val (.int sel), .unset, .unset, .unset, .unset, .unset, .unset, .unset, .unset, .unset, .unset, .unset, .unset, .unset, .unset, .unset, .unset, .unset, .unset, .unset, .unset, .unset, .unset, .unset, .unset, .unset] [])) t → Steps p.tables e below (s₁.setTop (entryFrame m #[(.long vx), (.long vy), (.long vz), (.long vu), (.long vw), (.int sel)] maxLocals)) t := fun t k => castTop (ef_own_law2 m (vx) (vy) (vz) (vu) (vw) (sel)) k
  obtain ⟨T149, L149, X149, e149, N149, st149⟩ := own_sA hw X0 hx hZ hby hml hown e0 N0 Z0 vx vy vz (.val (.long vu)) (.second) (.val (.long vw)) (.second) (.val (.int sel)) (.val (.int (2 : Int32))) (.unset) (.unset) (.unset) (.unset) (.unset) (.unset) (.unset) (.unset) (.unset) (.unset) (.unset) (.unset) (.unset) (.unset) (.unset) (.unset) (.unset) (.unset) a b d hA hC hB
  by_cases hab : a = b
  · obtain ⟨fs, hr, hrun, hended, hW, hsame⟩ := X149.leave (v := some (.int (1 : Int32))) (fun h => by rw [Bd.returns] at h; cases h)
    refine ⟨_, _, pre0 _ ?_, hrun, hended, _, _, rfl, ?_, ⟨_, rfl⟩, hW, hsame.mono (by decide) (by decide)⟩
    · show Steps p.tables e below (s₁.setTop (mkF m 0 #[.val (.long vx), .second, .val (.long vy), .second, .val (.long vz), .second, .val (.long vu), .second, .val (.long vw), .second, .val (.int sel), .unset, .unset, .unset, .unset, .unset, .unset, .unset, .unset, .unset, .unset, .unset, .unset, .unset, .unset, .unset, .unset, .unset, .unset, .unset, .unset, .unset, .unset, .unset, .unset, .unset] [])) _
      refine XS.iload X0.here hx rfl (hb hby at_0) rfl ?_
      show Steps p.tables e below (s₁.setTop (mkF m 2 #[.val (.long vx), .second, .val (.long vy), .second, .val (.long vz), .second, .val (.long vu), .second, .val (.long vw), .second, .val (.int sel), .unset, .unset, .unset, .unset, .unset, .unset, .unset, .unset, .unset, .unset, .unset, .unset, .unset, .unset, .unset, .unset, .unset, .unset, .unset, .unset, .unset, .unset, .unset, .unset, .unset] [(.int sel)])) _
      refine XS.iconst X0.here hx rfl (hb hby at_2) ?_
      show Steps p.tables e below (s₁.setTop (mkF m 3 #[.val (.long vx), .second, .val (.long vy), .second, .val (.long vz), .second, .val (.long vu), .second, .val (.long vw), .second, .val (.int sel), .unset, .unset, .unset, .unset, .unset, .unset, .unset, .unset, .unset, .unset, .unset, .unset, .unset, .unset, .unset, .unset, .unset, .unset, .unset, .unset, .unset, .unset, .unset, .unset, .unset] [(.int (3 : Int32)), (.int sel)])) _
      refine XS.iand X0.here hx rfl (hb hby at_3) rfl ?_
      show Steps p.tables e below (s₁.setTop (mkF m 4 #[.val (.long vx), .second, .val (.long vy), .second, .val (.long vz), .second, .val (.long vu), .second, .val (.long vw), .second, .val (.int sel), .unset, .unset, .unset, .unset, .unset, .unset, .unset, .unset, .unset, .unset, .unset, .unset, .unset, .unset, .unset, .unset, .unset, .unset, .unset, .unset, .unset, .unset, .unset, .unset, .unset] [(.int (sel &&& (3 : Int32)))])) _
      rw [hn_]
      show Steps p.tables e below (s₁.setTop (mkF m 4 #[.val (.long vx), .second, .val (.long vy), .second, .val (.long vz), .second, .val (.long vu), .second, .val (.long vw), .second, .val (.int sel), .unset, .unset, .unset, .unset, .unset, .unset, .unset, .unset, .unset, .unset, .unset, .unset, .unset, .unset, .unset, .unset, .unset, .unset, .unset, .unset, .unset, .unset, .unset, .unset, .unset] [(.int (2 : Int32))])) _
      refine XS.istore X0.here hx rfl (hb hby at_4) rfl (l' := #[.val (.long vx), .second, .val (.long vy), .second, .val (.long vz), .second, .val (.long vu), .second, .val (.long vw), .second, .val (.int sel), .val (.int (2 : Int32)), .unset, .unset, .unset, .unset, .unset, .unset, .unset, .unset, .unset, .unset, .unset, .unset, .unset, .unset, .unset, .unset, .unset, .unset, .unset, .unset, .unset, .unset, .unset, .unset]) rfl ?_
      show Steps p.tables e below (s₁.setTop (mkF m 6 #[.val (.long vx), .second, .val (.long vy), .second, .val (.long vz), .second, .val (.long vu), .second, .val (.long vw), .second, .val (.int sel), .val (.int (2 : Int32)), .unset, .unset, .unset, .unset, .unset, .unset, .unset, .unset, .unset, .unset, .unset, .unset, .unset, .unset, .unset, .unset, .unset, .unset, .unset, .unset, .unset, .unset, .unset, .unset] [])) _
      refine st149 _ ?_
      show Steps p.tables e below (T149.setTop (mkF m 50 #[.val (.long vx), .second, .val (.long vy), .second, .val (.long vz), .second, .val (.long vu), .second, .val (.long vw), .second, .val (.int sel), .val (.int (2 : Int32)), .val (.long a), .second, .val (.long d), .second, .val (.long b), .second, .unset, .unset, .unset, .unset, .unset, .unset, .unset, .unset, .unset, .unset, .unset, .unset, .unset, .unset, .unset, .unset, .unset, .unset] [])) _
      refine XS.iload X149.here hx rfl (hb hby at_50) rfl ?_
      show Steps p.tables e below (T149.setTop (mkF m 52 #[.val (.long vx), .second, .val (.long vy), .second, .val (.long vz), .second, .val (.long vu), .second, .val (.long vw), .second, .val (.int sel), .val (.int (2 : Int32)), .val (.long a), .second, .val (.long d), .second, .val (.long b), .second, .unset, .unset, .unset, .unset, .unset, .unset, .unset, .unset, .unset, .unset, .unset, .unset, .unset, .unset, .unset, .unset, .unset, .unset] [(.int (2 : Int32))])) _
      refine XS.iconst X149.here hx rfl (hb hby at_52) ?_
      show Steps p.tables e below (T149.setTop (mkF m 53 #[.val (.long vx), .second, .val (.long vy), .second, .val (.long vz), .second, .val (.long vu), .second, .val (.long vw), .second, .val (.int sel), .val (.int (2 : Int32)), .val (.long a), .second, .val (.long d), .second, .val (.long b), .second, .unset, .unset, .unset, .unset, .unset, .unset, .unset, .unset, .unset, .unset, .unset, .unset, .unset, .unset, .unset, .unset, .unset, .unset] [(.int (2 : Int32)), (.int (2 : Int32))])) _
      refine XS.icmpNo X149.here hx rfl (hb hby at_53) rfl (XT.ii_lt_f (by decide)) ?_
      show Steps p.tables e below (T149.setTop (mkF m 56 #[.val (.long vx), .second, .val (.long vy), .second, .val (.long vz), .second, .val (.long vu), .second, .val (.long vw), .second, .val (.int sel), .val (.int (2 : Int32)), .val (.long a), .second, .val (.long d), .second, .val (.long b), .second, .unset, .unset, .unset, .unset, .unset, .unset, .unset, .unset, .unset, .unset, .unset, .unset, .unset, .unset, .unset, .unset, .unset, .unset] [])) _
      refine XT.lload X149.here hx rfl (hb hby at_56) rfl ?_
      show Steps p.tables e below (T149.setTop (mkF m 58 #[.val (.long vx), .second, .val (.long vy), .second, .val (.long vz), .second, .val (.long vu), .second, .val (.long vw), .second, .val (.int sel), .val (.int (2 : Int32)), .val (.long a), .second, .val (.long d), .second, .val (.long b), .second, .unset, .unset, .unset, .unset, .unset, .unset, .unset, .unset, .unset, .unset, .unset, .unset, .unset, .unset, .unset, .unset, .unset, .unset] [(.long a)])) _
      refine XT.lload X149.here hx rfl (hb hby at_58) rfl ?_
      show Steps p.tables e below (T149.setTop (mkF m 60 #[.val (.long vx), .second, .val (.long vy), .second, .val (.long vz), .second, .val (.long vu), .second, .val (.long vw), .second, .val (.int sel), .val (.int (2 : Int32)), .val (.long a), .second, .val (.long d), .second, .val (.long b), .second, .unset, .unset, .unset, .unset, .unset, .unset, .unset, .unset, .unset, .unset, .unset, .unset, .unset, .unset, .unset, .unset, .unset, .unset] [(.long b), (.long a)])) _
      refine XT.lcmp X149.here hx rfl (hb hby at_60) rfl ?_
      show Steps p.tables e below (T149.setTop (mkF m 61 #[.val (.long vx), .second, .val (.long vy), .second, .val (.long vz), .second, .val (.long vu), .second, .val (.long vw), .second, .val (.int sel), .val (.int (2 : Int32)), .val (.long a), .second, .val (.long d), .second, .val (.long b), .second, .unset, .unset, .unset, .unset, .unset, .unset, .unset, .unset, .unset, .unset, .unset, .unset, .unset, .unset, .unset, .unset, .unset, .unset] [(.int (XT.cmpL a b))])) _
      refine XS.ifNo X149.here hx rfl (hb hby at_61) rfl (XT.ll_ne_f hab) ?_
      show Steps p.tables e below (T149.setTop (mkF m 64 #[.val (.long vx), .second, .val (.long vy), .second, .val (.long vz), .second, .val (.long vu), .second, .val (.long vw), .second, .val (.int sel), .val (.int (2 : Int32)), .val (.long a), .second, .val (.long d), .second, .val (.long b), .second, .unset, .unset, .unset, .unset, .unset, .unset, .unset, .unset, .unset, .unset, .unset, .unset, .unset, .unset, .unset, .unset, .unset, .unset] [])) _
      refine XS.iconst X149.here hx rfl (hb hby at_64) ?_
      show Steps p.tables e below (T149.setTop (mkF m 65 #[.val (.long vx), .second, .val (.long vy), .second, .val (.long vz), .second, .val (.long vu), .second, .val (.long vw), .second, .val (.int sel), .val (.int (2 : Int32)), .val (.long a), .second, .val (.long d), .second, .val (.long b), .second, .unset, .unset, .unset, .unset, .unset, .unset, .unset, .unset, .unset, .unset, .unset, .unset, .unset, .unset, .unset, .unset, .unset, .unset] [(.int (1 : Int32))])) _
      exact retN X149 hx (t := .boolean) Bd.returns (by simp) (hb hby at_65) hr
    · show Q_own_law2 Z vx vy vz vu vw sel a b d r1 r2 q1 q2 h0 n0 _ T149.heap _
      rw [e149]
      exact ⟨rfl, N149⟩
  · obtain ⟨T151, L151, X151, e151, N151, st151⟩ := own_sB hw X149 hx hZ hby hml hown e149 N149 Z0 (.val (.long vx)) (.second) (.val (.long vy)) (.second) (.val (.long vz)) (.second) vu vw sel (.val (.int (2 : Int32))) a d b (.unset) (.unset) (.unset) (.unset) (.unset) (.unset) r1 r2 q1 q2 hr1 hr2 hq1 hq2
    obtain ⟨T152, h152, X152, e152, E152, A152, D152, -, st152⟩ := newO X151 hx hZ hown (hw _ (List.mem_of_getElem? (i := 11) rfl)) (hw _ (List.mem_of_getElem? (i := 12) rfl)) (hw _ (List.mem_of_getElem? (i := 13) rfl)) e151 (g := (mkF m 180 #[.val (.long vx), .second, .val (.long vy), .second, .val (.long vz), .second, .val (.long vu), .second, .val (.long vw), .second, .val (.int sel), .val (.int (2 : Int32)), .val (.long a), .second, .val (.long d), .second, .val (.long b), .second, .val (.int ((XT.ushr sel (2 : Int32)) &&& (3 : Int32))), .val (.int ((((XT.ushr sel (4 : Int32)) &&& (3 : Int32)) % (3 : Int32)) - (1 : Int32))), .val (.int ((XT.ushr sel (6 : Int32)) &&& (3 : Int32))), .val (.int ((((XT.ushr sel (8 : Int32)) &&& (3 : Int32)) % (3 : Int32)) - (1 : Int32))), .val (.long r1), .second, .val (.long r2), .second, .val (.long q1), .second, .val (.long q2), .second, .unset, .unset, .unset, .unset, .unset, .unset] [])) rfl (hb hby at_180) (by decide) (by decide)
    obtain ⟨b152, g152⟩ : ∃ z, z = h0.size := ⟨_, rfl⟩
    rw [← g152] at A152 D152 st152
    have g_b152 : n0 ≤ b152 := Nat.le_trans Z0 (Nat.le_of_eq g152.symm)
    have F152_runStarts : Fld Z h152 b152 "com/example/xml_element_search/xmlelementsearch/ElementScores" "runStarts" "[I" .null := D152 (Or.inl (hw _ (List.mem_of_getElem? (i := 25) rfl))) (ty := (.array .int)) (by decide)
    have F152_elements : Fld Z h152 b152 "com/example/xml_element_search/xmlelementsearch/ElementScores" "elements" "[J" .null := D152 (Or.inl (hw _ (List.mem_of_getElem? (i := 31) rfl))) (ty := (.array .long)) (by decide)
    have F152_scores : Fld Z h152 b152 "com/example/xml_element_search/xmlelementsearch/ElementScores" "scores" "[D" .null := D152 (Or.inl (hw _ (List.mem_of_getElem? (i := 34) rfl))) (ty := (.array .double)) (by decide)
    have F152_size : Fld Z h152 b152 "com/example/xml_element_search/xmlelementsearch/ElementScores" "size" "I" (.int (0 : Int32)) := D152 (Or.inl (hw _ (List.mem_of_getElem? (i := 41) rfl))) (ty := .int) (by decide)
    have F152_runs : Fld Z h152 b152 "com/example/xml_element_search/xmlelementsearch/ElementScores" "runs" "I" (.int (0 : Int32)) := D152 (Or.inl (hw _ (List.mem_of_getElem? (i := 43) rfl))) (ty := .int) (by decide)
    obtain ⟨_, _, ⟨T153, L153, k153, n153⟩, -, X153, ⟨Lc153, hQ153, l153, y153, z153⟩, st153⟩ := X152.specialBack hx (y := (⟨"com/example/xml_element_search/xmlelementsearch/ElementScores", "<init>", "()V"⟩ : MethodName)) rfl hown (mvT hZ (hw _ (List.mem_of_getElem? (i := 14) rfl))) (mvT hZ (hw _ (List.mem_of_getElem? (i := 15) rfl))) (mvT hZ (hw _ (List.mem_of_getElem? (i := 16) rfl))) (by decide) (backOf (W := 1) (own_i0 l Z a0 hw [] b152 h152 n0 (Nat.le_trans Z0 E152.1) A152 F152_elements F152_scores F152_size F152_runStarts F152_runs g_b152) hZ (hw _ (List.mem_of_getElem? (i := 16) rfl)) (hw _ (List.mem_of_getElem? (i := 13) rfl)) (by decide) (by decide)) (g := (mkF m 184 #[.val (.long vx), .second, .val (.long vy), .second, .val (.long vz), .second, .val (.long vu), .second, .val (.long vw), .second, .val (.int sel), .val (.int (2 : Int32)), .val (.long a), .second, .val (.long d), .second, .val (.long b), .second, .val (.int ((XT.ushr sel (2 : Int32)) &&& (3 : Int32))), .val (.int ((((XT.ushr sel (4 : Int32)) &&& (3 : Int32)) % (3 : Int32)) - (1 : Int32))), .val (.int ((XT.ushr sel (6 : Int32)) &&& (3 : Int32))), .val (.int ((((XT.ushr sel (8 : Int32)) &&& (3 : Int32)) % (3 : Int32)) - (1 : Int32))), .val (.long r1), .second, .val (.long r2), .second, .val (.long q1), .second, .val (.long q2), .second, .unset, .unset, .unset, .unset, .unset, .unset] [(.ref b152), (.ref b152)])) rfl (by rw [hml]; rfl) (Steps.refl _) (a := b152) (argsL := []) (rest := [(.ref b152)]) (lenOf pd_9 rfl) rfl (by show 2 * 0 + _ ≤ _; exact Nat.le_of_eq rfl) (hb hby at_184) (fun _ _ => ⟨rfl, e152, (by decide : 1 + 3 ≤ _), (by decide : 5 + 17 ≤ _)⟩)
    dsimp only [Pt.U, Pt.locs, Pt.cells, Pt.slots] at X153 l153 y153 z153 st153 hQ153
    subst l153 y153 z153
    obtain ⟨rfl, N153q, ae, as_, ar, ke, ks, kr, ⟨g_ar, l1, l2, l3⟩, E_, F_e, F_s, F_n, F_r, F_u, V_e, V_s, V_r⟩ := hQ153
    have N153 := Fr.app N151 N153q
    have g_ae : n0 ≤ ae := Nat.le_trans g_ar (Nat.le_of_lt l2)
    have g_as_ : n0 ≤ as_ := Nat.le_trans g_ae (Nat.le_of_lt l3)
    obtain ⟨cq154, kq154, q154a, q154b, q154c⟩ := isOf hZ rfl E_
    obtain ⟨_, _, ⟨T154, L154, k154, n154⟩, -, X154, ⟨Lc154, hQ154, l154, y154, z154⟩, st154⟩ := X153.virtualBack hx (y := (⟨"com/example/xml_element_search/xmlelementsearch/ElementScores", "add", "(JD)V"⟩ : MethodName)) (z := (⟨"com/example/xml_element_search/xmlelementsearch/ElementScores", "add", "(JD)V"⟩ : MethodName)) hown (mvT hZ (hw _ (List.mem_of_getElem? (i := 35) rfl))) (mvT hZ (hw _ (List.mem_of_getElem? (i := 36) rfl))) (notFace_of_selects (args := #[]) (mvT hZ (hw _ (List.mem_of_getElem? (i := 38) rfl)))) (mvT hZ (hw _ (List.mem_of_getElem? (i := 38) rfl))) (mvT hZ (hw _ (List.mem_of_getElem? (i := 37) rfl))) (by decide) (backOf (W := 0) (own_add0 l Z a0 hw [] b152 a FP.dconst1 ae as_ ar ke ks kr (fun _ => Value.long 0) (fun _ => Value.double 0) (fun _ => Value.int 0) T153.heap n0 (Nat.le_trans g_ar (Nat.le_of_lt V_r.lt)) g_b152 l1 l2 l3 g_ar g_ae g_as_ E_ F_e F_s F_n F_r F_u V_e V_s V_r) hZ (hw _ (List.mem_of_getElem? (i := 39) rfl)) (hw _ (List.mem_of_getElem? (i := 13) rfl)) (by decide) (by decide)) q154a q154c (g := (mkF m 199 #[.val (.long vx), .second, .val (.long vy), .second, .val (.long vz), .second, .val (.long vu), .second, .val (.long vw), .second, .val (.int sel), .val (.int (2 : Int32)), .val (.long a), .second, .val (.long d), .second, .val (.long b), .second, .val (.int ((XT.ushr sel (2 : Int32)) &&& (3 : Int32))), .val (.int ((((XT.ushr sel (4 : Int32)) &&& (3 : Int32)) % (3 : Int32)) - (1 : Int32))), .val (.int ((XT.ushr sel (6 : Int32)) &&& (3 : Int32))), .val (.int ((((XT.ushr sel (8 : Int32)) &&& (3 : Int32)) % (3 : Int32)) - (1 : Int32))), .val (.long r1), .second, .val (.long r2), .second, .val (.long q1), .second, .val (.long q2), .second, .val (.ref b152), .unset, .unset, .unset, .unset, .unset] [(.double FP.dconst1), (.long a), (.ref b152)])) rfl (by rw [hml]; rfl) (Steps.refl _) (argsL := [(.long a), (.double FP.dconst1)]) (rest := []) (lenOf pd_10 rfl) rfl (by show 2 * 0 + _ ≤ _; exact Nat.le_of_eq rfl) (hb hby at_199) (fun _ _ => ⟨rfl, rfl, (by decide : 4 + 0 ≤ _), (by decide : 22 + 0 ≤ _)⟩)
    dsimp only [Pt.U, Pt.locs, Pt.cells, Pt.slots] at X154 l154 y154 z154 st154 hQ154
    subst l154 y154 z154
    obtain ⟨rfl, N154q, E_0, F_e0, F_s0, F_n0, F_r0, F_u0, V_e0, V_s0, V_r0⟩ := hQ154
    have N154 := Fr.app N153 N154q
    obtain ⟨cq155, kq155, q155a, q155b, q155c⟩ := isOf hZ rfl E_0
    obtain ⟨_, _, ⟨T155, L155, k155, n155⟩, -, X155, ⟨Lc155, hQ155, l155, y155, z155⟩, st155⟩ := X154.virtualBack hx (y := (⟨"com/example/xml_element_search/xmlelementsearch/ElementScores", "add", "(JD)V"⟩ : MethodName)) (z := (⟨"com/example/xml_element_search/xmlelementsearch/ElementScores", "add", "(JD)V"⟩ : MethodName)) hown (mvT hZ (hw _ (List.mem_of_getElem? (i := 35) rfl))) (mvT hZ (hw _ (List.mem_of_getElem? (i := 36) rfl))) (notFace_of_selects (args := #[]) (mvT hZ (hw _ (List.mem_of_getElem? (i := 38) rfl)))) (mvT hZ (hw _ (List.mem_of_getElem? (i := 38) rfl))) (mvT hZ (hw _ (List.mem_of_getElem? (i := 37) rfl))) (by decide) (backOf (W := 0) (own_add1 l Z a0 hw [] b152 b (4611686018427387904 : UInt64) ae as_ ar ke ks kr (upd (fun _ => Value.long 0) 0 (.long a)) (upd (fun _ => Value.double 0) 0 (.double FP.dconst1)) (upd (fun _ => Value.int 0) 0 (.int (0 : Int32))) a T154.heap n0 (Nat.le_trans g_ar (Nat.le_of_lt V_r0.lt)) rfl (own_slt hab h_ab) g_b152 l1 l2 l3 g_ar g_ae g_as_ E_0 F_e0 F_s0 F_n0 F_r0 F_u0 V_e0 V_s0 V_r0) hZ (hw _ (List.mem_of_getElem? (i := 39) rfl)) (hw _ (List.mem_of_getElem? (i := 13) rfl)) (by decide) (by decide)) q155a q155c (g := (mkF m 215 #[.val (.long vx), .second, .val (.long vy), .second, .val (.long vz), .second, .val (.long vu), .second, .val (.long vw), .second, .val (.int sel), .val (.int (2 : Int32)), .val (.long a), .second, .val (.long d), .second, .val (.long b), .second, .val (.int ((XT.ushr sel (2 : Int32)) &&& (3 : Int32))), .val (.int ((((XT.ushr sel (4 : Int32)) &&& (3 : Int32)) % (3 : Int32)) - (1 : Int32))), .val (.int ((XT.ushr sel (6 : Int32)) &&& (3 : Int32))), .val (.int ((((XT.ushr sel (8 : Int32)) &&& (3 : Int32)) % (3 : Int32)) - (1 : Int32))), .val (.long r1), .second, .val (.long r2), .second, .val (.long q1), .second, .val (.long q2), .second, .val (.ref b152), .unset, .unset, .unset, .unset, .unset] [(.double (4611686018427387904 : UInt64)), (.long b), (.ref b152)])) rfl (by rw [hml]; rfl) (Steps.refl _) (argsL := [(.long b), (.double (4611686018427387904 : UInt64))]) (rest := []) (lenOf pd_10 rfl) rfl (by show 2 * 0 + _ ≤ _; exact Nat.le_of_eq rfl) (hb hby at_215) (fun _ _ => ⟨rfl, rfl, (by decide : 4 + 0 ≤ _), (by decide : 22 + 0 ≤ _)⟩)
    dsimp only [Pt.U, Pt.locs, Pt.cells, Pt.slots] at X155 l155 y155 z155 st155 hQ155
    subst l155 y155 z155
    obtain ⟨rfl, N155q, E_1, F_e1, F_s1, F_n1, F_r1, F_u1, V_e1, V_s1, V_r1⟩ := hQ155
    have N155 := Fr.app N154 N155q
    obtain ⟨T156, h156, L156, y31_156, y32_156, y33_156, y34_156, y35_156, X156, e156, N156, -, st156⟩ := own_tail hw X155 hx hZ hby hml hown rfl N155 (Nat.le_trans g_ar (Nat.le_of_lt V_r1.lt)) (.val (.long vx)) (.second) (.val (.long vy)) (.second) (.val (.long vz)) (.second) (.val (.long vu)) (.second) (.val (.long vw)) (.second) (.val (.int sel)) a d b (.val (.int ((XT.ushr sel (2 : Int32)) &&& (3 : Int32)))) (.val (.int ((((XT.ushr sel (4 : Int32)) &&& (3 : Int32)) % (3 : Int32)) - (1 : Int32)))) (.val (.int ((XT.ushr sel (6 : Int32)) &&& (3 : Int32)))) (.val (.int ((((XT.ushr sel (8 : Int32)) &&& (3 : Int32)) % (3 : Int32)) - (1 : Int32)))) (.val (.long r1)) (.second) (.val (.long r2)) (.second) q1 q2 b152 ae as_ ke ks (upd (upd (fun _ => Value.long 0) 0 (.long a)) 1 (.long b)) (upd (upd (fun _ => Value.double 0) 0 (.double FP.dconst1)) 1 (.double (4611686018427387904 : UInt64))) (2 : Nat) (by decide) (own_asc2 (own_slt hab h_ab)) hqq (fun j hj => match j, hj with | 0, _ => rfl | 1, _ => rfl | n + 2, h => absurd h (by omega)) (fun j hj => match j, hj with | 0, _ => rfl | 1, _ => rfl | n + 2, h => absurd h (by omega)) E_1 F_n1 F_e1 F_s1 V_e1 V_s1
    obtain ⟨fs, hr, hrun, hended, hW, hsame⟩ := X156.leave (v := some (.int (1 : Int32))) (fun h => by rw [Bd.returns] at h; cases h)
    refine ⟨_, _, pre0 _ ?_, hrun, hended, _, _, rfl, ?_, ⟨_, rfl⟩, hW, hsame.mono (by decide) (by decide)⟩
    · show Steps p.tables e below (s₁.setTop (mkF m 0 #[.val (.long vx), .second, .val (.long vy), .second, .val (.long vz), .second, .val (.long vu), .second, .val (.long vw), .second, .val (.int sel), .unset, .unset, .unset, .unset, .unset, .unset, .unset, .unset, .unset, .unset, .unset, .unset, .unset, .unset, .unset, .unset, .unset, .unset, .unset, .unset, .unset, .unset, .unset, .unset, .unset] [])) _
      refine XS.iload X0.here hx rfl (hb hby at_0) rfl ?_
      show Steps p.tables e below (s₁.setTop (mkF m 2 #[.val (.long vx), .second, .val (.long vy), .second, .val (.long vz), .second, .val (.long vu), .second, .val (.long vw), .second, .val (.int sel), .unset, .unset, .unset, .unset, .unset, .unset, .unset, .unset, .unset, .unset, .unset, .unset, .unset, .unset, .unset, .unset, .unset, .unset, .unset, .unset, .unset, .unset, .unset, .unset, .unset] [(.int sel)])) _
      refine XS.iconst X0.here hx rfl (hb hby at_2) ?_
      show Steps p.tables e below (s₁.setTop (mkF m 3 #[.val (.long vx), .second, .val (.long vy), .second, .val (.long vz), .second, .val (.long vu), .second, .val (.long vw), .second, .val (.int sel), .unset, .unset, .unset, .unset, .unset, .unset, .unset, .unset, .unset, .unset, .unset, .unset, .unset, .unset, .unset, .unset, .unset, .unset, .unset, .unset, .unset, .unset, .unset, .unset, .unset] [(.int (3 : Int32)), (.int sel)])) _
      refine XS.iand X0.here hx rfl (hb hby at_3) rfl ?_
      show Steps p.tables e below (s₁.setTop (mkF m 4 #[.val (.long vx), .second, .val (.long vy), .second, .val (.long vz), .second, .val (.long vu), .second, .val (.long vw), .second, .val (.int sel), .unset, .unset, .unset, .unset, .unset, .unset, .unset, .unset, .unset, .unset, .unset, .unset, .unset, .unset, .unset, .unset, .unset, .unset, .unset, .unset, .unset, .unset, .unset, .unset, .unset] [(.int (sel &&& (3 : Int32)))])) _
      rw [hn_]
      show Steps p.tables e below (s₁.setTop (mkF m 4 #[.val (.long vx), .second, .val (.long vy), .second, .val (.long vz), .second, .val (.long vu), .second, .val (.long vw), .second, .val (.int sel), .unset, .unset, .unset, .unset, .unset, .unset, .unset, .unset, .unset, .unset, .unset, .unset, .unset, .unset, .unset, .unset, .unset, .unset, .unset, .unset, .unset, .unset, .unset, .unset, .unset] [(.int (2 : Int32))])) _
      refine XS.istore X0.here hx rfl (hb hby at_4) rfl (l' := #[.val (.long vx), .second, .val (.long vy), .second, .val (.long vz), .second, .val (.long vu), .second, .val (.long vw), .second, .val (.int sel), .val (.int (2 : Int32)), .unset, .unset, .unset, .unset, .unset, .unset, .unset, .unset, .unset, .unset, .unset, .unset, .unset, .unset, .unset, .unset, .unset, .unset, .unset, .unset, .unset, .unset, .unset, .unset]) rfl ?_
      show Steps p.tables e below (s₁.setTop (mkF m 6 #[.val (.long vx), .second, .val (.long vy), .second, .val (.long vz), .second, .val (.long vu), .second, .val (.long vw), .second, .val (.int sel), .val (.int (2 : Int32)), .unset, .unset, .unset, .unset, .unset, .unset, .unset, .unset, .unset, .unset, .unset, .unset, .unset, .unset, .unset, .unset, .unset, .unset, .unset, .unset, .unset, .unset, .unset, .unset] [])) _
      refine st149 _ ?_
      show Steps p.tables e below (T149.setTop (mkF m 50 #[.val (.long vx), .second, .val (.long vy), .second, .val (.long vz), .second, .val (.long vu), .second, .val (.long vw), .second, .val (.int sel), .val (.int (2 : Int32)), .val (.long a), .second, .val (.long d), .second, .val (.long b), .second, .unset, .unset, .unset, .unset, .unset, .unset, .unset, .unset, .unset, .unset, .unset, .unset, .unset, .unset, .unset, .unset, .unset, .unset] [])) _
      refine XS.iload X149.here hx rfl (hb hby at_50) rfl ?_
      show Steps p.tables e below (T149.setTop (mkF m 52 #[.val (.long vx), .second, .val (.long vy), .second, .val (.long vz), .second, .val (.long vu), .second, .val (.long vw), .second, .val (.int sel), .val (.int (2 : Int32)), .val (.long a), .second, .val (.long d), .second, .val (.long b), .second, .unset, .unset, .unset, .unset, .unset, .unset, .unset, .unset, .unset, .unset, .unset, .unset, .unset, .unset, .unset, .unset, .unset, .unset] [(.int (2 : Int32))])) _
      refine XS.iconst X149.here hx rfl (hb hby at_52) ?_
      show Steps p.tables e below (T149.setTop (mkF m 53 #[.val (.long vx), .second, .val (.long vy), .second, .val (.long vz), .second, .val (.long vu), .second, .val (.long vw), .second, .val (.int sel), .val (.int (2 : Int32)), .val (.long a), .second, .val (.long d), .second, .val (.long b), .second, .unset, .unset, .unset, .unset, .unset, .unset, .unset, .unset, .unset, .unset, .unset, .unset, .unset, .unset, .unset, .unset, .unset, .unset] [(.int (2 : Int32)), (.int (2 : Int32))])) _
      refine XS.icmpNo X149.here hx rfl (hb hby at_53) rfl (XT.ii_lt_f (by decide)) ?_
      show Steps p.tables e below (T149.setTop (mkF m 56 #[.val (.long vx), .second, .val (.long vy), .second, .val (.long vz), .second, .val (.long vu), .second, .val (.long vw), .second, .val (.int sel), .val (.int (2 : Int32)), .val (.long a), .second, .val (.long d), .second, .val (.long b), .second, .unset, .unset, .unset, .unset, .unset, .unset, .unset, .unset, .unset, .unset, .unset, .unset, .unset, .unset, .unset, .unset, .unset, .unset] [])) _
      refine XT.lload X149.here hx rfl (hb hby at_56) rfl ?_
      show Steps p.tables e below (T149.setTop (mkF m 58 #[.val (.long vx), .second, .val (.long vy), .second, .val (.long vz), .second, .val (.long vu), .second, .val (.long vw), .second, .val (.int sel), .val (.int (2 : Int32)), .val (.long a), .second, .val (.long d), .second, .val (.long b), .second, .unset, .unset, .unset, .unset, .unset, .unset, .unset, .unset, .unset, .unset, .unset, .unset, .unset, .unset, .unset, .unset, .unset, .unset] [(.long a)])) _
      refine XT.lload X149.here hx rfl (hb hby at_58) rfl ?_
      show Steps p.tables e below (T149.setTop (mkF m 60 #[.val (.long vx), .second, .val (.long vy), .second, .val (.long vz), .second, .val (.long vu), .second, .val (.long vw), .second, .val (.int sel), .val (.int (2 : Int32)), .val (.long a), .second, .val (.long d), .second, .val (.long b), .second, .unset, .unset, .unset, .unset, .unset, .unset, .unset, .unset, .unset, .unset, .unset, .unset, .unset, .unset, .unset, .unset, .unset, .unset] [(.long b), (.long a)])) _
      refine XT.lcmp X149.here hx rfl (hb hby at_60) rfl ?_
      show Steps p.tables e below (T149.setTop (mkF m 61 #[.val (.long vx), .second, .val (.long vy), .second, .val (.long vz), .second, .val (.long vu), .second, .val (.long vw), .second, .val (.int sel), .val (.int (2 : Int32)), .val (.long a), .second, .val (.long d), .second, .val (.long b), .second, .unset, .unset, .unset, .unset, .unset, .unset, .unset, .unset, .unset, .unset, .unset, .unset, .unset, .unset, .unset, .unset, .unset, .unset] [(.int (XT.cmpL a b))])) _
      refine XS.ifYes X149.here hx rfl (pc0 := 61) (pc' := 66) rfl (hb hby at_61) rfl (XT.ll_ne_t hab) (by decide) (by decide) ?_
      show Steps p.tables e below (T149.setTop (mkF m 66 #[.val (.long vx), .second, .val (.long vy), .second, .val (.long vz), .second, .val (.long vu), .second, .val (.long vw), .second, .val (.int sel), .val (.int (2 : Int32)), .val (.long a), .second, .val (.long d), .second, .val (.long b), .second, .unset, .unset, .unset, .unset, .unset, .unset, .unset, .unset, .unset, .unset, .unset, .unset, .unset, .unset, .unset, .unset, .unset, .unset] [])) _
      refine XS.iload X149.here hx rfl (hb hby at_66) rfl ?_
      show Steps p.tables e below (T149.setTop (mkF m 68 #[.val (.long vx), .second, .val (.long vy), .second, .val (.long vz), .second, .val (.long vu), .second, .val (.long vw), .second, .val (.int sel), .val (.int (2 : Int32)), .val (.long a), .second, .val (.long d), .second, .val (.long b), .second, .unset, .unset, .unset, .unset, .unset, .unset, .unset, .unset, .unset, .unset, .unset, .unset, .unset, .unset, .unset, .unset, .unset, .unset] [(.int (2 : Int32))])) _
      refine XS.iconst X149.here hx rfl (hb hby at_68) ?_
      show Steps p.tables e below (T149.setTop (mkF m 69 #[.val (.long vx), .second, .val (.long vy), .second, .val (.long vz), .second, .val (.long vu), .second, .val (.long vw), .second, .val (.int sel), .val (.int (2 : Int32)), .val (.long a), .second, .val (.long d), .second, .val (.long b), .second, .unset, .unset, .unset, .unset, .unset, .unset, .unset, .unset, .unset, .unset, .unset, .unset, .unset, .unset, .unset, .unset, .unset, .unset] [(.int (3 : Int32)), (.int (2 : Int32))])) _
      refine XS.icmpYes X149.here hx rfl (pc0 := 69) (pc' := 82) rfl (hb hby at_69) rfl (XT.ii_lt_t (by decide)) (by decide) (by decide) ?_
      show Steps p.tables e below (T149.setTop (mkF m 82 #[.val (.long vx), .second, .val (.long vy), .second, .val (.long vz), .second, .val (.long vu), .second, .val (.long vw), .second, .val (.int sel), .val (.int (2 : Int32)), .val (.long a), .second, .val (.long d), .second, .val (.long b), .second, .unset, .unset, .unset, .unset, .unset, .unset, .unset, .unset, .unset, .unset, .unset, .unset, .unset, .unset, .unset, .unset, .unset, .unset] [])) _
      refine st151 _ ?_
      show Steps p.tables e below (T151.setTop (mkF m 180 #[.val (.long vx), .second, .val (.long vy), .second, .val (.long vz), .second, .val (.long vu), .second, .val (.long vw), .second, .val (.int sel), .val (.int (2 : Int32)), .val (.long a), .second, .val (.long d), .second, .val (.long b), .second, .val (.int ((XT.ushr sel (2 : Int32)) &&& (3 : Int32))), .val (.int ((((XT.ushr sel (4 : Int32)) &&& (3 : Int32)) % (3 : Int32)) - (1 : Int32))), .val (.int ((XT.ushr sel (6 : Int32)) &&& (3 : Int32))), .val (.int ((((XT.ushr sel (8 : Int32)) &&& (3 : Int32)) % (3 : Int32)) - (1 : Int32))), .val (.long r1), .second, .val (.long r2), .second, .val (.long q1), .second, .val (.long q2), .second, .unset, .unset, .unset, .unset, .unset, .unset] [])) _
      refine st152 _ ?_
      show Steps p.tables e below (T152.setTop (mkF m 183 #[.val (.long vx), .second, .val (.long vy), .second, .val (.long vz), .second, .val (.long vu), .second, .val (.long vw), .second, .val (.int sel), .val (.int (2 : Int32)), .val (.long a), .second, .val (.long d), .second, .val (.long b), .second, .val (.int ((XT.ushr sel (2 : Int32)) &&& (3 : Int32))), .val (.int ((((XT.ushr sel (4 : Int32)) &&& (3 : Int32)) % (3 : Int32)) - (1 : Int32))), .val (.int ((XT.ushr sel (6 : Int32)) &&& (3 : Int32))), .val (.int ((((XT.ushr sel (8 : Int32)) &&& (3 : Int32)) % (3 : Int32)) - (1 : Int32))), .val (.long r1), .second, .val (.long r2), .second, .val (.long q1), .second, .val (.long q2), .second, .unset, .unset, .unset, .unset, .unset, .unset] [(.ref b152)])) _
      refine XS.dup X152.here hx rfl (hb hby at_183) rfl rfl ?_
      show Steps p.tables e below (T152.setTop (mkF m 184 #[.val (.long vx), .second, .val (.long vy), .second, .val (.long vz), .second, .val (.long vu), .second, .val (.long vw), .second, .val (.int sel), .val (.int (2 : Int32)), .val (.long a), .second, .val (.long d), .second, .val (.long b), .second, .val (.int ((XT.ushr sel (2 : Int32)) &&& (3 : Int32))), .val (.int ((((XT.ushr sel (4 : Int32)) &&& (3 : Int32)) % (3 : Int32)) - (1 : Int32))), .val (.int ((XT.ushr sel (6 : Int32)) &&& (3 : Int32))), .val (.int ((((XT.ushr sel (8 : Int32)) &&& (3 : Int32)) % (3 : Int32)) - (1 : Int32))), .val (.long r1), .second, .val (.long r2), .second, .val (.long q1), .second, .val (.long q2), .second, .unset, .unset, .unset, .unset, .unset, .unset] [(.ref b152), (.ref b152)])) _
      refine st153.trans ?_
      show Steps p.tables e below (T153.setTop (mkF m 187 #[.val (.long vx), .second, .val (.long vy), .second, .val (.long vz), .second, .val (.long vu), .second, .val (.long vw), .second, .val (.int sel), .val (.int (2 : Int32)), .val (.long a), .second, .val (.long d), .second, .val (.long b), .second, .val (.int ((XT.ushr sel (2 : Int32)) &&& (3 : Int32))), .val (.int ((((XT.ushr sel (4 : Int32)) &&& (3 : Int32)) % (3 : Int32)) - (1 : Int32))), .val (.int ((XT.ushr sel (6 : Int32)) &&& (3 : Int32))), .val (.int ((((XT.ushr sel (8 : Int32)) &&& (3 : Int32)) % (3 : Int32)) - (1 : Int32))), .val (.long r1), .second, .val (.long r2), .second, .val (.long q1), .second, .val (.long q2), .second, .unset, .unset, .unset, .unset, .unset, .unset] [(.ref b152)])) _
      refine XS.astore X153.here hx rfl (hb hby at_187) rfl rfl (l' := #[.val (.long vx), .second, .val (.long vy), .second, .val (.long vz), .second, .val (.long vu), .second, .val (.long vw), .second, .val (.int sel), .val (.int (2 : Int32)), .val (.long a), .second, .val (.long d), .second, .val (.long b), .second, .val (.int ((XT.ushr sel (2 : Int32)) &&& (3 : Int32))), .val (.int ((((XT.ushr sel (4 : Int32)) &&& (3 : Int32)) % (3 : Int32)) - (1 : Int32))), .val (.int ((XT.ushr sel (6 : Int32)) &&& (3 : Int32))), .val (.int ((((XT.ushr sel (8 : Int32)) &&& (3 : Int32)) % (3 : Int32)) - (1 : Int32))), .val (.long r1), .second, .val (.long r2), .second, .val (.long q1), .second, .val (.long q2), .second, .val (.ref b152), .unset, .unset, .unset, .unset, .unset]) rfl ?_
      show Steps p.tables e below (T153.setTop (mkF m 189 #[.val (.long vx), .second, .val (.long vy), .second, .val (.long vz), .second, .val (.long vu), .second, .val (.long vw), .second, .val (.int sel), .val (.int (2 : Int32)), .val (.long a), .second, .val (.long d), .second, .val (.long b), .second, .val (.int ((XT.ushr sel (2 : Int32)) &&& (3 : Int32))), .val (.int ((((XT.ushr sel (4 : Int32)) &&& (3 : Int32)) % (3 : Int32)) - (1 : Int32))), .val (.int ((XT.ushr sel (6 : Int32)) &&& (3 : Int32))), .val (.int ((((XT.ushr sel (8 : Int32)) &&& (3 : Int32)) % (3 : Int32)) - (1 : Int32))), .val (.long r1), .second, .val (.long r2), .second, .val (.long q1), .second, .val (.long q2), .second, .val (.ref b152), .unset, .unset, .unset, .unset, .unset] [])) _
      refine XS.iload X153.here hx rfl (hb hby at_189) rfl ?_
      show Steps p.tables e below (T153.setTop (mkF m 191 #[.val (.long vx), .second, .val (.long vy), .second, .val (.long vz), .second, .val (.long vu), .second, .val (.long vw), .second, .val (.int sel), .val (.int (2 : Int32)), .val (.long a), .second, .val (.long d), .second, .val (.long b), .second, .val (.int ((XT.ushr sel (2 : Int32)) &&& (3 : Int32))), .val (.int ((((XT.ushr sel (4 : Int32)) &&& (3 : Int32)) % (3 : Int32)) - (1 : Int32))), .val (.int ((XT.ushr sel (6 : Int32)) &&& (3 : Int32))), .val (.int ((((XT.ushr sel (8 : Int32)) &&& (3 : Int32)) % (3 : Int32)) - (1 : Int32))), .val (.long r1), .second, .val (.long r2), .second, .val (.long q1), .second, .val (.long q2), .second, .val (.ref b152), .unset, .unset, .unset, .unset, .unset] [(.int (2 : Int32))])) _
      refine XS.ifNo X153.here hx rfl (hb hby at_191) rfl (XT.i0_le_f (by decide)) ?_
      show Steps p.tables e below (T153.setTop (mkF m 194 #[.val (.long vx), .second, .val (.long vy), .second, .val (.long vz), .second, .val (.long vu), .second, .val (.long vw), .second, .val (.int sel), .val (.int (2 : Int32)), .val (.long a), .second, .val (.long d), .second, .val (.long b), .second, .val (.int ((XT.ushr sel (2 : Int32)) &&& (3 : Int32))), .val (.int ((((XT.ushr sel (4 : Int32)) &&& (3 : Int32)) % (3 : Int32)) - (1 : Int32))), .val (.int ((XT.ushr sel (6 : Int32)) &&& (3 : Int32))), .val (.int ((((XT.ushr sel (8 : Int32)) &&& (3 : Int32)) % (3 : Int32)) - (1 : Int32))), .val (.long r1), .second, .val (.long r2), .second, .val (.long q1), .second, .val (.long q2), .second, .val (.ref b152), .unset, .unset, .unset, .unset, .unset] [])) _
      refine XS.aload X153.here hx rfl (hb hby at_194) rfl rfl ?_
      show Steps p.tables e below (T153.setTop (mkF m 196 #[.val (.long vx), .second, .val (.long vy), .second, .val (.long vz), .second, .val (.long vu), .second, .val (.long vw), .second, .val (.int sel), .val (.int (2 : Int32)), .val (.long a), .second, .val (.long d), .second, .val (.long b), .second, .val (.int ((XT.ushr sel (2 : Int32)) &&& (3 : Int32))), .val (.int ((((XT.ushr sel (4 : Int32)) &&& (3 : Int32)) % (3 : Int32)) - (1 : Int32))), .val (.int ((XT.ushr sel (6 : Int32)) &&& (3 : Int32))), .val (.int ((((XT.ushr sel (8 : Int32)) &&& (3 : Int32)) % (3 : Int32)) - (1 : Int32))), .val (.long r1), .second, .val (.long r2), .second, .val (.long q1), .second, .val (.long q2), .second, .val (.ref b152), .unset, .unset, .unset, .unset, .unset] [(.ref b152)])) _
      refine XT.lload X153.here hx rfl (hb hby at_196) rfl ?_
      show Steps p.tables e below (T153.setTop (mkF m 198 #[.val (.long vx), .second, .val (.long vy), .second, .val (.long vz), .second, .val (.long vu), .second, .val (.long vw), .second, .val (.int sel), .val (.int (2 : Int32)), .val (.long a), .second, .val (.long d), .second, .val (.long b), .second, .val (.int ((XT.ushr sel (2 : Int32)) &&& (3 : Int32))), .val (.int ((((XT.ushr sel (4 : Int32)) &&& (3 : Int32)) % (3 : Int32)) - (1 : Int32))), .val (.int ((XT.ushr sel (6 : Int32)) &&& (3 : Int32))), .val (.int ((((XT.ushr sel (8 : Int32)) &&& (3 : Int32)) % (3 : Int32)) - (1 : Int32))), .val (.long r1), .second, .val (.long r2), .second, .val (.long q1), .second, .val (.long q2), .second, .val (.ref b152), .unset, .unset, .unset, .unset, .unset] [(.long a), (.ref b152)])) _
      refine own_dconst1 X153.here hx rfl (hb hby at_198) ?_
      show Steps p.tables e below (T153.setTop (mkF m 199 #[.val (.long vx), .second, .val (.long vy), .second, .val (.long vz), .second, .val (.long vu), .second, .val (.long vw), .second, .val (.int sel), .val (.int (2 : Int32)), .val (.long a), .second, .val (.long d), .second, .val (.long b), .second, .val (.int ((XT.ushr sel (2 : Int32)) &&& (3 : Int32))), .val (.int ((((XT.ushr sel (4 : Int32)) &&& (3 : Int32)) % (3 : Int32)) - (1 : Int32))), .val (.int ((XT.ushr sel (6 : Int32)) &&& (3 : Int32))), .val (.int ((((XT.ushr sel (8 : Int32)) &&& (3 : Int32)) % (3 : Int32)) - (1 : Int32))), .val (.long r1), .second, .val (.long r2), .second, .val (.long q1), .second, .val (.long q2), .second, .val (.ref b152), .unset, .unset, .unset, .unset, .unset] [(.double FP.dconst1), (.long a), (.ref b152)])) _
      refine st154.trans ?_
      show Steps p.tables e below (T154.setTop (mkF m 202 #[.val (.long vx), .second, .val (.long vy), .second, .val (.long vz), .second, .val (.long vu), .second, .val (.long vw), .second, .val (.int sel), .val (.int (2 : Int32)), .val (.long a), .second, .val (.long d), .second, .val (.long b), .second, .val (.int ((XT.ushr sel (2 : Int32)) &&& (3 : Int32))), .val (.int ((((XT.ushr sel (4 : Int32)) &&& (3 : Int32)) % (3 : Int32)) - (1 : Int32))), .val (.int ((XT.ushr sel (6 : Int32)) &&& (3 : Int32))), .val (.int ((((XT.ushr sel (8 : Int32)) &&& (3 : Int32)) % (3 : Int32)) - (1 : Int32))), .val (.long r1), .second, .val (.long r2), .second, .val (.long q1), .second, .val (.long q2), .second, .val (.ref b152), .unset, .unset, .unset, .unset, .unset] [])) _
      refine XS.iload X154.here hx rfl (hb hby at_202) rfl ?_
      show Steps p.tables e below (T154.setTop (mkF m 204 #[.val (.long vx), .second, .val (.long vy), .second, .val (.long vz), .second, .val (.long vu), .second, .val (.long vw), .second, .val (.int sel), .val (.int (2 : Int32)), .val (.long a), .second, .val (.long d), .second, .val (.long b), .second, .val (.int ((XT.ushr sel (2 : Int32)) &&& (3 : Int32))), .val (.int ((((XT.ushr sel (4 : Int32)) &&& (3 : Int32)) % (3 : Int32)) - (1 : Int32))), .val (.int ((XT.ushr sel (6 : Int32)) &&& (3 : Int32))), .val (.int ((((XT.ushr sel (8 : Int32)) &&& (3 : Int32)) % (3 : Int32)) - (1 : Int32))), .val (.long r1), .second, .val (.long r2), .second, .val (.long q1), .second, .val (.long q2), .second, .val (.ref b152), .unset, .unset, .unset, .unset, .unset] [(.int (2 : Int32))])) _
      refine XS.iconst X154.here hx rfl (hb hby at_204) ?_
      show Steps p.tables e below (T154.setTop (mkF m 205 #[.val (.long vx), .second, .val (.long vy), .second, .val (.long vz), .second, .val (.long vu), .second, .val (.long vw), .second, .val (.int sel), .val (.int (2 : Int32)), .val (.long a), .second, .val (.long d), .second, .val (.long b), .second, .val (.int ((XT.ushr sel (2 : Int32)) &&& (3 : Int32))), .val (.int ((((XT.ushr sel (4 : Int32)) &&& (3 : Int32)) % (3 : Int32)) - (1 : Int32))), .val (.int ((XT.ushr sel (6 : Int32)) &&& (3 : Int32))), .val (.int ((((XT.ushr sel (8 : Int32)) &&& (3 : Int32)) % (3 : Int32)) - (1 : Int32))), .val (.long r1), .second, .val (.long r2), .second, .val (.long q1), .second, .val (.long q2), .second, .val (.ref b152), .unset, .unset, .unset, .unset, .unset] [(.int (1 : Int32)), (.int (2 : Int32))])) _
      refine XS.icmpNo X154.here hx rfl (hb hby at_205) rfl (XT.ii_le_f (by decide)) ?_
      show Steps p.tables e below (T154.setTop (mkF m 208 #[.val (.long vx), .second, .val (.long vy), .second, .val (.long vz), .second, .val (.long vu), .second, .val (.long vw), .second, .val (.int sel), .val (.int (2 : Int32)), .val (.long a), .second, .val (.long d), .second, .val (.long b), .second, .val (.int ((XT.ushr sel (2 : Int32)) &&& (3 : Int32))), .val (.int ((((XT.ushr sel (4 : Int32)) &&& (3 : Int32)) % (3 : Int32)) - (1 : Int32))), .val (.int ((XT.ushr sel (6 : Int32)) &&& (3 : Int32))), .val (.int ((((XT.ushr sel (8 : Int32)) &&& (3 : Int32)) % (3 : Int32)) - (1 : Int32))), .val (.long r1), .second, .val (.long r2), .second, .val (.long q1), .second, .val (.long q2), .second, .val (.ref b152), .unset, .unset, .unset, .unset, .unset] [])) _
      refine XS.aload X154.here hx rfl (hb hby at_208) rfl rfl ?_
      show Steps p.tables e below (T154.setTop (mkF m 210 #[.val (.long vx), .second, .val (.long vy), .second, .val (.long vz), .second, .val (.long vu), .second, .val (.long vw), .second, .val (.int sel), .val (.int (2 : Int32)), .val (.long a), .second, .val (.long d), .second, .val (.long b), .second, .val (.int ((XT.ushr sel (2 : Int32)) &&& (3 : Int32))), .val (.int ((((XT.ushr sel (4 : Int32)) &&& (3 : Int32)) % (3 : Int32)) - (1 : Int32))), .val (.int ((XT.ushr sel (6 : Int32)) &&& (3 : Int32))), .val (.int ((((XT.ushr sel (8 : Int32)) &&& (3 : Int32)) % (3 : Int32)) - (1 : Int32))), .val (.long r1), .second, .val (.long r2), .second, .val (.long q1), .second, .val (.long q2), .second, .val (.ref b152), .unset, .unset, .unset, .unset, .unset] [(.ref b152)])) _
      refine XT.lload X154.here hx rfl (hb hby at_210) rfl ?_
      show Steps p.tables e below (T154.setTop (mkF m 212 #[.val (.long vx), .second, .val (.long vy), .second, .val (.long vz), .second, .val (.long vu), .second, .val (.long vw), .second, .val (.int sel), .val (.int (2 : Int32)), .val (.long a), .second, .val (.long d), .second, .val (.long b), .second, .val (.int ((XT.ushr sel (2 : Int32)) &&& (3 : Int32))), .val (.int ((((XT.ushr sel (4 : Int32)) &&& (3 : Int32)) % (3 : Int32)) - (1 : Int32))), .val (.int ((XT.ushr sel (6 : Int32)) &&& (3 : Int32))), .val (.int ((((XT.ushr sel (8 : Int32)) &&& (3 : Int32)) % (3 : Int32)) - (1 : Int32))), .val (.long r1), .second, .val (.long r2), .second, .val (.long q1), .second, .val (.long q2), .second, .val (.ref b152), .unset, .unset, .unset, .unset, .unset] [(.long b), (.ref b152)])) _
      refine Jvm.Stand.ldc2DoubleC X154 hx hown (mvT hZ (hw _ (List.mem_of_getElem? (i := 44) rfl))) (g := (mkF m 212 #[.val (.long vx), .second, .val (.long vy), .second, .val (.long vz), .second, .val (.long vu), .second, .val (.long vw), .second, .val (.int sel), .val (.int (2 : Int32)), .val (.long a), .second, .val (.long d), .second, .val (.long b), .second, .val (.int ((XT.ushr sel (2 : Int32)) &&& (3 : Int32))), .val (.int ((((XT.ushr sel (4 : Int32)) &&& (3 : Int32)) % (3 : Int32)) - (1 : Int32))), .val (.int ((XT.ushr sel (6 : Int32)) &&& (3 : Int32))), .val (.int ((((XT.ushr sel (8 : Int32)) &&& (3 : Int32)) % (3 : Int32)) - (1 : Int32))), .val (.long r1), .second, .val (.long r2), .second, .val (.long q1), .second, .val (.long q2), .second, .val (.ref b152), .unset, .unset, .unset, .unset, .unset] [(.long b), (.ref b152)])) rfl (hb hby at_212) _ ?_
      show Steps p.tables e below (T154.setTop (mkF m 215 #[.val (.long vx), .second, .val (.long vy), .second, .val (.long vz), .second, .val (.long vu), .second, .val (.long vw), .second, .val (.int sel), .val (.int (2 : Int32)), .val (.long a), .second, .val (.long d), .second, .val (.long b), .second, .val (.int ((XT.ushr sel (2 : Int32)) &&& (3 : Int32))), .val (.int ((((XT.ushr sel (4 : Int32)) &&& (3 : Int32)) % (3 : Int32)) - (1 : Int32))), .val (.int ((XT.ushr sel (6 : Int32)) &&& (3 : Int32))), .val (.int ((((XT.ushr sel (8 : Int32)) &&& (3 : Int32)) % (3 : Int32)) - (1 : Int32))), .val (.long r1), .second, .val (.long r2), .second, .val (.long q1), .second, .val (.long q2), .second, .val (.ref b152), .unset, .unset, .unset, .unset, .unset] [(.double (4611686018427387904 : UInt64)), (.long b), (.ref b152)])) _
      refine st155.trans ?_
      show Steps p.tables e below (T155.setTop (mkF m 218 #[.val (.long vx), .second, .val (.long vy), .second, .val (.long vz), .second, .val (.long vu), .second, .val (.long vw), .second, .val (.int sel), .val (.int (2 : Int32)), .val (.long a), .second, .val (.long d), .second, .val (.long b), .second, .val (.int ((XT.ushr sel (2 : Int32)) &&& (3 : Int32))), .val (.int ((((XT.ushr sel (4 : Int32)) &&& (3 : Int32)) % (3 : Int32)) - (1 : Int32))), .val (.int ((XT.ushr sel (6 : Int32)) &&& (3 : Int32))), .val (.int ((((XT.ushr sel (8 : Int32)) &&& (3 : Int32)) % (3 : Int32)) - (1 : Int32))), .val (.long r1), .second, .val (.long r2), .second, .val (.long q1), .second, .val (.long q2), .second, .val (.ref b152), .unset, .unset, .unset, .unset, .unset] [])) _
      refine XS.iload X155.here hx rfl (hb hby at_218) rfl ?_
      show Steps p.tables e below (T155.setTop (mkF m 220 #[.val (.long vx), .second, .val (.long vy), .second, .val (.long vz), .second, .val (.long vu), .second, .val (.long vw), .second, .val (.int sel), .val (.int (2 : Int32)), .val (.long a), .second, .val (.long d), .second, .val (.long b), .second, .val (.int ((XT.ushr sel (2 : Int32)) &&& (3 : Int32))), .val (.int ((((XT.ushr sel (4 : Int32)) &&& (3 : Int32)) % (3 : Int32)) - (1 : Int32))), .val (.int ((XT.ushr sel (6 : Int32)) &&& (3 : Int32))), .val (.int ((((XT.ushr sel (8 : Int32)) &&& (3 : Int32)) % (3 : Int32)) - (1 : Int32))), .val (.long r1), .second, .val (.long r2), .second, .val (.long q1), .second, .val (.long q2), .second, .val (.ref b152), .unset, .unset, .unset, .unset, .unset] [(.int (2 : Int32))])) _
      refine XS.iconst X155.here hx rfl (hb hby at_220) ?_
      show Steps p.tables e below (T155.setTop (mkF m 221 #[.val (.long vx), .second, .val (.long vy), .second, .val (.long vz), .second, .val (.long vu), .second, .val (.long vw), .second, .val (.int sel), .val (.int (2 : Int32)), .val (.long a), .second, .val (.long d), .second, .val (.long b), .second, .val (.int ((XT.ushr sel (2 : Int32)) &&& (3 : Int32))), .val (.int ((((XT.ushr sel (4 : Int32)) &&& (3 : Int32)) % (3 : Int32)) - (1 : Int32))), .val (.int ((XT.ushr sel (6 : Int32)) &&& (3 : Int32))), .val (.int ((((XT.ushr sel (8 : Int32)) &&& (3 : Int32)) % (3 : Int32)) - (1 : Int32))), .val (.long r1), .second, .val (.long r2), .second, .val (.long q1), .second, .val (.long q2), .second, .val (.ref b152), .unset, .unset, .unset, .unset, .unset] [(.int (2 : Int32)), (.int (2 : Int32))])) _
      refine XS.icmpYes X155.here hx rfl (pc0 := 221) (pc' := 234) rfl (hb hby at_221) rfl (XT.ii_le_t (by decide)) (by decide) (by decide) ?_
      show Steps p.tables e below (T155.setTop (mkF m 234 #[.val (.long vx), .second, .val (.long vy), .second, .val (.long vz), .second, .val (.long vu), .second, .val (.long vw), .second, .val (.int sel), .val (.int (2 : Int32)), .val (.long a), .second, .val (.long d), .second, .val (.long b), .second, .val (.int ((XT.ushr sel (2 : Int32)) &&& (3 : Int32))), .val (.int ((((XT.ushr sel (4 : Int32)) &&& (3 : Int32)) % (3 : Int32)) - (1 : Int32))), .val (.int ((XT.ushr sel (6 : Int32)) &&& (3 : Int32))), .val (.int ((((XT.ushr sel (8 : Int32)) &&& (3 : Int32)) % (3 : Int32)) - (1 : Int32))), .val (.long r1), .second, .val (.long r2), .second, .val (.long q1), .second, .val (.long q2), .second, .val (.ref b152), .unset, .unset, .unset, .unset, .unset] [])) _
      refine st156 _ ?_
      show Steps p.tables e below (T156.setTop (mkF m 374 #[.val (.long vx), .second, .val (.long vy), .second, .val (.long vz), .second, .val (.long vu), .second, .val (.long vw), .second, .val (.int sel), .val (.int (2 : Nat).toInt32), .val (.long a), .second, .val (.long d), .second, .val (.long b), .second, .val (.int ((XT.ushr sel (2 : Int32)) &&& (3 : Int32))), .val (.int ((((XT.ushr sel (4 : Int32)) &&& (3 : Int32)) % (3 : Int32)) - (1 : Int32))), .val (.int ((XT.ushr sel (6 : Int32)) &&& (3 : Int32))), .val (.int ((((XT.ushr sel (8 : Int32)) &&& (3 : Int32)) % (3 : Int32)) - (1 : Int32))), .val (.long r1), .second, .val (.long r2), .second, .val (.long q1), .second, .val (.long q2), .second, .val (.ref b152), y31_156, y32_156, y33_156, y34_156, y35_156] [])) _
      refine XS.iconst X156.here hx rfl (hb hby at_374) ?_
      show Steps p.tables e below (T156.setTop (mkF m 375 #[.val (.long vx), .second, .val (.long vy), .second, .val (.long vz), .second, .val (.long vu), .second, .val (.long vw), .second, .val (.int sel), .val (.int (2 : Nat).toInt32), .val (.long a), .second, .val (.long d), .second, .val (.long b), .second, .val (.int ((XT.ushr sel (2 : Int32)) &&& (3 : Int32))), .val (.int ((((XT.ushr sel (4 : Int32)) &&& (3 : Int32)) % (3 : Int32)) - (1 : Int32))), .val (.int ((XT.ushr sel (6 : Int32)) &&& (3 : Int32))), .val (.int ((((XT.ushr sel (8 : Int32)) &&& (3 : Int32)) % (3 : Int32)) - (1 : Int32))), .val (.long r1), .second, .val (.long r2), .second, .val (.long q1), .second, .val (.long q2), .second, .val (.ref b152), y31_156, y32_156, y33_156, y34_156, y35_156] [(.int (1 : Int32))])) _
      exact retN X156 hx (t := .boolean) Bd.returns (by simp) (hb hby at_375) hr
    · show Q_own_law2 Z vx vy vz vu vw sel a b d r1 r2 q1 q2 h0 n0 _ T156.heap _
      rw [e156]
      exact ⟨rfl, N156⟩
theorem pn_own_law3 : plainName "com/example/xml_element_search/xmlelementsearch/ElementScoresHoldsPinLaw" = true := by first | (simp [plainName, overriddenIn]; done) | decide +kernel
theorem ef_own_law3 (m : MethodId) (x0 : Int64) (x1 : Int64) (x2 : Int64) (x3 : Int64) (x4 : Int64) (x5 : Int32) : entryFrame m #[(.long x0), (.long x1), (.long x2), (.long x3), (.long x4), (.int x5)] maxLocals = mkF m 0 #[.val (.long x0), .second, .val (.long x1), .second, .val (.long x2), .second, .val (.long x3), .second, .val (.long x4), .second, .val (.int x5), .unset, .unset, .unset, .unset, .unset, .unset, .unset, .unset, .unset, .unset, .unset, .unset, .unset, .unset, .unset, .unset, .unset, .unset, .unset, .unset, .unset, .unset, .unset, .unset, .unset] [] := by first | (simp [entryFrame, mkF, argsToLocals, Value.category, maxLocals]; done) | rfl
def Q_own_law3 (Z : State) (vx : Int64) (vy : Int64) (vz : Int64) (vu : Int64) (vw : Int64) (sel : Int32) (a : Int64) (b : Int64) (d : Int64) (r1 : Int64) (r2 : Int64) (q1 : Int64) (q2 : Int64) (h0 : Heap) (n0 : Nat) (v : Option Value) (h : Heap) (L : List Loc) : Prop := v = some (.int 1) ∧ Fr n0 L
set_option maxRecDepth 65536 in
set_option maxHeartbeats 40000000 in
theorem own_law3 (l : Launch) (Z : State) (a0 : Array Value) (hw : ∀ d ∈ tables_1, d.before a0 Z = true) (ws : List Jvm.Cond) (vx : Int64) (vy : Int64) (vz : Int64) (vu : Int64) (vw : Int64) (sel : Int32) (a : Int64) (b : Int64) (d : Int64) (r1 : Int64) (r2 : Int64) (q1 : Int64) (q2 : Int64) (h0 : Heap) (n0 : Nat) (Z0 : n0 ≤ h0.size) (hn_ : (sel &&& (3 : Int32)) = (3 : Int32)) (hA : (if (if vz < vy then vz else vy) < vx then (if vz < vy then vz else vy) else vx) = a) (hC : (if vx < (if vy < vz then vz else vy) then (if vy < vz then vz else vy) else vx) = d) (hB : (if (if vy < vx then vy else vx) < (if vz < (if vx < vy then vy else vx) then vz else (if vx < vy then vy else vx)) then (if vz < (if vx < vy then vy else vx) then vz else (if vx < vy then vy else vx)) else (if vy < vx then vy else vx)) = b) (hr1 : ((own_base ((XT.ushr sel (2 : Int32)) &&& (3 : Int32)) vu a b d) + ((((XT.ushr sel (4 : Int32)) &&& (3 : Int32)) % (3 : Int32)) - (1 : Int32)).toInt64) = r1) (hr2 : ((own_base ((XT.ushr sel (6 : Int32)) &&& (3 : Int32)) vw a b d) + ((((XT.ushr sel (8 : Int32)) &&& (3 : Int32)) % (3 : Int32)) - (1 : Int32)).toInt64) = r2) (hq1 : (if r2 < r1 then r2 else r1) = q1) (hq2 : (if r1 < r2 then r2 else r1) = q2) (h_ab : ¬ b < a) (h_bc : ¬ d < b) (hqq : ¬ q2 < q1) :
    MetFree l x (head1 (Jvm.Cond.code x code maxLocals ret :: ws) room_1) (fun a U => a = #[(.long vx), (.long vy), (.long vz), (.long vu), (.long vw), (.int sel)] ∧ Z.Warmed39 U.vm ∧ U.heap = h0) (fun _ _ _ _ _ => True) (fun _ U o U' => ∃ v L, o = .returned v ∧ Q_own_law3 Z vx vy vz vu vw sel a b d r1 r2 q1 q2 h0 n0 v U'.heap L ∧ FrameEnd U o U' L 24 128) := by
  refine MetFree.of_bodySF (plainFor_of_name pn_own_law3) hisR ?_
  intro p e s m args below meth c s₁ Bd hml0 hP hK
  obtain ⟨rfl, hZ, hh⟩ := hP
  have hx := Bd.exec
  have hby := Bd.bytes
  have hml : c.maxLocals = 36 := hml0
  have hown : s.vm.findClass "com/example/xml_element_search/xmlelementsearch/ElementScoresHoldsPinLaw" = some m.cls := findClass_of_methodNamed Bd.named
  have hnm := (name_of_methodNamed Bd.named Bd.method).1
  have X0 : Stand p l e room_1 s m #[(.long vx), (.long vy), (.long vz), (.long vu), (.long vw), (.int sel)] below meth c s₁ [] 0 0 := Stand.of_body Bd
  have e0 : s₁.heap = h0 := by rw [← hh, Bd.state]; rfl
  have N0 := Fr.nil n0
  have pre0 : ∀ t, Steps p.tables e below (s₁.setTop (mkF m 0 #[.val (.long vx), .second, .val (.long vy), .second, .val (.long vz), .second, .val (.long vu), .second, .val (.long vw), .second, .val (.int sel), .unset, .unset, .unset, .unset, .unset, .unset, .unset, .unset, .unset, .unset, .unset, .unset, .unset, .unset, .unset, .unset, .unset, .unset, .unset, .unset, .unset, .unset, .unset, .unset, .unset] [])) t → Steps p.tables e below (s₁.setTop (entryFrame m #[(.long vx), (.long vy), (.long vz), (.long vu), (.long vw), (.int sel)] maxLocals)) t := fun t k => castTop (ef_own_law3 m (vx) (vy) (vz) (vu) (vw) (sel)) k
  obtain ⟨T157, L157, X157, e157, N157, st157⟩ := own_sA hw X0 hx hZ hby hml hown e0 N0 Z0 vx vy vz (.val (.long vu)) (.second) (.val (.long vw)) (.second) (.val (.int sel)) (.val (.int (3 : Int32))) (.unset) (.unset) (.unset) (.unset) (.unset) (.unset) (.unset) (.unset) (.unset) (.unset) (.unset) (.unset) (.unset) (.unset) (.unset) (.unset) (.unset) (.unset) a b d hA hC hB
  by_cases hab : a = b
  · obtain ⟨fs, hr, hrun, hended, hW, hsame⟩ := X157.leave (v := some (.int (1 : Int32))) (fun h => by rw [Bd.returns] at h; cases h)
    refine ⟨_, _, pre0 _ ?_, hrun, hended, _, _, rfl, ?_, ⟨_, rfl⟩, hW, hsame.mono (by decide) (by decide)⟩
    · show Steps p.tables e below (s₁.setTop (mkF m 0 #[.val (.long vx), .second, .val (.long vy), .second, .val (.long vz), .second, .val (.long vu), .second, .val (.long vw), .second, .val (.int sel), .unset, .unset, .unset, .unset, .unset, .unset, .unset, .unset, .unset, .unset, .unset, .unset, .unset, .unset, .unset, .unset, .unset, .unset, .unset, .unset, .unset, .unset, .unset, .unset, .unset] [])) _
      refine XS.iload X0.here hx rfl (hb hby at_0) rfl ?_
      show Steps p.tables e below (s₁.setTop (mkF m 2 #[.val (.long vx), .second, .val (.long vy), .second, .val (.long vz), .second, .val (.long vu), .second, .val (.long vw), .second, .val (.int sel), .unset, .unset, .unset, .unset, .unset, .unset, .unset, .unset, .unset, .unset, .unset, .unset, .unset, .unset, .unset, .unset, .unset, .unset, .unset, .unset, .unset, .unset, .unset, .unset, .unset] [(.int sel)])) _
      refine XS.iconst X0.here hx rfl (hb hby at_2) ?_
      show Steps p.tables e below (s₁.setTop (mkF m 3 #[.val (.long vx), .second, .val (.long vy), .second, .val (.long vz), .second, .val (.long vu), .second, .val (.long vw), .second, .val (.int sel), .unset, .unset, .unset, .unset, .unset, .unset, .unset, .unset, .unset, .unset, .unset, .unset, .unset, .unset, .unset, .unset, .unset, .unset, .unset, .unset, .unset, .unset, .unset, .unset, .unset] [(.int (3 : Int32)), (.int sel)])) _
      refine XS.iand X0.here hx rfl (hb hby at_3) rfl ?_
      show Steps p.tables e below (s₁.setTop (mkF m 4 #[.val (.long vx), .second, .val (.long vy), .second, .val (.long vz), .second, .val (.long vu), .second, .val (.long vw), .second, .val (.int sel), .unset, .unset, .unset, .unset, .unset, .unset, .unset, .unset, .unset, .unset, .unset, .unset, .unset, .unset, .unset, .unset, .unset, .unset, .unset, .unset, .unset, .unset, .unset, .unset, .unset] [(.int (sel &&& (3 : Int32)))])) _
      rw [hn_]
      show Steps p.tables e below (s₁.setTop (mkF m 4 #[.val (.long vx), .second, .val (.long vy), .second, .val (.long vz), .second, .val (.long vu), .second, .val (.long vw), .second, .val (.int sel), .unset, .unset, .unset, .unset, .unset, .unset, .unset, .unset, .unset, .unset, .unset, .unset, .unset, .unset, .unset, .unset, .unset, .unset, .unset, .unset, .unset, .unset, .unset, .unset, .unset] [(.int (3 : Int32))])) _
      refine XS.istore X0.here hx rfl (hb hby at_4) rfl (l' := #[.val (.long vx), .second, .val (.long vy), .second, .val (.long vz), .second, .val (.long vu), .second, .val (.long vw), .second, .val (.int sel), .val (.int (3 : Int32)), .unset, .unset, .unset, .unset, .unset, .unset, .unset, .unset, .unset, .unset, .unset, .unset, .unset, .unset, .unset, .unset, .unset, .unset, .unset, .unset, .unset, .unset, .unset, .unset]) rfl ?_
      show Steps p.tables e below (s₁.setTop (mkF m 6 #[.val (.long vx), .second, .val (.long vy), .second, .val (.long vz), .second, .val (.long vu), .second, .val (.long vw), .second, .val (.int sel), .val (.int (3 : Int32)), .unset, .unset, .unset, .unset, .unset, .unset, .unset, .unset, .unset, .unset, .unset, .unset, .unset, .unset, .unset, .unset, .unset, .unset, .unset, .unset, .unset, .unset, .unset, .unset] [])) _
      refine st157 _ ?_
      show Steps p.tables e below (T157.setTop (mkF m 50 #[.val (.long vx), .second, .val (.long vy), .second, .val (.long vz), .second, .val (.long vu), .second, .val (.long vw), .second, .val (.int sel), .val (.int (3 : Int32)), .val (.long a), .second, .val (.long d), .second, .val (.long b), .second, .unset, .unset, .unset, .unset, .unset, .unset, .unset, .unset, .unset, .unset, .unset, .unset, .unset, .unset, .unset, .unset, .unset, .unset] [])) _
      refine XS.iload X157.here hx rfl (hb hby at_50) rfl ?_
      show Steps p.tables e below (T157.setTop (mkF m 52 #[.val (.long vx), .second, .val (.long vy), .second, .val (.long vz), .second, .val (.long vu), .second, .val (.long vw), .second, .val (.int sel), .val (.int (3 : Int32)), .val (.long a), .second, .val (.long d), .second, .val (.long b), .second, .unset, .unset, .unset, .unset, .unset, .unset, .unset, .unset, .unset, .unset, .unset, .unset, .unset, .unset, .unset, .unset, .unset, .unset] [(.int (3 : Int32))])) _
      refine XS.iconst X157.here hx rfl (hb hby at_52) ?_
      show Steps p.tables e below (T157.setTop (mkF m 53 #[.val (.long vx), .second, .val (.long vy), .second, .val (.long vz), .second, .val (.long vu), .second, .val (.long vw), .second, .val (.int sel), .val (.int (3 : Int32)), .val (.long a), .second, .val (.long d), .second, .val (.long b), .second, .unset, .unset, .unset, .unset, .unset, .unset, .unset, .unset, .unset, .unset, .unset, .unset, .unset, .unset, .unset, .unset, .unset, .unset] [(.int (2 : Int32)), (.int (3 : Int32))])) _
      refine XS.icmpNo X157.here hx rfl (hb hby at_53) rfl (XT.ii_lt_f (by decide)) ?_
      show Steps p.tables e below (T157.setTop (mkF m 56 #[.val (.long vx), .second, .val (.long vy), .second, .val (.long vz), .second, .val (.long vu), .second, .val (.long vw), .second, .val (.int sel), .val (.int (3 : Int32)), .val (.long a), .second, .val (.long d), .second, .val (.long b), .second, .unset, .unset, .unset, .unset, .unset, .unset, .unset, .unset, .unset, .unset, .unset, .unset, .unset, .unset, .unset, .unset, .unset, .unset] [])) _
      refine XT.lload X157.here hx rfl (hb hby at_56) rfl ?_
      show Steps p.tables e below (T157.setTop (mkF m 58 #[.val (.long vx), .second, .val (.long vy), .second, .val (.long vz), .second, .val (.long vu), .second, .val (.long vw), .second, .val (.int sel), .val (.int (3 : Int32)), .val (.long a), .second, .val (.long d), .second, .val (.long b), .second, .unset, .unset, .unset, .unset, .unset, .unset, .unset, .unset, .unset, .unset, .unset, .unset, .unset, .unset, .unset, .unset, .unset, .unset] [(.long a)])) _
      refine XT.lload X157.here hx rfl (hb hby at_58) rfl ?_
      show Steps p.tables e below (T157.setTop (mkF m 60 #[.val (.long vx), .second, .val (.long vy), .second, .val (.long vz), .second, .val (.long vu), .second, .val (.long vw), .second, .val (.int sel), .val (.int (3 : Int32)), .val (.long a), .second, .val (.long d), .second, .val (.long b), .second, .unset, .unset, .unset, .unset, .unset, .unset, .unset, .unset, .unset, .unset, .unset, .unset, .unset, .unset, .unset, .unset, .unset, .unset] [(.long b), (.long a)])) _
      refine XT.lcmp X157.here hx rfl (hb hby at_60) rfl ?_
      show Steps p.tables e below (T157.setTop (mkF m 61 #[.val (.long vx), .second, .val (.long vy), .second, .val (.long vz), .second, .val (.long vu), .second, .val (.long vw), .second, .val (.int sel), .val (.int (3 : Int32)), .val (.long a), .second, .val (.long d), .second, .val (.long b), .second, .unset, .unset, .unset, .unset, .unset, .unset, .unset, .unset, .unset, .unset, .unset, .unset, .unset, .unset, .unset, .unset, .unset, .unset] [(.int (XT.cmpL a b))])) _
      refine XS.ifNo X157.here hx rfl (hb hby at_61) rfl (XT.ll_ne_f hab) ?_
      show Steps p.tables e below (T157.setTop (mkF m 64 #[.val (.long vx), .second, .val (.long vy), .second, .val (.long vz), .second, .val (.long vu), .second, .val (.long vw), .second, .val (.int sel), .val (.int (3 : Int32)), .val (.long a), .second, .val (.long d), .second, .val (.long b), .second, .unset, .unset, .unset, .unset, .unset, .unset, .unset, .unset, .unset, .unset, .unset, .unset, .unset, .unset, .unset, .unset, .unset, .unset] [])) _
      refine XS.iconst X157.here hx rfl (hb hby at_64) ?_
      show Steps p.tables e below (T157.setTop (mkF m 65 #[.val (.long vx), .second, .val (.long vy), .second, .val (.long vz), .second, .val (.long vu), .second, .val (.long vw), .second, .val (.int sel), .val (.int (3 : Int32)), .val (.long a), .second, .val (.long d), .second, .val (.long b), .second, .unset, .unset, .unset, .unset, .unset, .unset, .unset, .unset, .unset, .unset, .unset, .unset, .unset, .unset, .unset, .unset, .unset, .unset] [(.int (1 : Int32))])) _
      exact retN X157 hx (t := .boolean) Bd.returns (by simp) (hb hby at_65) hr
    · show Q_own_law3 Z vx vy vz vu vw sel a b d r1 r2 q1 q2 h0 n0 _ T157.heap _
      rw [e157]
      exact ⟨rfl, N157⟩
  · by_cases hbc : b = d
    · obtain ⟨fs, hr, hrun, hended, hW, hsame⟩ := X157.leave (v := some (.int (1 : Int32))) (fun h => by rw [Bd.returns] at h; cases h)
      refine ⟨_, _, pre0 _ ?_, hrun, hended, _, _, rfl, ?_, ⟨_, rfl⟩, hW, hsame.mono (by decide) (by decide)⟩
      · show Steps p.tables e below (s₁.setTop (mkF m 0 #[.val (.long vx), .second, .val (.long vy), .second, .val (.long vz), .second, .val (.long vu), .second, .val (.long vw), .second, .val (.int sel), .unset, .unset, .unset, .unset, .unset, .unset, .unset, .unset, .unset, .unset, .unset, .unset, .unset, .unset, .unset, .unset, .unset, .unset, .unset, .unset, .unset, .unset, .unset, .unset, .unset] [])) _
        refine XS.iload X0.here hx rfl (hb hby at_0) rfl ?_
        show Steps p.tables e below (s₁.setTop (mkF m 2 #[.val (.long vx), .second, .val (.long vy), .second, .val (.long vz), .second, .val (.long vu), .second, .val (.long vw), .second, .val (.int sel), .unset, .unset, .unset, .unset, .unset, .unset, .unset, .unset, .unset, .unset, .unset, .unset, .unset, .unset, .unset, .unset, .unset, .unset, .unset, .unset, .unset, .unset, .unset, .unset, .unset] [(.int sel)])) _
        refine XS.iconst X0.here hx rfl (hb hby at_2) ?_
        show Steps p.tables e below (s₁.setTop (mkF m 3 #[.val (.long vx), .second, .val (.long vy), .second, .val (.long vz), .second, .val (.long vu), .second, .val (.long vw), .second, .val (.int sel), .unset, .unset, .unset, .unset, .unset, .unset, .unset, .unset, .unset, .unset, .unset, .unset, .unset, .unset, .unset, .unset, .unset, .unset, .unset, .unset, .unset, .unset, .unset, .unset, .unset] [(.int (3 : Int32)), (.int sel)])) _
        refine XS.iand X0.here hx rfl (hb hby at_3) rfl ?_
        show Steps p.tables e below (s₁.setTop (mkF m 4 #[.val (.long vx), .second, .val (.long vy), .second, .val (.long vz), .second, .val (.long vu), .second, .val (.long vw), .second, .val (.int sel), .unset, .unset, .unset, .unset, .unset, .unset, .unset, .unset, .unset, .unset, .unset, .unset, .unset, .unset, .unset, .unset, .unset, .unset, .unset, .unset, .unset, .unset, .unset, .unset, .unset] [(.int (sel &&& (3 : Int32)))])) _
        rw [hn_]
        show Steps p.tables e below (s₁.setTop (mkF m 4 #[.val (.long vx), .second, .val (.long vy), .second, .val (.long vz), .second, .val (.long vu), .second, .val (.long vw), .second, .val (.int sel), .unset, .unset, .unset, .unset, .unset, .unset, .unset, .unset, .unset, .unset, .unset, .unset, .unset, .unset, .unset, .unset, .unset, .unset, .unset, .unset, .unset, .unset, .unset, .unset, .unset] [(.int (3 : Int32))])) _
        refine XS.istore X0.here hx rfl (hb hby at_4) rfl (l' := #[.val (.long vx), .second, .val (.long vy), .second, .val (.long vz), .second, .val (.long vu), .second, .val (.long vw), .second, .val (.int sel), .val (.int (3 : Int32)), .unset, .unset, .unset, .unset, .unset, .unset, .unset, .unset, .unset, .unset, .unset, .unset, .unset, .unset, .unset, .unset, .unset, .unset, .unset, .unset, .unset, .unset, .unset, .unset]) rfl ?_
        show Steps p.tables e below (s₁.setTop (mkF m 6 #[.val (.long vx), .second, .val (.long vy), .second, .val (.long vz), .second, .val (.long vu), .second, .val (.long vw), .second, .val (.int sel), .val (.int (3 : Int32)), .unset, .unset, .unset, .unset, .unset, .unset, .unset, .unset, .unset, .unset, .unset, .unset, .unset, .unset, .unset, .unset, .unset, .unset, .unset, .unset, .unset, .unset, .unset, .unset] [])) _
        refine st157 _ ?_
        show Steps p.tables e below (T157.setTop (mkF m 50 #[.val (.long vx), .second, .val (.long vy), .second, .val (.long vz), .second, .val (.long vu), .second, .val (.long vw), .second, .val (.int sel), .val (.int (3 : Int32)), .val (.long a), .second, .val (.long d), .second, .val (.long b), .second, .unset, .unset, .unset, .unset, .unset, .unset, .unset, .unset, .unset, .unset, .unset, .unset, .unset, .unset, .unset, .unset, .unset, .unset] [])) _
        refine XS.iload X157.here hx rfl (hb hby at_50) rfl ?_
        show Steps p.tables e below (T157.setTop (mkF m 52 #[.val (.long vx), .second, .val (.long vy), .second, .val (.long vz), .second, .val (.long vu), .second, .val (.long vw), .second, .val (.int sel), .val (.int (3 : Int32)), .val (.long a), .second, .val (.long d), .second, .val (.long b), .second, .unset, .unset, .unset, .unset, .unset, .unset, .unset, .unset, .unset, .unset, .unset, .unset, .unset, .unset, .unset, .unset, .unset, .unset] [(.int (3 : Int32))])) _
        refine XS.iconst X157.here hx rfl (hb hby at_52) ?_
        show Steps p.tables e below (T157.setTop (mkF m 53 #[.val (.long vx), .second, .val (.long vy), .second, .val (.long vz), .second, .val (.long vu), .second, .val (.long vw), .second, .val (.int sel), .val (.int (3 : Int32)), .val (.long a), .second, .val (.long d), .second, .val (.long b), .second, .unset, .unset, .unset, .unset, .unset, .unset, .unset, .unset, .unset, .unset, .unset, .unset, .unset, .unset, .unset, .unset, .unset, .unset] [(.int (2 : Int32)), (.int (3 : Int32))])) _
        refine XS.icmpNo X157.here hx rfl (hb hby at_53) rfl (XT.ii_lt_f (by decide)) ?_
        show Steps p.tables e below (T157.setTop (mkF m 56 #[.val (.long vx), .second, .val (.long vy), .second, .val (.long vz), .second, .val (.long vu), .second, .val (.long vw), .second, .val (.int sel), .val (.int (3 : Int32)), .val (.long a), .second, .val (.long d), .second, .val (.long b), .second, .unset, .unset, .unset, .unset, .unset, .unset, .unset, .unset, .unset, .unset, .unset, .unset, .unset, .unset, .unset, .unset, .unset, .unset] [])) _
        refine XT.lload X157.here hx rfl (hb hby at_56) rfl ?_
        show Steps p.tables e below (T157.setTop (mkF m 58 #[.val (.long vx), .second, .val (.long vy), .second, .val (.long vz), .second, .val (.long vu), .second, .val (.long vw), .second, .val (.int sel), .val (.int (3 : Int32)), .val (.long a), .second, .val (.long d), .second, .val (.long b), .second, .unset, .unset, .unset, .unset, .unset, .unset, .unset, .unset, .unset, .unset, .unset, .unset, .unset, .unset, .unset, .unset, .unset, .unset] [(.long a)])) _
        refine XT.lload X157.here hx rfl (hb hby at_58) rfl ?_
        show Steps p.tables e below (T157.setTop (mkF m 60 #[.val (.long vx), .second, .val (.long vy), .second, .val (.long vz), .second, .val (.long vu), .second, .val (.long vw), .second, .val (.int sel), .val (.int (3 : Int32)), .val (.long a), .second, .val (.long d), .second, .val (.long b), .second, .unset, .unset, .unset, .unset, .unset, .unset, .unset, .unset, .unset, .unset, .unset, .unset, .unset, .unset, .unset, .unset, .unset, .unset] [(.long b), (.long a)])) _
        refine XT.lcmp X157.here hx rfl (hb hby at_60) rfl ?_
        show Steps p.tables e below (T157.setTop (mkF m 61 #[.val (.long vx), .second, .val (.long vy), .second, .val (.long vz), .second, .val (.long vu), .second, .val (.long vw), .second, .val (.int sel), .val (.int (3 : Int32)), .val (.long a), .second, .val (.long d), .second, .val (.long b), .second, .unset, .unset, .unset, .unset, .unset, .unset, .unset, .unset, .unset, .unset, .unset, .unset, .unset, .unset, .unset, .unset, .unset, .unset] [(.int (XT.cmpL a b))])) _
        refine XS.ifYes X157.here hx rfl (pc0 := 61) (pc' := 66) rfl (hb hby at_61) rfl (XT.ll_ne_t hab) (by decide) (by decide) ?_
        show Steps p.tables e below (T157.setTop (mkF m 66 #[.val (.long vx), .second, .val (.long vy), .second, .val (.long vz), .second, .val (.long vu), .second, .val (.long vw), .second, .val (.int sel), .val (.int (3 : Int32)), .val (.long a), .second, .val (.long d), .second, .val (.long b), .second, .unset, .unset, .unset, .unset, .unset, .unset, .unset, .unset, .unset, .unset, .unset, .unset, .unset, .unset, .unset, .unset, .unset, .unset] [])) _
        refine XS.iload X157.here hx rfl (hb hby at_66) rfl ?_
        show Steps p.tables e below (T157.setTop (mkF m 68 #[.val (.long vx), .second, .val (.long vy), .second, .val (.long vz), .second, .val (.long vu), .second, .val (.long vw), .second, .val (.int sel), .val (.int (3 : Int32)), .val (.long a), .second, .val (.long d), .second, .val (.long b), .second, .unset, .unset, .unset, .unset, .unset, .unset, .unset, .unset, .unset, .unset, .unset, .unset, .unset, .unset, .unset, .unset, .unset, .unset] [(.int (3 : Int32))])) _
        refine XS.iconst X157.here hx rfl (hb hby at_68) ?_
        show Steps p.tables e below (T157.setTop (mkF m 69 #[.val (.long vx), .second, .val (.long vy), .second, .val (.long vz), .second, .val (.long vu), .second, .val (.long vw), .second, .val (.int sel), .val (.int (3 : Int32)), .val (.long a), .second, .val (.long d), .second, .val (.long b), .second, .unset, .unset, .unset, .unset, .unset, .unset, .unset, .unset, .unset, .unset, .unset, .unset, .unset, .unset, .unset, .unset, .unset, .unset] [(.int (3 : Int32)), (.int (3 : Int32))])) _
        refine XS.icmpNo X157.here hx rfl (hb hby at_69) rfl (XT.ii_lt_f (by decide)) ?_
        show Steps p.tables e below (T157.setTop (mkF m 72 #[.val (.long vx), .second, .val (.long vy), .second, .val (.long vz), .second, .val (.long vu), .second, .val (.long vw), .second, .val (.int sel), .val (.int (3 : Int32)), .val (.long a), .second, .val (.long d), .second, .val (.long b), .second, .unset, .unset, .unset, .unset, .unset, .unset, .unset, .unset, .unset, .unset, .unset, .unset, .unset, .unset, .unset, .unset, .unset, .unset] [])) _
        refine XT.lload X157.here hx rfl (hb hby at_72) rfl ?_
        show Steps p.tables e below (T157.setTop (mkF m 74 #[.val (.long vx), .second, .val (.long vy), .second, .val (.long vz), .second, .val (.long vu), .second, .val (.long vw), .second, .val (.int sel), .val (.int (3 : Int32)), .val (.long a), .second, .val (.long d), .second, .val (.long b), .second, .unset, .unset, .unset, .unset, .unset, .unset, .unset, .unset, .unset, .unset, .unset, .unset, .unset, .unset, .unset, .unset, .unset, .unset] [(.long b)])) _
        refine XT.lload X157.here hx rfl (hb hby at_74) rfl ?_
        show Steps p.tables e below (T157.setTop (mkF m 76 #[.val (.long vx), .second, .val (.long vy), .second, .val (.long vz), .second, .val (.long vu), .second, .val (.long vw), .second, .val (.int sel), .val (.int (3 : Int32)), .val (.long a), .second, .val (.long d), .second, .val (.long b), .second, .unset, .unset, .unset, .unset, .unset, .unset, .unset, .unset, .unset, .unset, .unset, .unset, .unset, .unset, .unset, .unset, .unset, .unset] [(.long d), (.long b)])) _
        refine XT.lcmp X157.here hx rfl (hb hby at_76) rfl ?_
        show Steps p.tables e below (T157.setTop (mkF m 77 #[.val (.long vx), .second, .val (.long vy), .second, .val (.long vz), .second, .val (.long vu), .second, .val (.long vw), .second, .val (.int sel), .val (.int (3 : Int32)), .val (.long a), .second, .val (.long d), .second, .val (.long b), .second, .unset, .unset, .unset, .unset, .unset, .unset, .unset, .unset, .unset, .unset, .unset, .unset, .unset, .unset, .unset, .unset, .unset, .unset] [(.int (XT.cmpL b d))])) _
        refine XS.ifNo X157.here hx rfl (hb hby at_77) rfl (XT.ll_ne_f hbc) ?_
        show Steps p.tables e below (T157.setTop (mkF m 80 #[.val (.long vx), .second, .val (.long vy), .second, .val (.long vz), .second, .val (.long vu), .second, .val (.long vw), .second, .val (.int sel), .val (.int (3 : Int32)), .val (.long a), .second, .val (.long d), .second, .val (.long b), .second, .unset, .unset, .unset, .unset, .unset, .unset, .unset, .unset, .unset, .unset, .unset, .unset, .unset, .unset, .unset, .unset, .unset, .unset] [])) _
        refine XS.iconst X157.here hx rfl (hb hby at_80) ?_
        show Steps p.tables e below (T157.setTop (mkF m 81 #[.val (.long vx), .second, .val (.long vy), .second, .val (.long vz), .second, .val (.long vu), .second, .val (.long vw), .second, .val (.int sel), .val (.int (3 : Int32)), .val (.long a), .second, .val (.long d), .second, .val (.long b), .second, .unset, .unset, .unset, .unset, .unset, .unset, .unset, .unset, .unset, .unset, .unset, .unset, .unset, .unset, .unset, .unset, .unset, .unset] [(.int (1 : Int32))])) _
        exact retN X157 hx (t := .boolean) Bd.returns (by simp) (hb hby at_81) hr
      · show Q_own_law3 Z vx vy vz vu vw sel a b d r1 r2 q1 q2 h0 n0 _ T157.heap _
        rw [e157]
        exact ⟨rfl, N157⟩
    · obtain ⟨T160, L160, X160, e160, N160, st160⟩ := own_sB hw X157 hx hZ hby hml hown e157 N157 Z0 (.val (.long vx)) (.second) (.val (.long vy)) (.second) (.val (.long vz)) (.second) vu vw sel (.val (.int (3 : Int32))) a d b (.unset) (.unset) (.unset) (.unset) (.unset) (.unset) r1 r2 q1 q2 hr1 hr2 hq1 hq2
      obtain ⟨T161, h161, X161, e161, E161, A161, D161, -, st161⟩ := newO X160 hx hZ hown (hw _ (List.mem_of_getElem? (i := 11) rfl)) (hw _ (List.mem_of_getElem? (i := 12) rfl)) (hw _ (List.mem_of_getElem? (i := 13) rfl)) e160 (g := (mkF m 180 #[.val (.long vx), .second, .val (.long vy), .second, .val (.long vz), .second, .val (.long vu), .second, .val (.long vw), .second, .val (.int sel), .val (.int (3 : Int32)), .val (.long a), .second, .val (.long d), .second, .val (.long b), .second, .val (.int ((XT.ushr sel (2 : Int32)) &&& (3 : Int32))), .val (.int ((((XT.ushr sel (4 : Int32)) &&& (3 : Int32)) % (3 : Int32)) - (1 : Int32))), .val (.int ((XT.ushr sel (6 : Int32)) &&& (3 : Int32))), .val (.int ((((XT.ushr sel (8 : Int32)) &&& (3 : Int32)) % (3 : Int32)) - (1 : Int32))), .val (.long r1), .second, .val (.long r2), .second, .val (.long q1), .second, .val (.long q2), .second, .unset, .unset, .unset, .unset, .unset, .unset] [])) rfl (hb hby at_180) (by decide) (by decide)
      obtain ⟨b161, g161⟩ : ∃ z, z = h0.size := ⟨_, rfl⟩
      rw [← g161] at A161 D161 st161
      have g_b161 : n0 ≤ b161 := Nat.le_trans Z0 (Nat.le_of_eq g161.symm)
      have F161_runStarts : Fld Z h161 b161 "com/example/xml_element_search/xmlelementsearch/ElementScores" "runStarts" "[I" .null := D161 (Or.inl (hw _ (List.mem_of_getElem? (i := 25) rfl))) (ty := (.array .int)) (by decide)
      have F161_elements : Fld Z h161 b161 "com/example/xml_element_search/xmlelementsearch/ElementScores" "elements" "[J" .null := D161 (Or.inl (hw _ (List.mem_of_getElem? (i := 31) rfl))) (ty := (.array .long)) (by decide)
      have F161_scores : Fld Z h161 b161 "com/example/xml_element_search/xmlelementsearch/ElementScores" "scores" "[D" .null := D161 (Or.inl (hw _ (List.mem_of_getElem? (i := 34) rfl))) (ty := (.array .double)) (by decide)
      have F161_size : Fld Z h161 b161 "com/example/xml_element_search/xmlelementsearch/ElementScores" "size" "I" (.int (0 : Int32)) := D161 (Or.inl (hw _ (List.mem_of_getElem? (i := 41) rfl))) (ty := .int) (by decide)
      have F161_runs : Fld Z h161 b161 "com/example/xml_element_search/xmlelementsearch/ElementScores" "runs" "I" (.int (0 : Int32)) := D161 (Or.inl (hw _ (List.mem_of_getElem? (i := 43) rfl))) (ty := .int) (by decide)
      obtain ⟨_, _, ⟨T162, L162, k162, n162⟩, -, X162, ⟨Lc162, hQ162, l162, y162, z162⟩, st162⟩ := X161.specialBack hx (y := (⟨"com/example/xml_element_search/xmlelementsearch/ElementScores", "<init>", "()V"⟩ : MethodName)) rfl hown (mvT hZ (hw _ (List.mem_of_getElem? (i := 14) rfl))) (mvT hZ (hw _ (List.mem_of_getElem? (i := 15) rfl))) (mvT hZ (hw _ (List.mem_of_getElem? (i := 16) rfl))) (by decide) (backOf (W := 1) (own_i0 l Z a0 hw [] b161 h161 n0 (Nat.le_trans Z0 E161.1) A161 F161_elements F161_scores F161_size F161_runStarts F161_runs g_b161) hZ (hw _ (List.mem_of_getElem? (i := 16) rfl)) (hw _ (List.mem_of_getElem? (i := 13) rfl)) (by decide) (by decide)) (g := (mkF m 184 #[.val (.long vx), .second, .val (.long vy), .second, .val (.long vz), .second, .val (.long vu), .second, .val (.long vw), .second, .val (.int sel), .val (.int (3 : Int32)), .val (.long a), .second, .val (.long d), .second, .val (.long b), .second, .val (.int ((XT.ushr sel (2 : Int32)) &&& (3 : Int32))), .val (.int ((((XT.ushr sel (4 : Int32)) &&& (3 : Int32)) % (3 : Int32)) - (1 : Int32))), .val (.int ((XT.ushr sel (6 : Int32)) &&& (3 : Int32))), .val (.int ((((XT.ushr sel (8 : Int32)) &&& (3 : Int32)) % (3 : Int32)) - (1 : Int32))), .val (.long r1), .second, .val (.long r2), .second, .val (.long q1), .second, .val (.long q2), .second, .unset, .unset, .unset, .unset, .unset, .unset] [(.ref b161), (.ref b161)])) rfl (by rw [hml]; rfl) (Steps.refl _) (a := b161) (argsL := []) (rest := [(.ref b161)]) (lenOf pd_9 rfl) rfl (by show 2 * 0 + _ ≤ _; exact Nat.le_of_eq rfl) (hb hby at_184) (fun _ _ => ⟨rfl, e161, (by decide : 1 + 3 ≤ _), (by decide : 5 + 17 ≤ _)⟩)
      dsimp only [Pt.U, Pt.locs, Pt.cells, Pt.slots] at X162 l162 y162 z162 st162 hQ162
      subst l162 y162 z162
      obtain ⟨rfl, N162q, ae, as_, ar, ke, ks, kr, ⟨g_ar, l1, l2, l3⟩, E_, F_e, F_s, F_n, F_r, F_u, V_e, V_s, V_r⟩ := hQ162
      have N162 := Fr.app N160 N162q
      have g_ae : n0 ≤ ae := Nat.le_trans g_ar (Nat.le_of_lt l2)
      have g_as_ : n0 ≤ as_ := Nat.le_trans g_ae (Nat.le_of_lt l3)
      obtain ⟨cq163, kq163, q163a, q163b, q163c⟩ := isOf hZ rfl E_
      obtain ⟨_, _, ⟨T163, L163, k163, n163⟩, -, X163, ⟨Lc163, hQ163, l163, y163, z163⟩, st163⟩ := X162.virtualBack hx (y := (⟨"com/example/xml_element_search/xmlelementsearch/ElementScores", "add", "(JD)V"⟩ : MethodName)) (z := (⟨"com/example/xml_element_search/xmlelementsearch/ElementScores", "add", "(JD)V"⟩ : MethodName)) hown (mvT hZ (hw _ (List.mem_of_getElem? (i := 35) rfl))) (mvT hZ (hw _ (List.mem_of_getElem? (i := 36) rfl))) (notFace_of_selects (args := #[]) (mvT hZ (hw _ (List.mem_of_getElem? (i := 38) rfl)))) (mvT hZ (hw _ (List.mem_of_getElem? (i := 38) rfl))) (mvT hZ (hw _ (List.mem_of_getElem? (i := 37) rfl))) (by decide) (backOf (W := 0) (own_add0 l Z a0 hw [] b161 a FP.dconst1 ae as_ ar ke ks kr (fun _ => Value.long 0) (fun _ => Value.double 0) (fun _ => Value.int 0) T162.heap n0 (Nat.le_trans g_ar (Nat.le_of_lt V_r.lt)) g_b161 l1 l2 l3 g_ar g_ae g_as_ E_ F_e F_s F_n F_r F_u V_e V_s V_r) hZ (hw _ (List.mem_of_getElem? (i := 39) rfl)) (hw _ (List.mem_of_getElem? (i := 13) rfl)) (by decide) (by decide)) q163a q163c (g := (mkF m 199 #[.val (.long vx), .second, .val (.long vy), .second, .val (.long vz), .second, .val (.long vu), .second, .val (.long vw), .second, .val (.int sel), .val (.int (3 : Int32)), .val (.long a), .second, .val (.long d), .second, .val (.long b), .second, .val (.int ((XT.ushr sel (2 : Int32)) &&& (3 : Int32))), .val (.int ((((XT.ushr sel (4 : Int32)) &&& (3 : Int32)) % (3 : Int32)) - (1 : Int32))), .val (.int ((XT.ushr sel (6 : Int32)) &&& (3 : Int32))), .val (.int ((((XT.ushr sel (8 : Int32)) &&& (3 : Int32)) % (3 : Int32)) - (1 : Int32))), .val (.long r1), .second, .val (.long r2), .second, .val (.long q1), .second, .val (.long q2), .second, .val (.ref b161), .unset, .unset, .unset, .unset, .unset] [(.double FP.dconst1), (.long a), (.ref b161)])) rfl (by rw [hml]; rfl) (Steps.refl _) (argsL := [(.long a), (.double FP.dconst1)]) (rest := []) (lenOf pd_10 rfl) rfl (by show 2 * 0 + _ ≤ _; exact Nat.le_of_eq rfl) (hb hby at_199) (fun _ _ => ⟨rfl, rfl, (by decide : 4 + 0 ≤ _), (by decide : 22 + 0 ≤ _)⟩)
      dsimp only [Pt.U, Pt.locs, Pt.cells, Pt.slots] at X163 l163 y163 z163 st163 hQ163
      subst l163 y163 z163
      obtain ⟨rfl, N163q, E_0, F_e0, F_s0, F_n0, F_r0, F_u0, V_e0, V_s0, V_r0⟩ := hQ163
      have N163 := Fr.app N162 N163q
      obtain ⟨cq164, kq164, q164a, q164b, q164c⟩ := isOf hZ rfl E_0
      obtain ⟨_, _, ⟨T164, L164, k164, n164⟩, -, X164, ⟨Lc164, hQ164, l164, y164, z164⟩, st164⟩ := X163.virtualBack hx (y := (⟨"com/example/xml_element_search/xmlelementsearch/ElementScores", "add", "(JD)V"⟩ : MethodName)) (z := (⟨"com/example/xml_element_search/xmlelementsearch/ElementScores", "add", "(JD)V"⟩ : MethodName)) hown (mvT hZ (hw _ (List.mem_of_getElem? (i := 35) rfl))) (mvT hZ (hw _ (List.mem_of_getElem? (i := 36) rfl))) (notFace_of_selects (args := #[]) (mvT hZ (hw _ (List.mem_of_getElem? (i := 38) rfl)))) (mvT hZ (hw _ (List.mem_of_getElem? (i := 38) rfl))) (mvT hZ (hw _ (List.mem_of_getElem? (i := 37) rfl))) (by decide) (backOf (W := 0) (own_add1 l Z a0 hw [] b161 b (4611686018427387904 : UInt64) ae as_ ar ke ks kr (upd (fun _ => Value.long 0) 0 (.long a)) (upd (fun _ => Value.double 0) 0 (.double FP.dconst1)) (upd (fun _ => Value.int 0) 0 (.int (0 : Int32))) a T163.heap n0 (Nat.le_trans g_ar (Nat.le_of_lt V_r0.lt)) rfl (own_slt hab h_ab) g_b161 l1 l2 l3 g_ar g_ae g_as_ E_0 F_e0 F_s0 F_n0 F_r0 F_u0 V_e0 V_s0 V_r0) hZ (hw _ (List.mem_of_getElem? (i := 39) rfl)) (hw _ (List.mem_of_getElem? (i := 13) rfl)) (by decide) (by decide)) q164a q164c (g := (mkF m 215 #[.val (.long vx), .second, .val (.long vy), .second, .val (.long vz), .second, .val (.long vu), .second, .val (.long vw), .second, .val (.int sel), .val (.int (3 : Int32)), .val (.long a), .second, .val (.long d), .second, .val (.long b), .second, .val (.int ((XT.ushr sel (2 : Int32)) &&& (3 : Int32))), .val (.int ((((XT.ushr sel (4 : Int32)) &&& (3 : Int32)) % (3 : Int32)) - (1 : Int32))), .val (.int ((XT.ushr sel (6 : Int32)) &&& (3 : Int32))), .val (.int ((((XT.ushr sel (8 : Int32)) &&& (3 : Int32)) % (3 : Int32)) - (1 : Int32))), .val (.long r1), .second, .val (.long r2), .second, .val (.long q1), .second, .val (.long q2), .second, .val (.ref b161), .unset, .unset, .unset, .unset, .unset] [(.double (4611686018427387904 : UInt64)), (.long b), (.ref b161)])) rfl (by rw [hml]; rfl) (Steps.refl _) (argsL := [(.long b), (.double (4611686018427387904 : UInt64))]) (rest := []) (lenOf pd_10 rfl) rfl (by show 2 * 0 + _ ≤ _; exact Nat.le_of_eq rfl) (hb hby at_215) (fun _ _ => ⟨rfl, rfl, (by decide : 4 + 0 ≤ _), (by decide : 22 + 0 ≤ _)⟩)
      dsimp only [Pt.U, Pt.locs, Pt.cells, Pt.slots] at X164 l164 y164 z164 st164 hQ164
      subst l164 y164 z164
      obtain ⟨rfl, N164q, E_1, F_e1, F_s1, F_n1, F_r1, F_u1, V_e1, V_s1, V_r1⟩ := hQ164
      have N164 := Fr.app N163 N164q
      obtain ⟨cq165, kq165, q165a, q165b, q165c⟩ := isOf hZ rfl E_1
      obtain ⟨_, _, ⟨T165, L165, k165, n165⟩, -, X165, ⟨Lc165, hQ165, l165, y165, z165⟩, st165⟩ := X164.virtualBack hx (y := (⟨"com/example/xml_element_search/xmlelementsearch/ElementScores", "add", "(JD)V"⟩ : MethodName)) (z := (⟨"com/example/xml_element_search/xmlelementsearch/ElementScores", "add", "(JD)V"⟩ : MethodName)) hown (mvT hZ (hw _ (List.mem_of_getElem? (i := 35) rfl))) (mvT hZ (hw _ (List.mem_of_getElem? (i := 36) rfl))) (notFace_of_selects (args := #[]) (mvT hZ (hw _ (List.mem_of_getElem? (i := 38) rfl)))) (mvT hZ (hw _ (List.mem_of_getElem? (i := 38) rfl))) (mvT hZ (hw _ (List.mem_of_getElem? (i := 37) rfl))) (by decide) (backOf (W := 0) (own_add2 l Z a0 hw [] b161 d (4613937818241073152 : UInt64) ae as_ ar ke ks kr (upd (upd (fun _ => Value.long 0) 0 (.long a)) 1 (.long b)) (upd (upd (fun _ => Value.double 0) 0 (.double FP.dconst1)) 1 (.double (4611686018427387904 : UInt64))) (upd (fun _ => Value.int 0) 0 (.int (0 : Int32))) b T164.heap n0 (Nat.le_trans g_ar (Nat.le_of_lt V_r1.lt)) rfl (own_slt hbc h_bc) g_b161 l1 l2 l3 g_ar g_ae g_as_ E_1 F_e1 F_s1 F_n1 F_r1 F_u1 V_e1 V_s1 V_r1) hZ (hw _ (List.mem_of_getElem? (i := 39) rfl)) (hw _ (List.mem_of_getElem? (i := 13) rfl)) (by decide) (by decide)) q165a q165c (g := (mkF m 231 #[.val (.long vx), .second, .val (.long vy), .second, .val (.long vz), .second, .val (.long vu), .second, .val (.long vw), .second, .val (.int sel), .val (.int (3 : Int32)), .val (.long a), .second, .val (.long d), .second, .val (.long b), .second, .val (.int ((XT.ushr sel (2 : Int32)) &&& (3 : Int32))), .val (.int ((((XT.ushr sel (4 : Int32)) &&& (3 : Int32)) % (3 : Int32)) - (1 : Int32))), .val (.int ((XT.ushr sel (6 : Int32)) &&& (3 : Int32))), .val (.int ((((XT.ushr sel (8 : Int32)) &&& (3 : Int32)) % (3 : Int32)) - (1 : Int32))), .val (.long r1), .second, .val (.long r2), .second, .val (.long q1), .second, .val (.long q2), .second, .val (.ref b161), .unset, .unset, .unset, .unset, .unset] [(.double (4613937818241073152 : UInt64)), (.long d), (.ref b161)])) rfl (by rw [hml]; rfl) (Steps.refl _) (argsL := [(.long d), (.double (4613937818241073152 : UInt64))]) (rest := []) (lenOf pd_10 rfl) rfl (by show 2 * 0 + _ ≤ _; exact Nat.le_of_eq rfl) (hb hby at_231) (fun _ _ => ⟨rfl, rfl, (by decide : 4 + 0 ≤ _), (by decide : 22 + 0 ≤ _)⟩)
      dsimp only [Pt.U, Pt.locs, Pt.cells, Pt.slots] at X165 l165 y165 z165 st165 hQ165
      subst l165 y165 z165
      obtain ⟨rfl, N165q, E_2, F_e2, F_s2, F_n2, F_r2, F_u2, V_e2, V_s2, V_r2⟩ := hQ165
      have N165 := Fr.app N164 N165q
      obtain ⟨T166, h166, L166, y31_166, y32_166, y33_166, y34_166, y35_166, X166, e166, N166, -, st166⟩ := own_tail hw X165 hx hZ hby hml hown rfl N165 (Nat.le_trans g_ar (Nat.le_of_lt V_r2.lt)) (.val (.long vx)) (.second) (.val (.long vy)) (.second) (.val (.long vz)) (.second) (.val (.long vu)) (.second) (.val (.long vw)) (.second) (.val (.int sel)) a d b (.val (.int ((XT.ushr sel (2 : Int32)) &&& (3 : Int32)))) (.val (.int ((((XT.ushr sel (4 : Int32)) &&& (3 : Int32)) % (3 : Int32)) - (1 : Int32)))) (.val (.int ((XT.ushr sel (6 : Int32)) &&& (3 : Int32)))) (.val (.int ((((XT.ushr sel (8 : Int32)) &&& (3 : Int32)) % (3 : Int32)) - (1 : Int32)))) (.val (.long r1)) (.second) (.val (.long r2)) (.second) q1 q2 b161 ae as_ ke ks (upd (upd (upd (fun _ => Value.long 0) 0 (.long a)) 1 (.long b)) 2 (.long d)) (upd (upd (upd (fun _ => Value.double 0) 0 (.double FP.dconst1)) 1 (.double (4611686018427387904 : UInt64))) 2 (.double (4613937818241073152 : UInt64))) (3 : Nat) (by decide) (own_asc3 (own_slt hab h_ab) (own_slt hbc h_bc)) hqq (fun j hj => match j, hj with | 0, _ => rfl | 1, _ => rfl | 2, _ => rfl | n + 3, h => absurd h (by omega)) (fun j hj => match j, hj with | 0, _ => rfl | 1, _ => rfl | 2, _ => rfl | n + 3, h => absurd h (by omega)) E_2 F_n2 F_e2 F_s2 V_e2 V_s2
      obtain ⟨fs, hr, hrun, hended, hW, hsame⟩ := X166.leave (v := some (.int (1 : Int32))) (fun h => by rw [Bd.returns] at h; cases h)
      refine ⟨_, _, pre0 _ ?_, hrun, hended, _, _, rfl, ?_, ⟨_, rfl⟩, hW, hsame.mono (by decide) (by decide)⟩
      · show Steps p.tables e below (s₁.setTop (mkF m 0 #[.val (.long vx), .second, .val (.long vy), .second, .val (.long vz), .second, .val (.long vu), .second, .val (.long vw), .second, .val (.int sel), .unset, .unset, .unset, .unset, .unset, .unset, .unset, .unset, .unset, .unset, .unset, .unset, .unset, .unset, .unset, .unset, .unset, .unset, .unset, .unset, .unset, .unset, .unset, .unset, .unset] [])) _
        refine XS.iload X0.here hx rfl (hb hby at_0) rfl ?_
        show Steps p.tables e below (s₁.setTop (mkF m 2 #[.val (.long vx), .second, .val (.long vy), .second, .val (.long vz), .second, .val (.long vu), .second, .val (.long vw), .second, .val (.int sel), .unset, .unset, .unset, .unset, .unset, .unset, .unset, .unset, .unset, .unset, .unset, .unset, .unset, .unset, .unset, .unset, .unset, .unset, .unset, .unset, .unset, .unset, .unset, .unset, .unset] [(.int sel)])) _
        refine XS.iconst X0.here hx rfl (hb hby at_2) ?_
        show Steps p.tables e below (s₁.setTop (mkF m 3 #[.val (.long vx), .second, .val (.long vy), .second, .val (.long vz), .second, .val (.long vu), .second, .val (.long vw), .second, .val (.int sel), .unset, .unset, .unset, .unset, .unset, .unset, .unset, .unset, .unset, .unset, .unset, .unset, .unset, .unset, .unset, .unset, .unset, .unset, .unset, .unset, .unset, .unset, .unset, .unset, .unset] [(.int (3 : Int32)), (.int sel)])) _
        refine XS.iand X0.here hx rfl (hb hby at_3) rfl ?_
        show Steps p.tables e below (s₁.setTop (mkF m 4 #[.val (.long vx), .second, .val (.long vy), .second, .val (.long vz), .second, .val (.long vu), .second, .val (.long vw), .second, .val (.int sel), .unset, .unset, .unset, .unset, .unset, .unset, .unset, .unset, .unset, .unset, .unset, .unset, .unset, .unset, .unset, .unset, .unset, .unset, .unset, .unset, .unset, .unset, .unset, .unset, .unset] [(.int (sel &&& (3 : Int32)))])) _
        rw [hn_]
        show Steps p.tables e below (s₁.setTop (mkF m 4 #[.val (.long vx), .second, .val (.long vy), .second, .val (.long vz), .second, .val (.long vu), .second, .val (.long vw), .second, .val (.int sel), .unset, .unset, .unset, .unset, .unset, .unset, .unset, .unset, .unset, .unset, .unset, .unset, .unset, .unset, .unset, .unset, .unset, .unset, .unset, .unset, .unset, .unset, .unset, .unset, .unset] [(.int (3 : Int32))])) _
        refine XS.istore X0.here hx rfl (hb hby at_4) rfl (l' := #[.val (.long vx), .second, .val (.long vy), .second, .val (.long vz), .second, .val (.long vu), .second, .val (.long vw), .second, .val (.int sel), .val (.int (3 : Int32)), .unset, .unset, .unset, .unset, .unset, .unset, .unset, .unset, .unset, .unset, .unset, .unset, .unset, .unset, .unset, .unset, .unset, .unset, .unset, .unset, .unset, .unset, .unset, .unset]) rfl ?_
        show Steps p.tables e below (s₁.setTop (mkF m 6 #[.val (.long vx), .second, .val (.long vy), .second, .val (.long vz), .second, .val (.long vu), .second, .val (.long vw), .second, .val (.int sel), .val (.int (3 : Int32)), .unset, .unset, .unset, .unset, .unset, .unset, .unset, .unset, .unset, .unset, .unset, .unset, .unset, .unset, .unset, .unset, .unset, .unset, .unset, .unset, .unset, .unset, .unset, .unset] [])) _
        refine st157 _ ?_
        show Steps p.tables e below (T157.setTop (mkF m 50 #[.val (.long vx), .second, .val (.long vy), .second, .val (.long vz), .second, .val (.long vu), .second, .val (.long vw), .second, .val (.int sel), .val (.int (3 : Int32)), .val (.long a), .second, .val (.long d), .second, .val (.long b), .second, .unset, .unset, .unset, .unset, .unset, .unset, .unset, .unset, .unset, .unset, .unset, .unset, .unset, .unset, .unset, .unset, .unset, .unset] [])) _
        refine XS.iload X157.here hx rfl (hb hby at_50) rfl ?_
        show Steps p.tables e below (T157.setTop (mkF m 52 #[.val (.long vx), .second, .val (.long vy), .second, .val (.long vz), .second, .val (.long vu), .second, .val (.long vw), .second, .val (.int sel), .val (.int (3 : Int32)), .val (.long a), .second, .val (.long d), .second, .val (.long b), .second, .unset, .unset, .unset, .unset, .unset, .unset, .unset, .unset, .unset, .unset, .unset, .unset, .unset, .unset, .unset, .unset, .unset, .unset] [(.int (3 : Int32))])) _
        refine XS.iconst X157.here hx rfl (hb hby at_52) ?_
        show Steps p.tables e below (T157.setTop (mkF m 53 #[.val (.long vx), .second, .val (.long vy), .second, .val (.long vz), .second, .val (.long vu), .second, .val (.long vw), .second, .val (.int sel), .val (.int (3 : Int32)), .val (.long a), .second, .val (.long d), .second, .val (.long b), .second, .unset, .unset, .unset, .unset, .unset, .unset, .unset, .unset, .unset, .unset, .unset, .unset, .unset, .unset, .unset, .unset, .unset, .unset] [(.int (2 : Int32)), (.int (3 : Int32))])) _
        refine XS.icmpNo X157.here hx rfl (hb hby at_53) rfl (XT.ii_lt_f (by decide)) ?_
        show Steps p.tables e below (T157.setTop (mkF m 56 #[.val (.long vx), .second, .val (.long vy), .second, .val (.long vz), .second, .val (.long vu), .second, .val (.long vw), .second, .val (.int sel), .val (.int (3 : Int32)), .val (.long a), .second, .val (.long d), .second, .val (.long b), .second, .unset, .unset, .unset, .unset, .unset, .unset, .unset, .unset, .unset, .unset, .unset, .unset, .unset, .unset, .unset, .unset, .unset, .unset] [])) _
        refine XT.lload X157.here hx rfl (hb hby at_56) rfl ?_
        show Steps p.tables e below (T157.setTop (mkF m 58 #[.val (.long vx), .second, .val (.long vy), .second, .val (.long vz), .second, .val (.long vu), .second, .val (.long vw), .second, .val (.int sel), .val (.int (3 : Int32)), .val (.long a), .second, .val (.long d), .second, .val (.long b), .second, .unset, .unset, .unset, .unset, .unset, .unset, .unset, .unset, .unset, .unset, .unset, .unset, .unset, .unset, .unset, .unset, .unset, .unset] [(.long a)])) _
        refine XT.lload X157.here hx rfl (hb hby at_58) rfl ?_
        show Steps p.tables e below (T157.setTop (mkF m 60 #[.val (.long vx), .second, .val (.long vy), .second, .val (.long vz), .second, .val (.long vu), .second, .val (.long vw), .second, .val (.int sel), .val (.int (3 : Int32)), .val (.long a), .second, .val (.long d), .second, .val (.long b), .second, .unset, .unset, .unset, .unset, .unset, .unset, .unset, .unset, .unset, .unset, .unset, .unset, .unset, .unset, .unset, .unset, .unset, .unset] [(.long b), (.long a)])) _
        refine XT.lcmp X157.here hx rfl (hb hby at_60) rfl ?_
        show Steps p.tables e below (T157.setTop (mkF m 61 #[.val (.long vx), .second, .val (.long vy), .second, .val (.long vz), .second, .val (.long vu), .second, .val (.long vw), .second, .val (.int sel), .val (.int (3 : Int32)), .val (.long a), .second, .val (.long d), .second, .val (.long b), .second, .unset, .unset, .unset, .unset, .unset, .unset, .unset, .unset, .unset, .unset, .unset, .unset, .unset, .unset, .unset, .unset, .unset, .unset] [(.int (XT.cmpL a b))])) _
        refine XS.ifYes X157.here hx rfl (pc0 := 61) (pc' := 66) rfl (hb hby at_61) rfl (XT.ll_ne_t hab) (by decide) (by decide) ?_
        show Steps p.tables e below (T157.setTop (mkF m 66 #[.val (.long vx), .second, .val (.long vy), .second, .val (.long vz), .second, .val (.long vu), .second, .val (.long vw), .second, .val (.int sel), .val (.int (3 : Int32)), .val (.long a), .second, .val (.long d), .second, .val (.long b), .second, .unset, .unset, .unset, .unset, .unset, .unset, .unset, .unset, .unset, .unset, .unset, .unset, .unset, .unset, .unset, .unset, .unset, .unset] [])) _
        refine XS.iload X157.here hx rfl (hb hby at_66) rfl ?_
        show Steps p.tables e below (T157.setTop (mkF m 68 #[.val (.long vx), .second, .val (.long vy), .second, .val (.long vz), .second, .val (.long vu), .second, .val (.long vw), .second, .val (.int sel), .val (.int (3 : Int32)), .val (.long a), .second, .val (.long d), .second, .val (.long b), .second, .unset, .unset, .unset, .unset, .unset, .unset, .unset, .unset, .unset, .unset, .unset, .unset, .unset, .unset, .unset, .unset, .unset, .unset] [(.int (3 : Int32))])) _
        refine XS.iconst X157.here hx rfl (hb hby at_68) ?_
        show Steps p.tables e below (T157.setTop (mkF m 69 #[.val (.long vx), .second, .val (.long vy), .second, .val (.long vz), .second, .val (.long vu), .second, .val (.long vw), .second, .val (.int sel), .val (.int (3 : Int32)), .val (.long a), .second, .val (.long d), .second, .val (.long b), .second, .unset, .unset, .unset, .unset, .unset, .unset, .unset, .unset, .unset, .unset, .unset, .unset, .unset, .unset, .unset, .unset, .unset, .unset] [(.int (3 : Int32)), (.int (3 : Int32))])) _
        refine XS.icmpNo X157.here hx rfl (hb hby at_69) rfl (XT.ii_lt_f (by decide)) ?_
        show Steps p.tables e below (T157.setTop (mkF m 72 #[.val (.long vx), .second, .val (.long vy), .second, .val (.long vz), .second, .val (.long vu), .second, .val (.long vw), .second, .val (.int sel), .val (.int (3 : Int32)), .val (.long a), .second, .val (.long d), .second, .val (.long b), .second, .unset, .unset, .unset, .unset, .unset, .unset, .unset, .unset, .unset, .unset, .unset, .unset, .unset, .unset, .unset, .unset, .unset, .unset] [])) _
        refine XT.lload X157.here hx rfl (hb hby at_72) rfl ?_
        show Steps p.tables e below (T157.setTop (mkF m 74 #[.val (.long vx), .second, .val (.long vy), .second, .val (.long vz), .second, .val (.long vu), .second, .val (.long vw), .second, .val (.int sel), .val (.int (3 : Int32)), .val (.long a), .second, .val (.long d), .second, .val (.long b), .second, .unset, .unset, .unset, .unset, .unset, .unset, .unset, .unset, .unset, .unset, .unset, .unset, .unset, .unset, .unset, .unset, .unset, .unset] [(.long b)])) _
        refine XT.lload X157.here hx rfl (hb hby at_74) rfl ?_
        show Steps p.tables e below (T157.setTop (mkF m 76 #[.val (.long vx), .second, .val (.long vy), .second, .val (.long vz), .second, .val (.long vu), .second, .val (.long vw), .second, .val (.int sel), .val (.int (3 : Int32)), .val (.long a), .second, .val (.long d), .second, .val (.long b), .second, .unset, .unset, .unset, .unset, .unset, .unset, .unset, .unset, .unset, .unset, .unset, .unset, .unset, .unset, .unset, .unset, .unset, .unset] [(.long d), (.long b)])) _
        refine XT.lcmp X157.here hx rfl (hb hby at_76) rfl ?_
        show Steps p.tables e below (T157.setTop (mkF m 77 #[.val (.long vx), .second, .val (.long vy), .second, .val (.long vz), .second, .val (.long vu), .second, .val (.long vw), .second, .val (.int sel), .val (.int (3 : Int32)), .val (.long a), .second, .val (.long d), .second, .val (.long b), .second, .unset, .unset, .unset, .unset, .unset, .unset, .unset, .unset, .unset, .unset, .unset, .unset, .unset, .unset, .unset, .unset, .unset, .unset] [(.int (XT.cmpL b d))])) _
        refine XS.ifYes X157.here hx rfl (pc0 := 77) (pc' := 82) rfl (hb hby at_77) rfl (XT.ll_ne_t hbc) (by decide) (by decide) ?_
        show Steps p.tables e below (T157.setTop (mkF m 82 #[.val (.long vx), .second, .val (.long vy), .second, .val (.long vz), .second, .val (.long vu), .second, .val (.long vw), .second, .val (.int sel), .val (.int (3 : Int32)), .val (.long a), .second, .val (.long d), .second, .val (.long b), .second, .unset, .unset, .unset, .unset, .unset, .unset, .unset, .unset, .unset, .unset, .unset, .unset, .unset, .unset, .unset, .unset, .unset, .unset] [])) _
        refine st160 _ ?_
        show Steps p.tables e below (T160.setTop (mkF m 180 #[.val (.long vx), .second, .val (.long vy), .second, .val (.long vz), .second, .val (.long vu), .second, .val (.long vw), .second, .val (.int sel), .val (.int (3 : Int32)), .val (.long a), .second, .val (.long d), .second, .val (.long b), .second, .val (.int ((XT.ushr sel (2 : Int32)) &&& (3 : Int32))), .val (.int ((((XT.ushr sel (4 : Int32)) &&& (3 : Int32)) % (3 : Int32)) - (1 : Int32))), .val (.int ((XT.ushr sel (6 : Int32)) &&& (3 : Int32))), .val (.int ((((XT.ushr sel (8 : Int32)) &&& (3 : Int32)) % (3 : Int32)) - (1 : Int32))), .val (.long r1), .second, .val (.long r2), .second, .val (.long q1), .second, .val (.long q2), .second, .unset, .unset, .unset, .unset, .unset, .unset] [])) _
        refine st161 _ ?_
        show Steps p.tables e below (T161.setTop (mkF m 183 #[.val (.long vx), .second, .val (.long vy), .second, .val (.long vz), .second, .val (.long vu), .second, .val (.long vw), .second, .val (.int sel), .val (.int (3 : Int32)), .val (.long a), .second, .val (.long d), .second, .val (.long b), .second, .val (.int ((XT.ushr sel (2 : Int32)) &&& (3 : Int32))), .val (.int ((((XT.ushr sel (4 : Int32)) &&& (3 : Int32)) % (3 : Int32)) - (1 : Int32))), .val (.int ((XT.ushr sel (6 : Int32)) &&& (3 : Int32))), .val (.int ((((XT.ushr sel (8 : Int32)) &&& (3 : Int32)) % (3 : Int32)) - (1 : Int32))), .val (.long r1), .second, .val (.long r2), .second, .val (.long q1), .second, .val (.long q2), .second, .unset, .unset, .unset, .unset, .unset, .unset] [(.ref b161)])) _
        refine XS.dup X161.here hx rfl (hb hby at_183) rfl rfl ?_
        show Steps p.tables e below (T161.setTop (mkF m 184 #[.val (.long vx), .second, .val (.long vy), .second, .val (.long vz), .second, .val (.long vu), .second, .val (.long vw), .second, .val (.int sel), .val (.int (3 : Int32)), .val (.long a), .second, .val (.long d), .second, .val (.long b), .second, .val (.int ((XT.ushr sel (2 : Int32)) &&& (3 : Int32))), .val (.int ((((XT.ushr sel (4 : Int32)) &&& (3 : Int32)) % (3 : Int32)) - (1 : Int32))), .val (.int ((XT.ushr sel (6 : Int32)) &&& (3 : Int32))), .val (.int ((((XT.ushr sel (8 : Int32)) &&& (3 : Int32)) % (3 : Int32)) - (1 : Int32))), .val (.long r1), .second, .val (.long r2), .second, .val (.long q1), .second, .val (.long q2), .second, .unset, .unset, .unset, .unset, .unset, .unset] [(.ref b161), (.ref b161)])) _
        refine st162.trans ?_
        show Steps p.tables e below (T162.setTop (mkF m 187 #[.val (.long vx), .second, .val (.long vy), .second, .val (.long vz), .second, .val (.long vu), .second, .val (.long vw), .second, .val (.int sel), .val (.int (3 : Int32)), .val (.long a), .second, .val (.long d), .second, .val (.long b), .second, .val (.int ((XT.ushr sel (2 : Int32)) &&& (3 : Int32))), .val (.int ((((XT.ushr sel (4 : Int32)) &&& (3 : Int32)) % (3 : Int32)) - (1 : Int32))), .val (.int ((XT.ushr sel (6 : Int32)) &&& (3 : Int32))), .val (.int ((((XT.ushr sel (8 : Int32)) &&& (3 : Int32)) % (3 : Int32)) - (1 : Int32))), .val (.long r1), .second, .val (.long r2), .second, .val (.long q1), .second, .val (.long q2), .second, .unset, .unset, .unset, .unset, .unset, .unset] [(.ref b161)])) _
        refine XS.astore X162.here hx rfl (hb hby at_187) rfl rfl (l' := #[.val (.long vx), .second, .val (.long vy), .second, .val (.long vz), .second, .val (.long vu), .second, .val (.long vw), .second, .val (.int sel), .val (.int (3 : Int32)), .val (.long a), .second, .val (.long d), .second, .val (.long b), .second, .val (.int ((XT.ushr sel (2 : Int32)) &&& (3 : Int32))), .val (.int ((((XT.ushr sel (4 : Int32)) &&& (3 : Int32)) % (3 : Int32)) - (1 : Int32))), .val (.int ((XT.ushr sel (6 : Int32)) &&& (3 : Int32))), .val (.int ((((XT.ushr sel (8 : Int32)) &&& (3 : Int32)) % (3 : Int32)) - (1 : Int32))), .val (.long r1), .second, .val (.long r2), .second, .val (.long q1), .second, .val (.long q2), .second, .val (.ref b161), .unset, .unset, .unset, .unset, .unset]) rfl ?_
        show Steps p.tables e below (T162.setTop (mkF m 189 #[.val (.long vx), .second, .val (.long vy), .second, .val (.long vz), .second, .val (.long vu), .second, .val (.long vw), .second, .val (.int sel), .val (.int (3 : Int32)), .val (.long a), .second, .val (.long d), .second, .val (.long b), .second, .val (.int ((XT.ushr sel (2 : Int32)) &&& (3 : Int32))), .val (.int ((((XT.ushr sel (4 : Int32)) &&& (3 : Int32)) % (3 : Int32)) - (1 : Int32))), .val (.int ((XT.ushr sel (6 : Int32)) &&& (3 : Int32))), .val (.int ((((XT.ushr sel (8 : Int32)) &&& (3 : Int32)) % (3 : Int32)) - (1 : Int32))), .val (.long r1), .second, .val (.long r2), .second, .val (.long q1), .second, .val (.long q2), .second, .val (.ref b161), .unset, .unset, .unset, .unset, .unset] [])) _
        refine XS.iload X162.here hx rfl (hb hby at_189) rfl ?_
        show Steps p.tables e below (T162.setTop (mkF m 191 #[.val (.long vx), .second, .val (.long vy), .second, .val (.long vz), .second, .val (.long vu), .second, .val (.long vw), .second, .val (.int sel), .val (.int (3 : Int32)), .val (.long a), .second, .val (.long d), .second, .val (.long b), .second, .val (.int ((XT.ushr sel (2 : Int32)) &&& (3 : Int32))), .val (.int ((((XT.ushr sel (4 : Int32)) &&& (3 : Int32)) % (3 : Int32)) - (1 : Int32))), .val (.int ((XT.ushr sel (6 : Int32)) &&& (3 : Int32))), .val (.int ((((XT.ushr sel (8 : Int32)) &&& (3 : Int32)) % (3 : Int32)) - (1 : Int32))), .val (.long r1), .second, .val (.long r2), .second, .val (.long q1), .second, .val (.long q2), .second, .val (.ref b161), .unset, .unset, .unset, .unset, .unset] [(.int (3 : Int32))])) _
        refine XS.ifNo X162.here hx rfl (hb hby at_191) rfl (XT.i0_le_f (by decide)) ?_
        show Steps p.tables e below (T162.setTop (mkF m 194 #[.val (.long vx), .second, .val (.long vy), .second, .val (.long vz), .second, .val (.long vu), .second, .val (.long vw), .second, .val (.int sel), .val (.int (3 : Int32)), .val (.long a), .second, .val (.long d), .second, .val (.long b), .second, .val (.int ((XT.ushr sel (2 : Int32)) &&& (3 : Int32))), .val (.int ((((XT.ushr sel (4 : Int32)) &&& (3 : Int32)) % (3 : Int32)) - (1 : Int32))), .val (.int ((XT.ushr sel (6 : Int32)) &&& (3 : Int32))), .val (.int ((((XT.ushr sel (8 : Int32)) &&& (3 : Int32)) % (3 : Int32)) - (1 : Int32))), .val (.long r1), .second, .val (.long r2), .second, .val (.long q1), .second, .val (.long q2), .second, .val (.ref b161), .unset, .unset, .unset, .unset, .unset] [])) _
        refine XS.aload X162.here hx rfl (hb hby at_194) rfl rfl ?_
        show Steps p.tables e below (T162.setTop (mkF m 196 #[.val (.long vx), .second, .val (.long vy), .second, .val (.long vz), .second, .val (.long vu), .second, .val (.long vw), .second, .val (.int sel), .val (.int (3 : Int32)), .val (.long a), .second, .val (.long d), .second, .val (.long b), .second, .val (.int ((XT.ushr sel (2 : Int32)) &&& (3 : Int32))), .val (.int ((((XT.ushr sel (4 : Int32)) &&& (3 : Int32)) % (3 : Int32)) - (1 : Int32))), .val (.int ((XT.ushr sel (6 : Int32)) &&& (3 : Int32))), .val (.int ((((XT.ushr sel (8 : Int32)) &&& (3 : Int32)) % (3 : Int32)) - (1 : Int32))), .val (.long r1), .second, .val (.long r2), .second, .val (.long q1), .second, .val (.long q2), .second, .val (.ref b161), .unset, .unset, .unset, .unset, .unset] [(.ref b161)])) _
        refine XT.lload X162.here hx rfl (hb hby at_196) rfl ?_
        show Steps p.tables e below (T162.setTop (mkF m 198 #[.val (.long vx), .second, .val (.long vy), .second, .val (.long vz), .second, .val (.long vu), .second, .val (.long vw), .second, .val (.int sel), .val (.int (3 : Int32)), .val (.long a), .second, .val (.long d), .second, .val (.long b), .second, .val (.int ((XT.ushr sel (2 : Int32)) &&& (3 : Int32))), .val (.int ((((XT.ushr sel (4 : Int32)) &&& (3 : Int32)) % (3 : Int32)) - (1 : Int32))), .val (.int ((XT.ushr sel (6 : Int32)) &&& (3 : Int32))), .val (.int ((((XT.ushr sel (8 : Int32)) &&& (3 : Int32)) % (3 : Int32)) - (1 : Int32))), .val (.long r1), .second, .val (.long r2), .second, .val (.long q1), .second, .val (.long q2), .second, .val (.ref b161), .unset, .unset, .unset, .unset, .unset] [(.long a), (.ref b161)])) _
        refine own_dconst1 X162.here hx rfl (hb hby at_198) ?_
        show Steps p.tables e below (T162.setTop (mkF m 199 #[.val (.long vx), .second, .val (.long vy), .second, .val (.long vz), .second, .val (.long vu), .second, .val (.long vw), .second, .val (.int sel), .val (.int (3 : Int32)), .val (.long a), .second, .val (.long d), .second, .val (.long b), .second, .val (.int ((XT.ushr sel (2 : Int32)) &&& (3 : Int32))), .val (.int ((((XT.ushr sel (4 : Int32)) &&& (3 : Int32)) % (3 : Int32)) - (1 : Int32))), .val (.int ((XT.ushr sel (6 : Int32)) &&& (3 : Int32))), .val (.int ((((XT.ushr sel (8 : Int32)) &&& (3 : Int32)) % (3 : Int32)) - (1 : Int32))), .val (.long r1), .second, .val (.long r2), .second, .val (.long q1), .second, .val (.long q2), .second, .val (.ref b161), .unset, .unset, .unset, .unset, .unset] [(.double FP.dconst1), (.long a), (.ref b161)])) _
        refine st163.trans ?_
        show Steps p.tables e below (T163.setTop (mkF m 202 #[.val (.long vx), .second, .val (.long vy), .second, .val (.long vz), .second, .val (.long vu), .second, .val (.long vw), .second, .val (.int sel), .val (.int (3 : Int32)), .val (.long a), .second, .val (.long d), .second, .val (.long b), .second, .val (.int ((XT.ushr sel (2 : Int32)) &&& (3 : Int32))), .val (.int ((((XT.ushr sel (4 : Int32)) &&& (3 : Int32)) % (3 : Int32)) - (1 : Int32))), .val (.int ((XT.ushr sel (6 : Int32)) &&& (3 : Int32))), .val (.int ((((XT.ushr sel (8 : Int32)) &&& (3 : Int32)) % (3 : Int32)) - (1 : Int32))), .val (.long r1), .second, .val (.long r2), .second, .val (.long q1), .second, .val (.long q2), .second, .val (.ref b161), .unset, .unset, .unset, .unset, .unset] [])) _
        refine XS.iload X163.here hx rfl (hb hby at_202) rfl ?_
        show Steps p.tables e below (T163.setTop (mkF m 204 #[.val (.long vx), .second, .val (.long vy), .second, .val (.long vz), .second, .val (.long vu), .second, .val (.long vw), .second, .val (.int sel), .val (.int (3 : Int32)), .val (.long a), .second, .val (.long d), .second, .val (.long b), .second, .val (.int ((XT.ushr sel (2 : Int32)) &&& (3 : Int32))), .val (.int ((((XT.ushr sel (4 : Int32)) &&& (3 : Int32)) % (3 : Int32)) - (1 : Int32))), .val (.int ((XT.ushr sel (6 : Int32)) &&& (3 : Int32))), .val (.int ((((XT.ushr sel (8 : Int32)) &&& (3 : Int32)) % (3 : Int32)) - (1 : Int32))), .val (.long r1), .second, .val (.long r2), .second, .val (.long q1), .second, .val (.long q2), .second, .val (.ref b161), .unset, .unset, .unset, .unset, .unset] [(.int (3 : Int32))])) _
        refine XS.iconst X163.here hx rfl (hb hby at_204) ?_
        show Steps p.tables e below (T163.setTop (mkF m 205 #[.val (.long vx), .second, .val (.long vy), .second, .val (.long vz), .second, .val (.long vu), .second, .val (.long vw), .second, .val (.int sel), .val (.int (3 : Int32)), .val (.long a), .second, .val (.long d), .second, .val (.long b), .second, .val (.int ((XT.ushr sel (2 : Int32)) &&& (3 : Int32))), .val (.int ((((XT.ushr sel (4 : Int32)) &&& (3 : Int32)) % (3 : Int32)) - (1 : Int32))), .val (.int ((XT.ushr sel (6 : Int32)) &&& (3 : Int32))), .val (.int ((((XT.ushr sel (8 : Int32)) &&& (3 : Int32)) % (3 : Int32)) - (1 : Int32))), .val (.long r1), .second, .val (.long r2), .second, .val (.long q1), .second, .val (.long q2), .second, .val (.ref b161), .unset, .unset, .unset, .unset, .unset] [(.int (1 : Int32)), (.int (3 : Int32))])) _
        refine XS.icmpNo X163.here hx rfl (hb hby at_205) rfl (XT.ii_le_f (by decide)) ?_
        show Steps p.tables e below (T163.setTop (mkF m 208 #[.val (.long vx), .second, .val (.long vy), .second, .val (.long vz), .second, .val (.long vu), .second, .val (.long vw), .second, .val (.int sel), .val (.int (3 : Int32)), .val (.long a), .second, .val (.long d), .second, .val (.long b), .second, .val (.int ((XT.ushr sel (2 : Int32)) &&& (3 : Int32))), .val (.int ((((XT.ushr sel (4 : Int32)) &&& (3 : Int32)) % (3 : Int32)) - (1 : Int32))), .val (.int ((XT.ushr sel (6 : Int32)) &&& (3 : Int32))), .val (.int ((((XT.ushr sel (8 : Int32)) &&& (3 : Int32)) % (3 : Int32)) - (1 : Int32))), .val (.long r1), .second, .val (.long r2), .second, .val (.long q1), .second, .val (.long q2), .second, .val (.ref b161), .unset, .unset, .unset, .unset, .unset] [])) _
        refine XS.aload X163.here hx rfl (hb hby at_208) rfl rfl ?_
        show Steps p.tables e below (T163.setTop (mkF m 210 #[.val (.long vx), .second, .val (.long vy), .second, .val (.long vz), .second, .val (.long vu), .second, .val (.long vw), .second, .val (.int sel), .val (.int (3 : Int32)), .val (.long a), .second, .val (.long d), .second, .val (.long b), .second, .val (.int ((XT.ushr sel (2 : Int32)) &&& (3 : Int32))), .val (.int ((((XT.ushr sel (4 : Int32)) &&& (3 : Int32)) % (3 : Int32)) - (1 : Int32))), .val (.int ((XT.ushr sel (6 : Int32)) &&& (3 : Int32))), .val (.int ((((XT.ushr sel (8 : Int32)) &&& (3 : Int32)) % (3 : Int32)) - (1 : Int32))), .val (.long r1), .second, .val (.long r2), .second, .val (.long q1), .second, .val (.long q2), .second, .val (.ref b161), .unset, .unset, .unset, .unset, .unset] [(.ref b161)])) _
        refine XT.lload X163.here hx rfl (hb hby at_210) rfl ?_
        show Steps p.tables e below (T163.setTop (mkF m 212 #[.val (.long vx), .second, .val (.long vy), .second, .val (.long vz), .second, .val (.long vu), .second, .val (.long vw), .second, .val (.int sel), .val (.int (3 : Int32)), .val (.long a), .second, .val (.long d), .second, .val (.long b), .second, .val (.int ((XT.ushr sel (2 : Int32)) &&& (3 : Int32))), .val (.int ((((XT.ushr sel (4 : Int32)) &&& (3 : Int32)) % (3 : Int32)) - (1 : Int32))), .val (.int ((XT.ushr sel (6 : Int32)) &&& (3 : Int32))), .val (.int ((((XT.ushr sel (8 : Int32)) &&& (3 : Int32)) % (3 : Int32)) - (1 : Int32))), .val (.long r1), .second, .val (.long r2), .second, .val (.long q1), .second, .val (.long q2), .second, .val (.ref b161), .unset, .unset, .unset, .unset, .unset] [(.long b), (.ref b161)])) _
        refine Jvm.Stand.ldc2DoubleC X163 hx hown (mvT hZ (hw _ (List.mem_of_getElem? (i := 44) rfl))) (g := (mkF m 212 #[.val (.long vx), .second, .val (.long vy), .second, .val (.long vz), .second, .val (.long vu), .second, .val (.long vw), .second, .val (.int sel), .val (.int (3 : Int32)), .val (.long a), .second, .val (.long d), .second, .val (.long b), .second, .val (.int ((XT.ushr sel (2 : Int32)) &&& (3 : Int32))), .val (.int ((((XT.ushr sel (4 : Int32)) &&& (3 : Int32)) % (3 : Int32)) - (1 : Int32))), .val (.int ((XT.ushr sel (6 : Int32)) &&& (3 : Int32))), .val (.int ((((XT.ushr sel (8 : Int32)) &&& (3 : Int32)) % (3 : Int32)) - (1 : Int32))), .val (.long r1), .second, .val (.long r2), .second, .val (.long q1), .second, .val (.long q2), .second, .val (.ref b161), .unset, .unset, .unset, .unset, .unset] [(.long b), (.ref b161)])) rfl (hb hby at_212) _ ?_
        show Steps p.tables e below (T163.setTop (mkF m 215 #[.val (.long vx), .second, .val (.long vy), .second, .val (.long vz), .second, .val (.long vu), .second, .val (.long vw), .second, .val (.int sel), .val (.int (3 : Int32)), .val (.long a), .second, .val (.long d), .second, .val (.long b), .second, .val (.int ((XT.ushr sel (2 : Int32)) &&& (3 : Int32))), .val (.int ((((XT.ushr sel (4 : Int32)) &&& (3 : Int32)) % (3 : Int32)) - (1 : Int32))), .val (.int ((XT.ushr sel (6 : Int32)) &&& (3 : Int32))), .val (.int ((((XT.ushr sel (8 : Int32)) &&& (3 : Int32)) % (3 : Int32)) - (1 : Int32))), .val (.long r1), .second, .val (.long r2), .second, .val (.long q1), .second, .val (.long q2), .second, .val (.ref b161), .unset, .unset, .unset, .unset, .unset] [(.double (4611686018427387904 : UInt64)), (.long b), (.ref b161)])) _
        refine st164.trans ?_
        show Steps p.tables e below (T164.setTop (mkF m 218 #[.val (.long vx), .second, .val (.long vy), .second, .val (.long vz), .second, .val (.long vu), .second, .val (.long vw), .second, .val (.int sel), .val (.int (3 : Int32)), .val (.long a), .second, .val (.long d), .second, .val (.long b), .second, .val (.int ((XT.ushr sel (2 : Int32)) &&& (3 : Int32))), .val (.int ((((XT.ushr sel (4 : Int32)) &&& (3 : Int32)) % (3 : Int32)) - (1 : Int32))), .val (.int ((XT.ushr sel (6 : Int32)) &&& (3 : Int32))), .val (.int ((((XT.ushr sel (8 : Int32)) &&& (3 : Int32)) % (3 : Int32)) - (1 : Int32))), .val (.long r1), .second, .val (.long r2), .second, .val (.long q1), .second, .val (.long q2), .second, .val (.ref b161), .unset, .unset, .unset, .unset, .unset] [])) _
        refine XS.iload X164.here hx rfl (hb hby at_218) rfl ?_
        show Steps p.tables e below (T164.setTop (mkF m 220 #[.val (.long vx), .second, .val (.long vy), .second, .val (.long vz), .second, .val (.long vu), .second, .val (.long vw), .second, .val (.int sel), .val (.int (3 : Int32)), .val (.long a), .second, .val (.long d), .second, .val (.long b), .second, .val (.int ((XT.ushr sel (2 : Int32)) &&& (3 : Int32))), .val (.int ((((XT.ushr sel (4 : Int32)) &&& (3 : Int32)) % (3 : Int32)) - (1 : Int32))), .val (.int ((XT.ushr sel (6 : Int32)) &&& (3 : Int32))), .val (.int ((((XT.ushr sel (8 : Int32)) &&& (3 : Int32)) % (3 : Int32)) - (1 : Int32))), .val (.long r1), .second, .val (.long r2), .second, .val (.long q1), .second, .val (.long q2), .second, .val (.ref b161), .unset, .unset, .unset, .unset, .unset] [(.int (3 : Int32))])) _
        refine XS.iconst X164.here hx rfl (hb hby at_220) ?_
        show Steps p.tables e below (T164.setTop (mkF m 221 #[.val (.long vx), .second, .val (.long vy), .second, .val (.long vz), .second, .val (.long vu), .second, .val (.long vw), .second, .val (.int sel), .val (.int (3 : Int32)), .val (.long a), .second, .val (.long d), .second, .val (.long b), .second, .val (.int ((XT.ushr sel (2 : Int32)) &&& (3 : Int32))), .val (.int ((((XT.ushr sel (4 : Int32)) &&& (3 : Int32)) % (3 : Int32)) - (1 : Int32))), .val (.int ((XT.ushr sel (6 : Int32)) &&& (3 : Int32))), .val (.int ((((XT.ushr sel (8 : Int32)) &&& (3 : Int32)) % (3 : Int32)) - (1 : Int32))), .val (.long r1), .second, .val (.long r2), .second, .val (.long q1), .second, .val (.long q2), .second, .val (.ref b161), .unset, .unset, .unset, .unset, .unset] [(.int (2 : Int32)), (.int (3 : Int32))])) _
        refine XS.icmpNo X164.here hx rfl (hb hby at_221) rfl (XT.ii_le_f (by decide)) ?_
        show Steps p.tables e below (T164.setTop (mkF m 224 #[.val (.long vx), .second, .val (.long vy), .second, .val (.long vz), .second, .val (.long vu), .second, .val (.long vw), .second, .val (.int sel), .val (.int (3 : Int32)), .val (.long a), .second, .val (.long d), .second, .val (.long b), .second, .val (.int ((XT.ushr sel (2 : Int32)) &&& (3 : Int32))), .val (.int ((((XT.ushr sel (4 : Int32)) &&& (3 : Int32)) % (3 : Int32)) - (1 : Int32))), .val (.int ((XT.ushr sel (6 : Int32)) &&& (3 : Int32))), .val (.int ((((XT.ushr sel (8 : Int32)) &&& (3 : Int32)) % (3 : Int32)) - (1 : Int32))), .val (.long r1), .second, .val (.long r2), .second, .val (.long q1), .second, .val (.long q2), .second, .val (.ref b161), .unset, .unset, .unset, .unset, .unset] [])) _
        refine XS.aload X164.here hx rfl (hb hby at_224) rfl rfl ?_
        show Steps p.tables e below (T164.setTop (mkF m 226 #[.val (.long vx), .second, .val (.long vy), .second, .val (.long vz), .second, .val (.long vu), .second, .val (.long vw), .second, .val (.int sel), .val (.int (3 : Int32)), .val (.long a), .second, .val (.long d), .second, .val (.long b), .second, .val (.int ((XT.ushr sel (2 : Int32)) &&& (3 : Int32))), .val (.int ((((XT.ushr sel (4 : Int32)) &&& (3 : Int32)) % (3 : Int32)) - (1 : Int32))), .val (.int ((XT.ushr sel (6 : Int32)) &&& (3 : Int32))), .val (.int ((((XT.ushr sel (8 : Int32)) &&& (3 : Int32)) % (3 : Int32)) - (1 : Int32))), .val (.long r1), .second, .val (.long r2), .second, .val (.long q1), .second, .val (.long q2), .second, .val (.ref b161), .unset, .unset, .unset, .unset, .unset] [(.ref b161)])) _
        refine XT.lload X164.here hx rfl (hb hby at_226) rfl ?_
        show Steps p.tables e below (T164.setTop (mkF m 228 #[.val (.long vx), .second, .val (.long vy), .second, .val (.long vz), .second, .val (.long vu), .second, .val (.long vw), .second, .val (.int sel), .val (.int (3 : Int32)), .val (.long a), .second, .val (.long d), .second, .val (.long b), .second, .val (.int ((XT.ushr sel (2 : Int32)) &&& (3 : Int32))), .val (.int ((((XT.ushr sel (4 : Int32)) &&& (3 : Int32)) % (3 : Int32)) - (1 : Int32))), .val (.int ((XT.ushr sel (6 : Int32)) &&& (3 : Int32))), .val (.int ((((XT.ushr sel (8 : Int32)) &&& (3 : Int32)) % (3 : Int32)) - (1 : Int32))), .val (.long r1), .second, .val (.long r2), .second, .val (.long q1), .second, .val (.long q2), .second, .val (.ref b161), .unset, .unset, .unset, .unset, .unset] [(.long d), (.ref b161)])) _
        refine Jvm.Stand.ldc2DoubleC X164 hx hown (mvT hZ (hw _ (List.mem_of_getElem? (i := 70) rfl))) (g := (mkF m 228 #[.val (.long vx), .second, .val (.long vy), .second, .val (.long vz), .second, .val (.long vu), .second, .val (.long vw), .second, .val (.int sel), .val (.int (3 : Int32)), .val (.long a), .second, .val (.long d), .second, .val (.long b), .second, .val (.int ((XT.ushr sel (2 : Int32)) &&& (3 : Int32))), .val (.int ((((XT.ushr sel (4 : Int32)) &&& (3 : Int32)) % (3 : Int32)) - (1 : Int32))), .val (.int ((XT.ushr sel (6 : Int32)) &&& (3 : Int32))), .val (.int ((((XT.ushr sel (8 : Int32)) &&& (3 : Int32)) % (3 : Int32)) - (1 : Int32))), .val (.long r1), .second, .val (.long r2), .second, .val (.long q1), .second, .val (.long q2), .second, .val (.ref b161), .unset, .unset, .unset, .unset, .unset] [(.long d), (.ref b161)])) rfl (hb hby at_228) _ ?_
        show Steps p.tables e below (T164.setTop (mkF m 231 #[.val (.long vx), .second, .val (.long vy), .second, .val (.long vz), .second, .val (.long vu), .second, .val (.long vw), .second, .val (.int sel), .val (.int (3 : Int32)), .val (.long a), .second, .val (.long d), .second, .val (.long b), .second, .val (.int ((XT.ushr sel (2 : Int32)) &&& (3 : Int32))), .val (.int ((((XT.ushr sel (4 : Int32)) &&& (3 : Int32)) % (3 : Int32)) - (1 : Int32))), .val (.int ((XT.ushr sel (6 : Int32)) &&& (3 : Int32))), .val (.int ((((XT.ushr sel (8 : Int32)) &&& (3 : Int32)) % (3 : Int32)) - (1 : Int32))), .val (.long r1), .second, .val (.long r2), .second, .val (.long q1), .second, .val (.long q2), .second, .val (.ref b161), .unset, .unset, .unset, .unset, .unset] [(.double (4613937818241073152 : UInt64)), (.long d), (.ref b161)])) _
        refine st165.trans ?_
        show Steps p.tables e below (T165.setTop (mkF m 234 #[.val (.long vx), .second, .val (.long vy), .second, .val (.long vz), .second, .val (.long vu), .second, .val (.long vw), .second, .val (.int sel), .val (.int (3 : Int32)), .val (.long a), .second, .val (.long d), .second, .val (.long b), .second, .val (.int ((XT.ushr sel (2 : Int32)) &&& (3 : Int32))), .val (.int ((((XT.ushr sel (4 : Int32)) &&& (3 : Int32)) % (3 : Int32)) - (1 : Int32))), .val (.int ((XT.ushr sel (6 : Int32)) &&& (3 : Int32))), .val (.int ((((XT.ushr sel (8 : Int32)) &&& (3 : Int32)) % (3 : Int32)) - (1 : Int32))), .val (.long r1), .second, .val (.long r2), .second, .val (.long q1), .second, .val (.long q2), .second, .val (.ref b161), .unset, .unset, .unset, .unset, .unset] [])) _
        refine st166 _ ?_
        show Steps p.tables e below (T166.setTop (mkF m 374 #[.val (.long vx), .second, .val (.long vy), .second, .val (.long vz), .second, .val (.long vu), .second, .val (.long vw), .second, .val (.int sel), .val (.int (3 : Nat).toInt32), .val (.long a), .second, .val (.long d), .second, .val (.long b), .second, .val (.int ((XT.ushr sel (2 : Int32)) &&& (3 : Int32))), .val (.int ((((XT.ushr sel (4 : Int32)) &&& (3 : Int32)) % (3 : Int32)) - (1 : Int32))), .val (.int ((XT.ushr sel (6 : Int32)) &&& (3 : Int32))), .val (.int ((((XT.ushr sel (8 : Int32)) &&& (3 : Int32)) % (3 : Int32)) - (1 : Int32))), .val (.long r1), .second, .val (.long r2), .second, .val (.long q1), .second, .val (.long q2), .second, .val (.ref b161), y31_166, y32_166, y33_166, y34_166, y35_166] [])) _
        refine XS.iconst X166.here hx rfl (hb hby at_374) ?_
        show Steps p.tables e below (T166.setTop (mkF m 375 #[.val (.long vx), .second, .val (.long vy), .second, .val (.long vz), .second, .val (.long vu), .second, .val (.long vw), .second, .val (.int sel), .val (.int (3 : Nat).toInt32), .val (.long a), .second, .val (.long d), .second, .val (.long b), .second, .val (.int ((XT.ushr sel (2 : Int32)) &&& (3 : Int32))), .val (.int ((((XT.ushr sel (4 : Int32)) &&& (3 : Int32)) % (3 : Int32)) - (1 : Int32))), .val (.int ((XT.ushr sel (6 : Int32)) &&& (3 : Int32))), .val (.int ((((XT.ushr sel (8 : Int32)) &&& (3 : Int32)) % (3 : Int32)) - (1 : Int32))), .val (.long r1), .second, .val (.long r2), .second, .val (.long q1), .second, .val (.long q2), .second, .val (.ref b161), y31_166, y32_166, y33_166, y34_166, y35_166] [(.int (1 : Int32))])) _
        exact retN X166 hx (t := .boolean) Bd.returns (by simp) (hb hby at_375) hr
      · show Q_own_law3 Z vx vy vz vu vw sel a b d r1 r2 q1 q2 h0 n0 _ T166.heap _
        rw [e166]
        exact ⟨rfl, N166⟩
set_option maxRecDepth 65536 in
set_option maxHeartbeats 40000000 in
theorem comes_1 {Post : Tables → Env → Array Value → State → Outcome → State → Prop} (hpost : ∀ tb e args s v u, (limb_1_1.after args s (.returned v) u = true ∧ limb_1_2.after args s (.returned v) u = true ∧ True) → FrameEnd s (.returned v) u (Jvm.fieldLocs frame_1_writes args s ++ Jvm.arrayLocs frame_1_arrays args s ++ Jvm.staticLocs frame_1_statics s) 24 128 → Post tb e args s (.returned v) u) :
    ArmFor flags0 classFile x code maxLocals ret World_1 tables_1 room_1 Calls_1 rest_1 Pre_1 Post := by
  intro l hfl _ _ p e ha hc hk s m args below hf hA hF happ hP
  obtain ⟨hcalls, hrest, hpre⟩ := hP
  obtain ⟨-, -, -, hnamed, -, -, -, hat⟩ := (Spec.applies_iff hf).mp happ
  obtain ⟨hg, hn⟩ := and_e (Cond.before_iff.mp (show (Jvm.Cond.and given_1 narrow_1).before args s = true from hpre))
  obtain ⟨hcount, hq0⟩ := and_e hg
  obtain ⟨ha0, hq1⟩ := and_e hq0
  obtain ⟨ha1, hq2⟩ := and_e hq1
  obtain ⟨ha2, hq3⟩ := and_e hq2
  obtain ⟨ha3, hq4⟩ := and_e hq3
  obtain ⟨ha4, hq5⟩ := and_e hq4
  have ha5 := hq5
  obtain ⟨w0, w1, w2, w3, w4, w5, rfl⟩ : ∃ w0 w1 w2 w3 w4 w5 : Value, args = #[w0, w1, w2, w3, w4, w5] := by
    have hs : args.size = 6 := by simpa [Cond.value, given_1] using hcount
    obtain ⟨L⟩ := args
    match L, hs with
    | [w0, w1, w2, w3, w4, w5], _ => exact ⟨w0, w1, w2, w3, w4, w5, rfl⟩
  have hw := fun d (hd : d ∈ tables_1) => atoms_spec (ws := Jvm.Cond.code x code maxLocals ret :: tables_1) hat d (List.mem_cons_of_mem _ hd)
  have hfit : Fit s := fun {y c} hc i hi => by
    obtain ⟨ha, rfl⟩ := Array.getElem?_eq_some_iff.mp hc
    have q := List.all_eq_true.mp ((Array.all_eq_true_iff_forall_mem.mp hF) _ (Array.getElem_mem ha)) i (List.mem_range.mpr hi)
    simpa [Array.getElem?_eq_getElem hi] using q
  obtain ⟨i0, ei0⟩ := isL_v ha0
  obtain rfl : w0 = (.long i0) := Option.some.inj ei0
  obtain ⟨i1, ei1⟩ := isL_v ha1
  obtain rfl : w1 = (.long i1) := Option.some.inj ei1
  obtain ⟨i2, ei2⟩ := isL_v ha2
  obtain rfl : w2 = (.long i2) := Option.some.inj ei2
  obtain ⟨i3, ei3⟩ := isL_v ha3
  obtain rfl : w3 = (.long i3) := Option.some.inj ei3
  obtain ⟨i4, ei4⟩ := isL_v ha4
  obtain rfl : w4 = (.long i4) := Option.some.inj ei4
  obtain ⟨i5, ei5⟩ := is_v ha5
  obtain rfl : w5 = (.int i5) := Option.some.inj ei5
  have hs := own_srt i0 i1 i2
  rcases own_four i5 with hn_ | hn_ | hn_ | hn_
  · obtain ⟨n, o, h1, h2, h3, _, L, rfl, ⟨rfl, N⟩, hq⟩ := own_law0 l s _ hw tables_1 i0 i1 i2 i3 i4 i5 _ _ _ _ _ _ _ s.heap s.heap.size (Nat.le_refl _) hn_ rfl rfl rfl rfl rfl rfl rfl hs.1 hs.2 (own_mm _ _) p e ha hc hk s m _ below hf ((Spec.applies_iff_loose hf).mp happ).1 ⟨rfl, State.Warmed39.refl s, rfl⟩ trivial
    refine ⟨n, _, h1, h2, h3, hpost _ _ _ _ _ _ ⟨Cond.after_iff.mpr rfl, Cond.after_iff.mpr (eq_i res_at (Term.int_eval (1)) rfl), trivial⟩ ⟨hq.1, hq.2.1, (hq.2.2.sift fun y hy => Or.inr (N y hy)).mono (by decide) (by decide)⟩⟩
  · obtain ⟨n, o, h1, h2, h3, _, L, rfl, ⟨rfl, N⟩, hq⟩ := own_law1 l s _ hw tables_1 i0 i1 i2 i3 i4 i5 _ _ _ _ _ _ _ s.heap s.heap.size (Nat.le_refl _) hn_ rfl rfl rfl rfl rfl rfl rfl hs.1 hs.2 (own_mm _ _) p e ha hc hk s m _ below hf ((Spec.applies_iff_loose hf).mp happ).1 ⟨rfl, State.Warmed39.refl s, rfl⟩ trivial
    refine ⟨n, _, h1, h2, h3, hpost _ _ _ _ _ _ ⟨Cond.after_iff.mpr rfl, Cond.after_iff.mpr (eq_i res_at (Term.int_eval (1)) rfl), trivial⟩ ⟨hq.1, hq.2.1, (hq.2.2.sift fun y hy => Or.inr (N y hy)).mono (by decide) (by decide)⟩⟩
  · obtain ⟨n, o, h1, h2, h3, _, L, rfl, ⟨rfl, N⟩, hq⟩ := own_law2 l s _ hw tables_1 i0 i1 i2 i3 i4 i5 _ _ _ _ _ _ _ s.heap s.heap.size (Nat.le_refl _) hn_ rfl rfl rfl rfl rfl rfl rfl hs.1 hs.2 (own_mm _ _) p e ha hc hk s m _ below hf ((Spec.applies_iff_loose hf).mp happ).1 ⟨rfl, State.Warmed39.refl s, rfl⟩ trivial
    refine ⟨n, _, h1, h2, h3, hpost _ _ _ _ _ _ ⟨Cond.after_iff.mpr rfl, Cond.after_iff.mpr (eq_i res_at (Term.int_eval (1)) rfl), trivial⟩ ⟨hq.1, hq.2.1, (hq.2.2.sift fun y hy => Or.inr (N y hy)).mono (by decide) (by decide)⟩⟩
  · obtain ⟨n, o, h1, h2, h3, _, L, rfl, ⟨rfl, N⟩, hq⟩ := own_law3 l s _ hw tables_1 i0 i1 i2 i3 i4 i5 _ _ _ _ _ _ _ s.heap s.heap.size (Nat.le_refl _) hn_ rfl rfl rfl rfl rfl rfl rfl hs.1 hs.2 (own_mm _ _) p e ha hc hk s m _ below hf ((Spec.applies_iff_loose hf).mp happ).1 ⟨rfl, State.Warmed39.refl s, rfl⟩ trivial
    refine ⟨n, _, h1, h2, h3, hpost _ _ _ _ _ _ ⟨Cond.after_iff.mpr rfl, Cond.after_iff.mpr (eq_i res_at (Term.int_eval (1)) rfl), trivial⟩ ⟨hq.1, hq.2.1, (hq.2.2.sift fun y hy => Or.inr (N y hy)).mono (by decide) (by decide)⟩⟩
theorem main_1_1 : Claimed_1_1 := comes_1 fun _ _ _ _ _ _ h hF => ⟨h.1, hF⟩
theorem main_1_2 : Claimed_1_2 := comes_1 fun _ _ _ _ _ _ h hF => ⟨h.2.1, hF⟩
end Jvm.Pilot.@@N@@
namespace Jvm.Pilot.@@N@@
open Jvm Jvm.ClassFile Sem Op Lib Jvm.Free Jvm.Stand Jvm.Pilot.@@N@@.Jvm.D
/-! MADE BY PROGRAM (witnessworld.py) out of the Statement's table words and the real class files: 16 classes; the members and pool entries that the words name. The judged class is class 1, her method 3. -/
namespace start1
open Jvm.ClassFile
def u (s : String) : CpInfo := .utf8 (stringToUtf16 s)
/-- a pool by its gaps: so many unusable entries, then the entry; so many at the end -/
def gap : Nat → List CpInfo → List CpInfo
  | 0, r => r
  | n + 1, r => .unusable :: gap n r
def poolList (es : List (Nat × CpInfo)) (last : Nat) : List CpInfo := es.foldr (fun e r => gap e.1 (e.2 :: r)) (gap last [])
def pool (es : List (Nat × CpInfo)) (last : Nat) : Array CpInfo := ⟨poolList es last⟩
def fileOf (pool : Array CpInfo) (this : Nat) (attrs : Array Attribute := #[]) (ms : Array MethodInfo := #[]) (fl : Nat := 33) (sup : Nat := 0) (ifs : Array Nat := #[]) (fds : Array FieldInfo := #[]) : ClassFile where
  minorVersion := 0
  majorVersion := 65
  constantPool := pool
  accessFlags := fl
  thisClass := this
  superClass := sup
  interfaces := ifs
  fields := fds
  methods := ms
  attributes := attrs
def plain (name : String) (sup : Option ClassId) : Class where
  name := name
  kind := .ordinary
  loader := none
  accessFlags := 33
  super := sup
  interfaces := #[]
  cf := none
  fields := #[]
  methods := #[]
  instanceTypes := #[]
  staticTypes := #[]
  resolved := #[]
  callSites := []
  init := .initialized
  statics := none
  mirror := none

def pool0 : Array CpInfo := pool [(5, u "<init>"), (0, u "()V"), (1, .class_ 10), (1, u "java/lang/Object")] 113

def k0c0 : Code := { maxStack := 0, maxLocals := 1, code := object_method_1_code, exceptionTable := #[], attributes := #[] }
def k0m0 : Method := { name := "<init>", desc := "()V", sig := { parameters := [], returnType := none }, accessFlags := 1, code := some k0c0 }
/-- java/lang/Object -/
def k0 : Class := { plain "java/lang/Object" none with
  accessFlags := 33
  interfaces := #[]
  cf := some (fileOf pool0 8 #[] #[{ accessFlags := 1, nameIndex := 5, descriptorIndex := 6, attributes := #[] }] 33 0 #[] #[])
  fields := #[]
  methods := #[k0m0]
  instanceTypes := #[]
  staticTypes := #[]
  resolved := Array.replicate 124 none
  statics := none }

def pool1 : Array CpInfo := pool [(2, .class_ 4), (0, .nameAndType 5 6), (0, u "java/lang/Object"), (0, u "<init>"), (0, u "()V"), (0, .methodref 8 9), (0, .class_ 10), (0, .nameAndType 11 12), (0, u "java/lang/Math"), (0, u "min"), (0, u "(JJ)J"), (0, .methodref 8 14), (0, .nameAndType 15 12), (0, u "max"), (0, .methodref 17 18), (0, .class_ 19), (0, .nameAndType 20 21), (0, u "com/example/xml_element_search/xmlelementsearch/ElementScoresHoldsPinLaw"), (0, u "base"), (0, u "(IJJJJ)J"), (0, .class_ 23), (0, u "com/example/xml_element_search/xmlelementsearch/ElementScores"), (0, .methodref 22 3), (0, .methodref 22 26), (0, .nameAndType 27 28), (0, u "add"), (0, u "(JD)V"), (0, .double 4611686018427387904), (1, .double 4613937818241073152), (1, .class_ 34), (0, u "com/example/xml_element_search/xmlelementsearch/ElementScores$Cursor"), (0, .methodref 36 37), (0, .class_ 38), (0, .nameAndType 39 40), (0, u "java/util/Objects"), (0, u "requireNonNull"), (0, u "(Ljava/lang/Object;)Ljava/lang/Object;"), (0, .methodref 33 42), (0, .nameAndType 5 43), (0, u "(Lcom/example/xml_element_search/xmlelementsearch/ElementScores;)V"), (0, .methodref 33 45), (0, .nameAndType 46 47), (0, u "holds"), (0, u "(J)Z"), (0, .methodref 17 49), (0, .nameAndType 50 51), (0, u "idx"), (0, u "(JIJJJ)I"), (0, .methodref 33 53), (0, .nameAndType 54 55), (0, u "score"), (0, u "()D"), (3, u "law"), (0, u "(JJJJJI)Z")] 4

def k1m0 : Method := { name := "<init>", desc := "()V", sig := { parameters := [], returnType := none }, accessFlags := 1, code := none }
def k1c1 : Code := { maxStack := 2, maxLocals := 9, code := method_2_code, exceptionTable := #[], attributes := #[] }
def k1m1 : Method := { name := "base", desc := "(IJJJJ)J", sig := { parameters := [.int, .long, .long, .long, .long], returnType := some .long }, accessFlags := 10, code := some k1c1 }
def k1c2 : Code := { maxStack := 4, maxLocals := 9, code := method_3_code, exceptionTable := #[], attributes := #[] }
def k1m2 : Method := { name := "idx", desc := "(JIJJJ)I", sig := { parameters := [.long, .int, .long, .long, .long], returnType := some .int }, accessFlags := 10, code := some k1c2 }
def k1c3 : Code := { maxStack := 9, maxLocals := 36, code := code, exceptionTable := #[], attributes := #[] }
def k1m3 : Method := { name := "law", desc := "(JJJJJI)Z", sig := { parameters := [.long, .long, .long, .long, .long, .int], returnType := some .boolean }, accessFlags := 9, code := some k1c3 }
/-- com/example/xml_element_search/xmlelementsearch/ElementScoresHoldsPinLaw -/
def k1 : Class := { plain "com/example/xml_element_search/xmlelementsearch/ElementScoresHoldsPinLaw" (some 0) with
  accessFlags := 49
  interfaces := #[]
  cf := some (fileOf pool1 17 #[] #[{ accessFlags := 1, nameIndex := 5, descriptorIndex := 6, attributes := #[] }, { accessFlags := 10, nameIndex := 20, descriptorIndex := 21, attributes := #[] }, { accessFlags := 10, nameIndex := 50, descriptorIndex := 51, attributes := #[] }, { accessFlags := 9, nameIndex := 59, descriptorIndex := 60, attributes := #[] }] 49 2 #[] #[])
  fields := #[]
  methods := #[k1m0, k1m1, k1m2, k1m3]
  instanceTypes := #[]
  staticTypes := #[]
  resolved := Array.replicate 65 none
  statics := none }

def pool2 : Array CpInfo := pool [(1, .class_ 2), (0, u "java/lang/Math"), (1, .class_ 6), (1, u "java/lang/Object"), (0, u "<init>"), (0, u "()V"), (89, .class_ 100), (1, u "java/lang/Math$RandomNumberGeneratorHolder"), (20, u "(JJ)J"), (50, u "negativeZeroFloatBits"), (0, u "J"), (2, u "negativeZeroDoubleBits"), (21, u "max"), (2, u "min"), (43, u "$assertionsDisabled"), (0, u "Z"), (88, u "(II)I"), (2, u "twoToTheDoubleScaleDown"), (0, u "D"), (4, u "twoToTheDoubleScaleUp"), (9, u "E"), (3, u "PI"), (2, u "TAU"), (2, u "DEGREES_TO_RADIANS"), (0, u "RADIANS_TO_DEGREES")] 94

def k2m0 : Method := { name := "<init>", desc := "()V", sig := { parameters := [], returnType := none }, accessFlags := 2, code := none }
def k2c1 : Code := { maxStack := 2, maxLocals := 2, code := jdk_29_method_65_code, exceptionTable := #[], attributes := #[] }
def k2m1 : Method := { name := "max", desc := "(II)I", sig := { parameters := [.int, .int], returnType := some .int }, accessFlags := 9, code := some k2c1 }
def k2c2 : Code := { maxStack := 4, maxLocals := 4, code := jdk_29_method_66_code, exceptionTable := #[], attributes := #[] }
def k2m2 : Method := { name := "max", desc := "(JJ)J", sig := { parameters := [.long, .long], returnType := some .long }, accessFlags := 9, code := some k2c2 }
def k2c3 : Code := { maxStack := 4, maxLocals := 4, code := jdk_29_method_70_code, exceptionTable := #[], attributes := #[] }
def k2m3 : Method := { name := "min", desc := "(JJ)J", sig := { parameters := [.long, .long], returnType := some .long }, accessFlags := 9, code := some k2c3 }
/-- java/lang/Math -/
def k2 : Class := { plain "java/lang/Math" (some 0) with
  accessFlags := 49
  interfaces := #[]
  cf := some (fileOf pool2 1 #[.nestMembers #[98]] #[{ accessFlags := 2, nameIndex := 7, descriptorIndex := 8, attributes := #[] }, { accessFlags := 9, nameIndex := 198, descriptorIndex := 335, attributes := #[] }, { accessFlags := 9, nameIndex := 198, descriptorIndex := 121, attributes := #[] }, { accessFlags := 9, nameIndex := 201, descriptorIndex := 121, attributes := #[] }] 49 4 #[] #[{ accessFlags := 25, nameIndex := 354, descriptorIndex := 339, attributes := #[] }, { accessFlags := 25, nameIndex := 358, descriptorIndex := 339, attributes := #[] }, { accessFlags := 25, nameIndex := 361, descriptorIndex := 339, attributes := #[] }, { accessFlags := 26, nameIndex := 364, descriptorIndex := 339, attributes := #[] }, { accessFlags := 26, nameIndex := 365, descriptorIndex := 339, attributes := #[] }, { accessFlags := 26, nameIndex := 172, descriptorIndex := 173, attributes := #[] }, { accessFlags := 26, nameIndex := 176, descriptorIndex := 173, attributes := #[] }, { accessFlags := 8, nameIndex := 344, descriptorIndex := 339, attributes := #[] }, { accessFlags := 8, nameIndex := 338, descriptorIndex := 339, attributes := #[] }, { accessFlags := 4120, nameIndex := 245, descriptorIndex := 246, attributes := #[] }])
  fields := #[{ name := "E", type := .double, accessFlags := 25, slot := 0, constantValue := 0 }, { name := "PI", type := .double, accessFlags := 25, slot := 1, constantValue := 0 }, { name := "TAU", type := .double, accessFlags := 25, slot := 2, constantValue := 0 }, { name := "DEGREES_TO_RADIANS", type := .double, accessFlags := 26, slot := 3, constantValue := 0 }, { name := "RADIANS_TO_DEGREES", type := .double, accessFlags := 26, slot := 4, constantValue := 0 }, { name := "negativeZeroFloatBits", type := .long, accessFlags := 26, slot := 5, constantValue := 0 }, { name := "negativeZeroDoubleBits", type := .long, accessFlags := 26, slot := 6, constantValue := 0 }, { name := "twoToTheDoubleScaleUp", type := .double, accessFlags := 8, slot := 7, constantValue := 0 }, { name := "twoToTheDoubleScaleDown", type := .double, accessFlags := 8, slot := 8, constantValue := 0 }, { name := "$assertionsDisabled", type := .boolean, accessFlags := 4120, slot := 9, constantValue := 0 }]
  methods := #[k2m0, k2m1, k2m2, k2m3]
  instanceTypes := #[]
  staticTypes := #[.double, .double, .double, .double, .double, .long, .long, .double, .double, .boolean]
  resolved := Array.replicate 460 none
  statics := none }

def pool3 : Array CpInfo := pool [(1, .methodref 2 3), (0, .class_ 4), (0, .nameAndType 5 6), (0, u "com/example/xml_element_search/xmlelementsearch/ElementScores"), (0, u "<init>"), (0, u "(I)V"), (0, .methodref 8 9), (0, .class_ 10), (0, .nameAndType 5 11), (0, u "java/lang/Object"), (0, u "()V"), (0, .fieldref 2 13), (0, .nameAndType 14 15), (0, u "runStarts"), (0, u "[I"), (0, .methodref 17 18), (0, .class_ 19), (0, .nameAndType 20 21), (0, u "java/lang/Math"), (0, u "max"), (0, u "(II)I"), (0, .fieldref 2 23), (0, .nameAndType 24 25), (0, u "elements"), (0, u "[J"), (0, .fieldref 2 27), (0, .nameAndType 28 29), (0, u "scores"), (0, u "[D"), (0, .fieldref 2 31), (0, .nameAndType 32 33), (0, u "size"), (0, u "I"), (12, .fieldref 2 47), (0, .nameAndType 48 33), (0, u "runs"), (13, .class_ 63), (0, u "com/example/xml_element_search/xmlelementsearch/ElementScores$Cursor"), (5, u "add"), (0, u "(JD)V")] 18

def k3c0 : Code := { maxStack := 2, maxLocals := 1, code := prog_24_method_1_code, exceptionTable := #[], attributes := #[] }
def k3m0 : Method := { name := "<init>", desc := "()V", sig := { parameters := [], returnType := none }, accessFlags := 0, code := some k3c0 }
def k3c1 : Code := { maxStack := 3, maxLocals := 2, code := prog_24_method_2_code, exceptionTable := #[], attributes := #[] }
def k3m1 : Method := { name := "<init>", desc := "(I)V", sig := { parameters := [.int], returnType := none }, accessFlags := 0, code := some k3c1 }
def k3c2 : Code := { maxStack := 5, maxLocals := 5, code := prog_24_method_3_code, exceptionTable := #[], attributes := #[] }
def k3m2 : Method := { name := "add", desc := "(JD)V", sig := { parameters := [.long, .double], returnType := none }, accessFlags := 0, code := some k3c2 }
/-- com/example/xml_element_search/xmlelementsearch/ElementScores -/
def k3 : Class := { plain "com/example/xml_element_search/xmlelementsearch/ElementScores" (some 0) with
  accessFlags := 48
  interfaces := #[]
  cf := some (fileOf pool3 2 #[.nestMembers #[62]] #[{ accessFlags := 0, nameIndex := 5, descriptorIndex := 11, attributes := #[] }, { accessFlags := 0, nameIndex := 5, descriptorIndex := 6, attributes := #[] }, { accessFlags := 0, nameIndex := 69, descriptorIndex := 70, attributes := #[] }] 48 8 #[] #[{ accessFlags := 2, nameIndex := 24, descriptorIndex := 25, attributes := #[] }, { accessFlags := 2, nameIndex := 28, descriptorIndex := 29, attributes := #[] }, { accessFlags := 2, nameIndex := 32, descriptorIndex := 33, attributes := #[] }, { accessFlags := 2, nameIndex := 14, descriptorIndex := 15, attributes := #[] }, { accessFlags := 2, nameIndex := 48, descriptorIndex := 33, attributes := #[] }])
  fields := #[{ name := "elements", type := (.array .long), accessFlags := 2, slot := 0, constantValue := 0 }, { name := "scores", type := (.array .double), accessFlags := 2, slot := 1, constantValue := 0 }, { name := "size", type := .int, accessFlags := 2, slot := 2, constantValue := 0 }, { name := "runStarts", type := (.array .int), accessFlags := 2, slot := 3, constantValue := 0 }, { name := "runs", type := .int, accessFlags := 2, slot := 4, constantValue := 0 }]
  methods := #[k3m0, k3m1, k3m2]
  instanceTypes := #[(.array .long), (.array .double), .int, (.array .int), .int]
  staticTypes := #[]
  resolved := Array.replicate 89 none
  statics := none }

def pool4 : Array CpInfo := pool [(1, .fieldref 2 3), (0, .class_ 4), (0, .nameAndType 5 6), (0, u "com/example/xml_element_search/xmlelementsearch/ElementScores$Cursor"), (0, u "this$0"), (0, u "Lcom/example/xml_element_search/xmlelementsearch/ElementScores;"), (0, .methodref 8 9), (0, .class_ 10), (0, .nameAndType 11 12), (0, u "java/lang/Object"), (0, u "<init>"), (0, u "()V"), (0, .fieldref 2 14), (0, .nameAndType 15 16), (0, u "at"), (0, u "I"), (0, .fieldref 18 19), (0, .class_ 20), (0, .nameAndType 21 16), (0, u "com/example/xml_element_search/xmlelementsearch/ElementScores"), (0, u "size"), (0, .fieldref 18 23), (0, .nameAndType 24 25), (0, u "elements"), (0, u "[J"), (0, .fieldref 18 27), (0, .nameAndType 28 29), (0, u "scores"), (0, u "[D"), (0, u "(Lcom/example/xml_element_search/xmlelementsearch/ElementScores;)V"), (3, u "holds"), (0, u "(J)Z"), (1, u "score"), (0, u "()D")] 5

def k4c0 : Code := { maxStack := 2, maxLocals := 2, code := prog_25_method_1_code, exceptionTable := #[], attributes := #[] }
def k4m0 : Method := { name := "<init>", desc := "(Lcom/example/xml_element_search/xmlelementsearch/ElementScores;)V", sig := { parameters := [(.object "com/example/xml_element_search/xmlelementsearch/ElementScores")], returnType := none }, accessFlags := 0, code := some k4c0 }
def k4c1 : Code := { maxStack := 4, maxLocals := 3, code := prog_25_method_2_code, exceptionTable := #[], attributes := #[] }
def k4m1 : Method := { name := "holds", desc := "(J)Z", sig := { parameters := [.long], returnType := some .boolean }, accessFlags := 0, code := some k4c1 }
def k4c2 : Code := { maxStack := 2, maxLocals := 1, code := prog_25_method_3_code, exceptionTable := #[], attributes := #[] }
def k4m2 : Method := { name := "score", desc := "()D", sig := { parameters := [], returnType := some .double }, accessFlags := 0, code := some k4c2 }
/-- com/example/xml_element_search/xmlelementsearch/ElementScores$Cursor -/
def k4 : Class := { plain "com/example/xml_element_search/xmlelementsearch/ElementScores$Cursor" (some 0) with
  accessFlags := 48
  interfaces := #[]
  cf := some (fileOf pool4 2 #[.nestHost 18] #[{ accessFlags := 0, nameIndex := 11, descriptorIndex := 30, attributes := #[] }, { accessFlags := 0, nameIndex := 34, descriptorIndex := 35, attributes := #[] }, { accessFlags := 0, nameIndex := 37, descriptorIndex := 38, attributes := #[] }] 48 8 #[] #[{ accessFlags := 2, nameIndex := 15, descriptorIndex := 16, attributes := #[] }, { accessFlags := 4112, nameIndex := 5, descriptorIndex := 6, attributes := #[] }])
  fields := #[{ name := "at", type := .int, accessFlags := 2, slot := 0, constantValue := 0 }, { name := "this$0", type := (.object "com/example/xml_element_search/xmlelementsearch/ElementScores"), accessFlags := 4112, slot := 1, constantValue := 0 }]
  methods := #[k4m0, k4m1, k4m2]
  instanceTypes := #[.int, (.object "com/example/xml_element_search/xmlelementsearch/ElementScores")]
  staticTypes := #[]
  resolved := Array.replicate 44 none
  statics := none }

def pool5 : Array CpInfo := pool [(2, .class_ 4), (1, u "java/lang/Object"), (0, u "<init>"), (0, u "()V"), (35, .class_ 44), (1, u "java/util/Objects"), (0, u "requireNonNull"), (0, u "(Ljava/lang/Object;)Ljava/lang/Object;")] 137

def k5m0 : Method := { name := "<init>", desc := "()V", sig := { parameters := [], returnType := none }, accessFlags := 2, code := none }
def k5c1 : Code := { maxStack := 2, maxLocals := 1, code := jdk_31_method_10_code, exceptionTable := #[], attributes := #[] }
def k5m1 : Method := { name := "requireNonNull", desc := "(Ljava/lang/Object;)Ljava/lang/Object;", sig := { parameters := [(.object "java/lang/Object")], returnType := some (.object "java/lang/Object") }, accessFlags := 9, code := some k5c1 }
/-- java/util/Objects -/
def k5 : Class := { plain "java/util/Objects" (some 0) with
  accessFlags := 49
  interfaces := #[]
  cf := some (fileOf pool5 42 #[] #[{ accessFlags := 2, nameIndex := 5, descriptorIndex := 6, attributes := #[] }, { accessFlags := 9, nameIndex := 45, descriptorIndex := 46, attributes := #[] }] 49 2 #[] #[])
  fields := #[]
  methods := #[k5m0, k5m1]
  instanceTypes := #[]
  staticTypes := #[]
  resolved := Array.replicate 184 none
  statics := none }

def pool6 : Array CpInfo := pool [(1, u "java/lang/Cloneable"), (0, .class_ 1), (0, u "java/lang/Object"), (0, .class_ 3)] 3

/-- java/lang/Cloneable -/
def k6 : Class := { plain "java/lang/Cloneable" (some 0) with
  accessFlags := 1537
  interfaces := #[]
  cf := some (fileOf pool6 2 #[] #[] 1537 4 #[] #[])
  fields := #[]
  methods := #[]
  instanceTypes := #[]
  staticTypes := #[]
  resolved := Array.replicate 8 none
  statics := none }

def pool7 : Array CpInfo := pool [(1, u "java/io/Serializable"), (0, .class_ 1), (0, u "java/lang/Object"), (0, .class_ 3)] 3

/-- java/io/Serializable -/
def k7 : Class := { plain "java/io/Serializable" (some 0) with
  accessFlags := 1537
  interfaces := #[]
  cf := some (fileOf pool7 2 #[] #[] 1537 4 #[] #[])
  fields := #[]
  methods := #[]
  instanceTypes := #[]
  staticTypes := #[]
  resolved := Array.replicate 8 none
  statics := none }

/-- the primitive byte -/
def k8 : Class := { plain "byte" none with kind := .primitive 'B', accessFlags := 0x411 }
/-- [B -/
def k9 : Class := { plain "[B" (some 0) with kind := .array 8 .byte, interfaces := #[6, 7], accessFlags := 1041 }

/-- the primitive double -/
def k10 : Class := { plain "double" none with kind := .primitive 'D', accessFlags := 0x411 }
/-- [D -/
def k11 : Class := { plain "[D" (some 0) with kind := .array 10 .double, interfaces := #[6, 7], accessFlags := 1041 }

/-- the primitive int -/
def k12 : Class := { plain "int" none with kind := .primitive 'I', accessFlags := 0x411 }
/-- [I -/
def k13 : Class := { plain "[I" (some 0) with kind := .array 12 .int, interfaces := #[6, 7], accessFlags := 1041 }

/-- the primitive long -/
def k14 : Class := { plain "long" none with kind := .primitive 'J', accessFlags := 0x411 }
/-- [J -/
def k15 : Class := { plain "[J" (some 0) with kind := .array 14 .long, interfaces := #[6, 7], accessFlags := 1041 }

def heap : Heap := #[]
def classes : Array Class := #[k0, k1, k2, k3, k4, k5, k6, k7, k8, k9, k10, k11, k12, k13, k14, k15]
def interned : List (Array UInt16 × Addr) := []
def slotsUsed : Nat := 0
def theMethod : MethodId := ⟨1, 3⟩
def args0 : Array Value := #[.long 5, .long 7, .long 9, .long 5, .long 5, .int 3]
def aboutOver (below : List Frame) : State where
  vm := { classes := classes, interned := interned.toArray }
  heap := heap
  slotsUsed := slotsUsed
  threads := #[{ frames := .invoking theMethod args0 :: below }]
def below0 : List Frame := [.native { method := ⟨0, 0⟩, args := #[] }]
def about1 : State := aboutOver below0
def p0 : Program := .bare "" "" ""
def e0 : Env := launch0.env 0 0 0
theorem w_frames : about1.frames = Frame.invoking theMethod args0 :: below0 := rfl
set_option maxRecDepth 65536 in
theorem w_args : argsFit about1.vm theMethod args0 = true := by decide +kernel
set_option maxRecDepth 65536 in
theorem w_heap : heapFits about1 = true := by decide +kernel
set_option maxRecDepth 65536 in
theorem w_runnable : about1.curStatus? = some .runnable := by decide +kernel
set_option maxRecDepth 65536 in
theorem w_alone : about1.alone = true := by decide +kernel
set_option maxRecDepth 65536 in
theorem w_named : about1.methodNamed? x = some theMethod := by decide +kernel
set_option maxRecDepth 65536 in
theorem w_hears : about1.hears theMethod below0 = true := by decide +kernel
set_option maxRecDepth 65536 in
theorem w_ripe : about1.ripe theMethod args0 below0 = true := by decide +kernel
theorem w_running : about1.status = .running := rfl
set_option maxRecDepth 65536 in
theorem w_room : about1.hasRoom e0.platform room_1 = true :=
  launch0.hasRoom_least _ room_1 (by decide +kernel) (by decide +kernel) (by decide +kernel) (by decide +kernel) (by decide +kernel) (by decide +kernel)
theorem allAtoms_all (ts : List Jvm.Cond) (a : Array Jvm.Value) (st : Jvm.State) : (allAtoms ts).before a st = ts.all (fun c => c.before a st) := by
  induction ts with
  | nil => rfl
  | cons c t ih =>
    show (Jvm.Cond.and c (allAtoms t)).before a st = _
    rw [Jvm.Cond.before_and, ih, List.all_cons]
def words1 : List Jvm.Cond := Jvm.Cond.code x code maxLocals ret :: tables_1
/-- a 'code' word, met by the world's own term for the bytes: nothing is compared byte by byte -/
theorem code_word {y : MethodName} {bytes : ByteArray} {mx : Nat} {rt : Option FieldType} {a : Array Value} {s : State} {m : MethodId} {meth : Method} {c : Code} (h1 : s.methodNamed? y = some m) (h2 : s.vm.method? m = some meth) (h3 : meth.code = some c) (h4 : c.code = bytes)
    (h5 : (c.maxLocals == mx && c.exceptionTable.isEmpty && decide (c.maxStack ≤ mostOperands) && decide (meth.sig.returnType = rt) && !meth.locks && decide (parseMethodDescriptor y.desc = some meth.sig)) = true) : (Jvm.Cond.code y bytes mx rt).before a s = true := by
  simp only [Bool.and_eq_true, beq_iff_eq, Bool.not_eq_true', decide_eq_true_eq] at h5
  obtain ⟨⟨⟨⟨⟨g1, g2⟩, g3⟩, g4⟩, g5⟩, g6⟩ := h5
  simp [Cond.before, Cond.holds, Cond.value, h1, h2, h3, h4, g1, g2, g3, g4, g5, g6]
def isCode : Jvm.Cond → Bool
  | .code _ _ _ _ => true
  | _ => false
theorem all_split {L : List Jvm.Cond} {P : Jvm.Cond → Bool} (h1 : L.all (fun c => isCode c || P c) = true) (h2 : ∀ c ∈ L.filter isCode, P c = true) : L.all P = true := by
  refine List.all_eq_true.mpr fun c hc => ?_
  have h := List.all_eq_true.mp h1 c hc
  rcases Bool.eq_false_or_eq_true (isCode c) with hi | hi
  · exact h2 c (List.mem_filter.mpr ⟨hc, hi⟩)
  · simpa [hi] using h
set_option maxRecDepth 65536 in
theorem w_c0 : (Jvm.Cond.code x code maxLocals ret).before args0 about1 = true := code_word (m := ⟨1, 3⟩) (meth := k1m3) (c := k1c3) (by decide +kernel) rfl rfl rfl (by decide +kernel)
set_option maxRecDepth 65536 in
theorem w_c1 : (Jvm.Cond.code ({ cls := "java/lang/Math", name := "min", desc := "(JJ)J" } : Jvm.MethodName) jdk_29_method_70_code (4 : Nat) (Option.some Jvm.ClassFile.FieldType.long)).before args0 about1 = true := code_word (m := ⟨2, 3⟩) (meth := k2m3) (c := k2c3) (by decide +kernel) rfl rfl rfl (by decide +kernel)
set_option maxRecDepth 65536 in
theorem w_c2 : (Jvm.Cond.code ({ cls := "java/lang/Math", name := "max", desc := "(JJ)J" } : Jvm.MethodName) jdk_29_method_66_code (4 : Nat) (Option.some Jvm.ClassFile.FieldType.long)).before args0 about1 = true := code_word (m := ⟨2, 2⟩) (meth := k2m2) (c := k2c2) (by decide +kernel) rfl rfl rfl (by decide +kernel)
set_option maxRecDepth 65536 in
theorem w_c3 : (Jvm.Cond.code ({ cls := "com/example/xml_element_search/xmlelementsearch/ElementScoresHoldsPinLaw", name := "base", desc := "(IJJJJ)J" } : Jvm.MethodName) method_2_code (9 : Nat) (Option.some Jvm.ClassFile.FieldType.long)).before args0 about1 = true := code_word (m := ⟨1, 1⟩) (meth := k1m1) (c := k1c1) (by decide +kernel) rfl rfl rfl (by decide +kernel)
set_option maxRecDepth 65536 in
theorem w_c4 : (Jvm.Cond.code ({ cls := "com/example/xml_element_search/xmlelementsearch/ElementScores", name := "<init>", desc := "()V" } : Jvm.MethodName) prog_24_method_1_code (1 : Nat) (Option.none : Option Jvm.ClassFile.FieldType)).before args0 about1 = true := code_word (m := ⟨3, 0⟩) (meth := k3m0) (c := k3c0) (by decide +kernel) rfl rfl rfl (by decide +kernel)
set_option maxRecDepth 65536 in
theorem w_c5 : (Jvm.Cond.code ({ cls := "com/example/xml_element_search/xmlelementsearch/ElementScores", name := "<init>", desc := "(I)V" } : Jvm.MethodName) prog_24_method_2_code (2 : Nat) (Option.none : Option Jvm.ClassFile.FieldType)).before args0 about1 = true := code_word (m := ⟨3, 1⟩) (meth := k3m1) (c := k3c1) (by decide +kernel) rfl rfl rfl (by decide +kernel)
set_option maxRecDepth 65536 in
theorem w_c6 : (Jvm.Cond.code ({ cls := "java/lang/Object", name := "<init>", desc := "()V" } : Jvm.MethodName) object_method_1_code (1 : Nat) (Option.none : Option Jvm.ClassFile.FieldType)).before args0 about1 = true := code_word (m := ⟨0, 0⟩) (meth := k0m0) (c := k0c0) (by decide +kernel) rfl rfl rfl (by decide +kernel)
set_option maxRecDepth 65536 in
theorem w_c7 : (Jvm.Cond.code ({ cls := "java/lang/Math", name := "max", desc := "(II)I" } : Jvm.MethodName) jdk_29_method_65_code (2 : Nat) (Option.some Jvm.ClassFile.FieldType.int)).before args0 about1 = true := code_word (m := ⟨2, 1⟩) (meth := k2m1) (c := k2c1) (by decide +kernel) rfl rfl rfl (by decide +kernel)
set_option maxRecDepth 65536 in
theorem w_c8 : (Jvm.Cond.code ({ cls := "com/example/xml_element_search/xmlelementsearch/ElementScores", name := "add", desc := "(JD)V" } : Jvm.MethodName) prog_24_method_3_code (5 : Nat) (Option.none : Option Jvm.ClassFile.FieldType)).before args0 about1 = true := code_word (m := ⟨3, 2⟩) (meth := k3m2) (c := k3c2) (by decide +kernel) rfl rfl rfl (by decide +kernel)
set_option maxRecDepth 65536 in
theorem w_c9 : (Jvm.Cond.code ({ cls := "java/util/Objects", name := "requireNonNull", desc := "(Ljava/lang/Object;)Ljava/lang/Object;" } : Jvm.MethodName) jdk_31_method_10_code (1 : Nat) (Option.some (Jvm.ClassFile.FieldType.object "java/lang/Object"))).before args0 about1 = true := code_word (m := ⟨5, 1⟩) (meth := k5m1) (c := k5c1) (by decide +kernel) rfl rfl rfl (by decide +kernel)
set_option maxRecDepth 65536 in
theorem w_c10 : (Jvm.Cond.code ({ cls := "com/example/xml_element_search/xmlelementsearch/ElementScores$Cursor", name := "<init>", desc := "(Lcom/example/xml_element_search/xmlelementsearch/ElementScores;)V" } : Jvm.MethodName) prog_25_method_1_code (2 : Nat) (Option.none : Option Jvm.ClassFile.FieldType)).before args0 about1 = true := code_word (m := ⟨4, 0⟩) (meth := k4m0) (c := k4c0) (by decide +kernel) rfl rfl rfl (by decide +kernel)
set_option maxRecDepth 65536 in
theorem w_c11 : (Jvm.Cond.code ({ cls := "com/example/xml_element_search/xmlelementsearch/ElementScores$Cursor", name := "holds", desc := "(J)Z" } : Jvm.MethodName) prog_25_method_2_code (3 : Nat) (Option.some Jvm.ClassFile.FieldType.boolean)).before args0 about1 = true := code_word (m := ⟨4, 1⟩) (meth := k4m1) (c := k4c1) (by decide +kernel) rfl rfl rfl (by decide +kernel)
set_option maxRecDepth 65536 in
theorem w_c12 : (Jvm.Cond.code ({ cls := "com/example/xml_element_search/xmlelementsearch/ElementScoresHoldsPinLaw", name := "idx", desc := "(JIJJJ)I" } : Jvm.MethodName) method_3_code (9 : Nat) (Option.some Jvm.ClassFile.FieldType.int)).before args0 about1 = true := code_word (m := ⟨1, 2⟩) (meth := k1m2) (c := k1c2) (by decide +kernel) rfl rfl rfl (by decide +kernel)
set_option maxRecDepth 65536 in
theorem w_c13 : (Jvm.Cond.code ({ cls := "com/example/xml_element_search/xmlelementsearch/ElementScores$Cursor", name := "score", desc := "()D" } : Jvm.MethodName) prog_25_method_3_code (1 : Nat) (Option.some Jvm.ClassFile.FieldType.double)).before args0 about1 = true := code_word (m := ⟨4, 2⟩) (meth := k4m2) (c := k4c2) (by decide +kernel) rfl rfl rfl (by decide +kernel)
def codes1 : List Jvm.Cond := [Jvm.Cond.code x code maxLocals ret, Jvm.Cond.code ({ cls := "java/lang/Math", name := "min", desc := "(JJ)J" } : Jvm.MethodName) jdk_29_method_70_code (4 : Nat) (Option.some Jvm.ClassFile.FieldType.long), Jvm.Cond.code ({ cls := "java/lang/Math", name := "max", desc := "(JJ)J" } : Jvm.MethodName) jdk_29_method_66_code (4 : Nat) (Option.some Jvm.ClassFile.FieldType.long), Jvm.Cond.code ({ cls := "com/example/xml_element_search/xmlelementsearch/ElementScoresHoldsPinLaw", name := "base", desc := "(IJJJJ)J" } : Jvm.MethodName) method_2_code (9 : Nat) (Option.some Jvm.ClassFile.FieldType.long), Jvm.Cond.code ({ cls := "com/example/xml_element_search/xmlelementsearch/ElementScores", name := "<init>", desc := "()V" } : Jvm.MethodName) prog_24_method_1_code (1 : Nat) (Option.none : Option Jvm.ClassFile.FieldType), Jvm.Cond.code ({ cls := "com/example/xml_element_search/xmlelementsearch/ElementScores", name := "<init>", desc := "(I)V" } : Jvm.MethodName) prog_24_method_2_code (2 : Nat) (Option.none : Option Jvm.ClassFile.FieldType), Jvm.Cond.code ({ cls := "java/lang/Object", name := "<init>", desc := "()V" } : Jvm.MethodName) object_method_1_code (1 : Nat) (Option.none : Option Jvm.ClassFile.FieldType), Jvm.Cond.code ({ cls := "java/lang/Math", name := "max", desc := "(II)I" } : Jvm.MethodName) jdk_29_method_65_code (2 : Nat) (Option.some Jvm.ClassFile.FieldType.int), Jvm.Cond.code ({ cls := "com/example/xml_element_search/xmlelementsearch/ElementScores", name := "add", desc := "(JD)V" } : Jvm.MethodName) prog_24_method_3_code (5 : Nat) (Option.none : Option Jvm.ClassFile.FieldType), Jvm.Cond.code ({ cls := "java/util/Objects", name := "requireNonNull", desc := "(Ljava/lang/Object;)Ljava/lang/Object;" } : Jvm.MethodName) jdk_31_method_10_code (1 : Nat) (Option.some (Jvm.ClassFile.FieldType.object "java/lang/Object")), Jvm.Cond.code ({ cls := "com/example/xml_element_search/xmlelementsearch/ElementScores$Cursor", name := "<init>", desc := "(Lcom/example/xml_element_search/xmlelementsearch/ElementScores;)V" } : Jvm.MethodName) prog_25_method_1_code (2 : Nat) (Option.none : Option Jvm.ClassFile.FieldType), Jvm.Cond.code ({ cls := "com/example/xml_element_search/xmlelementsearch/ElementScores$Cursor", name := "holds", desc := "(J)Z" } : Jvm.MethodName) prog_25_method_2_code (3 : Nat) (Option.some Jvm.ClassFile.FieldType.boolean), Jvm.Cond.code ({ cls := "com/example/xml_element_search/xmlelementsearch/ElementScoresHoldsPinLaw", name := "idx", desc := "(JIJJJ)I" } : Jvm.MethodName) method_3_code (9 : Nat) (Option.some Jvm.ClassFile.FieldType.int), Jvm.Cond.code ({ cls := "com/example/xml_element_search/xmlelementsearch/ElementScores$Cursor", name := "score", desc := "()D" } : Jvm.MethodName) prog_25_method_3_code (1 : Nat) (Option.some Jvm.ClassFile.FieldType.double)]
set_option maxRecDepth 65536 in
theorem codes_eq : words1.filter isCode = codes1 := rfl
theorem w_codes : ∀ c ∈ words1.filter isCode, c.before args0 about1 = true := by
  rw [codes_eq]
  intro c hc
  simp only [codes1, List.mem_cons, List.not_mem_nil, or_false] at hc
  rcases hc with rfl | rfl | rfl | rfl | rfl | rfl | rfl | rfl | rfl | rfl | rfl | rfl | rfl | rfl
  · exact w_c0
  · exact w_c1
  · exact w_c2
  · exact w_c3
  · exact w_c4
  · exact w_c5
  · exact w_c6
  · exact w_c7
  · exact w_c8
  · exact w_c9
  · exact w_c10
  · exact w_c11
  · exact w_c12
  · exact w_c13
set_option maxRecDepth 65536 in
theorem w_t1 : (words1.take 24).all (fun c => isCode c || c.before args0 about1) = true := by decide +kernel
set_option maxRecDepth 65536 in
theorem w_t2 : ((words1.drop 24).take 24).all (fun c => isCode c || c.before args0 about1) = true := by decide +kernel
set_option maxRecDepth 65536 in
theorem w_t3 : (((words1.drop 24).drop 24).take 24).all (fun c => isCode c || c.before args0 about1) = true := by decide +kernel
set_option maxRecDepth 65536 in
theorem w_t4 : (((words1.drop 24).drop 24).drop 24).all (fun c => isCode c || c.before args0 about1) = true := by decide +kernel
theorem w_tables : (allAtoms (Jvm.Cond.code x code maxLocals ret :: tables_1)).before args0 about1 = true := by
  rw [allAtoms_all]
  show words1.all (fun c => c.before args0 about1) = true
  refine all_split ?_ w_codes
  rw [← List.take_append_drop 24 words1, List.all_append, w_t1, ← List.take_append_drop 24 (words1.drop 24), List.all_append, w_t2, ← List.take_append_drop 24 ((words1.drop 24).drop 24), List.all_append, w_t3, w_t4]
  rfl
set_option maxRecDepth 65536 in
theorem w_case : (Jvm.Cond.and given_1 narrow_1).before args0 about1 = true := by decide +kernel
theorem w_applies : (headSpec (Jvm.Cond.code x code maxLocals ret :: tables_1) room_1).applies x e0.platform about1 = true :=
  (Spec.applies_iff w_frames).mpr ⟨w_running, w_runnable, w_alone, w_named, w_hears, w_ripe, w_room, w_tables⟩
theorem atStart : AtStart classFile x code maxLocals ret World_1 tables_1 room_1 Calls_1 rest_1 Pre_1 launch0 p0 e0 about1 theMethod args0 below0 :=
  ⟨lists_1, trivial, launch0.admits_env _ _ _, launch0.least_env, fairChoices_fair.cas, fairChoices_fair.clock, w_frames, w_args, w_heap, w_applies, trivial, trivial, w_case⟩
end start1
theorem witness_1 : WitnessClaimed_1 := ⟨start1.p0, start1.e0, start1.about1, start1.theMethod, start1.args0, start1.below0, start1.atStart⟩
end Jvm.Pilot.@@N@@
