import JvmDerived
import JvmDerived.Pilot.@@N@@Statement
import JvmDerived.Pilot.@@N@@Code
set_option linter.unusedVariables false
set_option linter.unusedSimpArgs false
namespace Jvm.RoadKit
open Sem ClassFile Op Lib Jvm.Stand Jvm.Free Jvm.LawKit
section New
variable {p : Program} {l : Launch} {e : Env} {R : Room} {s : State} {m : MethodId} {args : Array Value} {below : List Frame} {meth : Method} {c : Code} {T : State} {locs : List Loc} {cells slots : Nat}
theorem retI (X : Stand p l e R s m args below meth c T locs cells slots) (hx : p.tables.exec = Jvm.exec) {pc : Nat} {Ls : Array Slot} {z : Int32} {rest : List Value} (hret : meth.sig.returnType = some .int) (hd : decode c.code pc = .ok (.ireturn, 1)) {fs : List Frame}
    (hl : ∀ (f : JFrame) (acts : List Action), f.method = m → f.locked = none → f.entered = [] → (doReturn e (T.setTop f) acts (some (.int z))).1 = T.setFrames fs) : Steps p.tables e below (T.setTop (mkF m pc Ls (.int z :: rest))) (T.setFrames fs) := by
  have hm' : T.vm.method? m = some meth := X.method'
  have hn : narrow .int (.int z) = .int z := rfl
  show Steps p.tables e below (T.setTop { method := m, pc := pc, locals := Ls, stack := _ :: rest, locked := none }) _
  jvm_step X.here [X.here.top, hx, hd, hm', hret, hn]
  first | (intro acts; rw [hl _ acts rfl rfl rfl]) | rw [hl _ _ rfl rfl rfl]
  exact Steps.refl _
end New
end Jvm.RoadKit
namespace Jvm.Pilot.@@N@@
open Jvm Jvm.ClassFile Sem Op Lib Jvm.Free Jvm.Stand Jvm.LawKit Jvm.RoadKit Bundle Jvm.Pilot.@@N@@.Jvm.D
/-- an array of n places, the j-th holds f j -/
def Arf (Z : State) (h : Heap) (a : Addr) (k : ClassId) (ty : FieldType) (n : Nat) (f : Nat → Value) : Prop := ∃ c : Cell, Arr Z h a c ty ∧ c.cls = k ∧ c.slots.size = n ∧ n < 2 ^ 31 ∧ (∀ j, j < n → c.slots[j]? = some (f j)) ∧ ∀ j, j < n → fits ty (f j) = true
def upd (f : Nat → Value) (i : Nat) (v : Value) : Nat → Value := fun j => if j = i then v else f j
section Arfs
variable {Z : State} {h h' : Heap} {a b : Addr} {k : ClassId} {ty : FieldType} {n i : Nat} {f : Nat → Value} {v : Value} {sl : Nat} {ws : List Addr} {c : Cell} {j : Int32}
theorem Arf.lt (F : Arf Z h a k ty n f) : a < h.size := by obtain ⟨c, A, -⟩ := F; exact A.lt
theorem Arf.ext (F : Arf Z h a k ty n f) (E : Ext h h') : Arf Z h' a k ty n f := by obtain ⟨c, A, r⟩ := F; exact ⟨c, A.ext E, r⟩
theorem Arf.other (F : Arf Z h b k ty n f) (W : Wr h h' a sl v) (q : b ≠ a) : Arf Z h' b k ty n f := by obtain ⟨c, A, r⟩ := F; exact ⟨c, A.other W q, r⟩
theorem Arf.keep (F : Arf Z h a k ty n f) (K : Keep h h' ws) (q : a ∉ ws) : Arf Z h' a k ty n f := by obtain ⟨c, A, r⟩ := F; exact ⟨c, ⟨K.2.1 a c A.1 q, A.2⟩, r⟩
theorem Arf.new {z : Int32} (A : Arr Z h a (newA k ty z) ty) (q : ¬ z < 0) (hz : z.toNatClampNeg = n) : Arf Z h a k ty n (fun _ => defaultValue ty) := ⟨_, A, rfl, by rw [sz_new, hz], by rw [← hz]; exact (back32 q).2, fun i hi => by
  rw [← hz] at hi; simp [newA, hi], fun _ _ => by cases ty <;> rfl⟩
theorem Arf.eq {g : Nat → Value} (F : Arf Z h a k ty n f) (e : ∀ j, j < n → f j = g j) : Arf Z h a k ty n g := by obtain ⟨c, A, r1, r2, r3, H, G⟩ := F; exact ⟨c, A, r1, r2, r3, fun j hj => by rw [← e j hj]; exact H j hj, fun j hj => by rw [← e j hj]; exact G j hj⟩
theorem own_inb (S : c.slots.size = n) (ix : ¬ j < 0 ∧ j.toNatClampNeg = i) (hi : i < n) : ¬ (j < 0 ∨ c.slots.size ≤ j.toNatClampNeg) := by rw [S, ix.2]; exact fun q => q.elim ix.1 (Nat.not_le.mpr hi)
theorem own_hat (H : ∀ j, j < n → c.slots[j]? = some (f j)) (ix : ¬ j < 0 ∧ j.toNatClampNeg = i) (hi : i < n) (hv : f i = v) : c.slots[j.toNatClampNeg]? = some v := by rw [ix.2, H _ hi, hv]
theorem own_set (A : Arr Z h a c ty) (q : c.cls = k) (S : c.slots.size = n) (B : n < 2 ^ 31) (H : ∀ j, j < n → c.slots[j]? = some (f j)) (G : ∀ j, j < n → fits ty (f j) = true) (hv : fits ty v = true) (ix : ¬ j < 0 ∧ j.toNatClampNeg = i) (W : Wr h h' a j.toNatClampNeg v) : Arf Z h' a k ty n (upd f i v) := by
  refine ⟨_, A.same W, q, by rw [sz_set]; exact S, B, fun x hx => ?_, fun x hx => ?_⟩
  · rw [ix.2]
    by_cases u : x = i
    · subst u; simp [Cell.setSlot, S, hx, upd]
    · simp only [Cell.setSlot, upd, if_neg u]
      rw [Array.getElem?_setIfInBounds_ne (Ne.symm u)]; exact H x hx
  · unfold upd
    split
    · exact hv
    · exact G x hx
theorem own_ix {k : Nat} (hk : k < 2 ^ 31) : ¬ k.toInt32 < 0 ∧ k.toInt32.toNatClampNeg = k := by
  have e := len_toInt hk
  refine ⟨?_, ?_⟩
  · rw [Int32.lt_iff_toInt_lt, e]; show ¬ (k : Int) < 0; omega
  · simp only [Int32.toNatClampNeg, e]; rfl
end Arfs
theorem pd_0 : parseMethodDescriptor "()V" = some ⟨[], none⟩ := by decide +kernel
theorem pd_1 : parseMethodDescriptor "(IIII)V" = some ⟨[.int, .int, .int, .int], none⟩ := by decide +kernel
theorem pd_2 : parseMethodDescriptor "(II)I" = some ⟨[.int, .int], some .int⟩ := by decide +kernel
theorem d1_0 : decode prog_25_method_1_code 0 = .ok (.aload_n 0, 1) := by decide +kernel
theorem d1_1 : decode prog_25_method_1_code 1 = .ok (.invokespecial 1, 3) := by decide +kernel
theorem d1_4 : decode prog_25_method_1_code 4 = .ok (.aload_n 0, 1) := by decide +kernel
theorem d1_5 : decode prog_25_method_1_code 5 = .ok (.bipush 64, 2) := by decide +kernel
theorem d1_7 : decode prog_25_method_1_code 7 = .ok (.newarray .int, 2) := by decide +kernel
theorem d1_9 : decode prog_25_method_1_code 9 = .ok (.putfield 7, 3) := by decide +kernel
theorem d1_12 : decode prog_25_method_1_code 12 = .ok (.aload_n 0, 1) := by decide +kernel
theorem d1_13 : decode prog_25_method_1_code 13 = .ok (.bipush 64, 2) := by decide +kernel
theorem d1_15 : decode prog_25_method_1_code 15 = .ok (.newarray .int, 2) := by decide +kernel
theorem d1_17 : decode prog_25_method_1_code 17 = .ok (.putfield 13, 3) := by decide +kernel
theorem d1_20 : decode prog_25_method_1_code 20 = .ok (.aload_n 0, 1) := by decide +kernel
theorem d1_21 : decode prog_25_method_1_code 21 = .ok (.bipush 64, 2) := by decide +kernel
theorem d1_23 : decode prog_25_method_1_code 23 = .ok (.newarray .int, 2) := by decide +kernel
theorem d1_25 : decode prog_25_method_1_code 25 = .ok (.putfield 16, 3) := by decide +kernel
theorem d1_28 : decode prog_25_method_1_code 28 = .ok (.aload_n 0, 1) := by decide +kernel
theorem d1_29 : decode prog_25_method_1_code 29 = .ok (.bipush 64, 2) := by decide +kernel
theorem d1_31 : decode prog_25_method_1_code 31 = .ok (.newarray .int, 2) := by decide +kernel
theorem d1_33 : decode prog_25_method_1_code 33 = .ok (.putfield 19, 3) := by decide +kernel
theorem d1_36 : decode prog_25_method_1_code 36 = .ok (.return_, 1) := by decide +kernel
theorem pn_own_init : plainName "com/example/knitwork/knitwork/bibliometric/ScoredPairs" = true := by first | (simp [plainName, overriddenIn]; done) | decide +kernel
theorem ef_own_init (m : MethodId) (x0 : Addr) : entryFrame m #[(.ref x0)] 1 = mkF m 0 #[.val (.ref x0)] [] := by first | (simp [entryFrame, mkF, argsToLocals, Value.category]; done) | rfl
def Q_own_init (Z : State) (a1 : Addr)  (h0 : Heap) (n0 : Nat) (v : Option Value) (h : Heap) (L : List Loc) : Prop := v = none ∧ Fr n0 L ∧ ∃ (au av as_ ao : Addr) (ku kv ks ko : ClassId), n0 ≤ au ∧ (a1 < au ∧ au < av ∧ av < as_ ∧ as_ < ao) ∧ Exa Z h a1 "com/example/knitwork/knitwork/bibliometric/ScoredPairs" ∧ Fld Z h a1 "com/example/knitwork/knitwork/bibliometric/ScoredPairs" "u" "[I" (.ref au) ∧ Fld Z h a1 "com/example/knitwork/knitwork/bibliometric/ScoredPairs" "v" "[I" (.ref av) ∧ Fld Z h a1 "com/example/knitwork/knitwork/bibliometric/ScoredPairs" "shared" "[I" (.ref as_) ∧ Fld Z h a1 "com/example/knitwork/knitwork/bibliometric/ScoredPairs" "outOf" "[I" (.ref ao) ∧ Fld Z h a1 "com/example/knitwork/knitwork/bibliometric/ScoredPairs" "count" "I" (.int (0 : Int32)) ∧ Arf Z h au ku .int 64 (fun _ => Value.int 0) ∧ Arf Z h av kv .int 64 (fun _ => Value.int 0) ∧ Arf Z h as_ ks .int 64 (fun _ => Value.int 0) ∧ Arf Z h ao ko .int 64 (fun _ => Value.int 0)
set_option maxRecDepth 65536 in
set_option maxHeartbeats 40000000 in
theorem own_init (l : Launch) (Z : State) (a0 : Array Value) (hw : ∀ d ∈ tables_1, d.before a0 Z = true) (ws : List Jvm.Cond) (a1 : Addr)  (h0 : Heap) (n0 : Nat) (Z0 : n0 ≤ h0.size) (E_ : Exa Z h0 a1 "com/example/knitwork/knitwork/bibliometric/ScoredPairs") (F_u : Fld Z h0 a1 "com/example/knitwork/knitwork/bibliometric/ScoredPairs" "u" "[I" .null) (F_v : Fld Z h0 a1 "com/example/knitwork/knitwork/bibliometric/ScoredPairs" "v" "[I" .null) (F_s : Fld Z h0 a1 "com/example/knitwork/knitwork/bibliometric/ScoredPairs" "shared" "[I" .null) (F_o : Fld Z h0 a1 "com/example/knitwork/knitwork/bibliometric/ScoredPairs" "outOf" "[I" .null) (F_c : Fld Z h0 a1 "com/example/knitwork/knitwork/bibliometric/ScoredPairs" "count" "I" (.int (0 : Int32))) (g_a1 : n0 ≤ a1) :
    MetFree l (⟨"com/example/knitwork/knitwork/bibliometric/ScoredPairs", "<init>", "()V"⟩ : MethodName) (head1 (Jvm.Cond.code (⟨"com/example/knitwork/knitwork/bibliometric/ScoredPairs", "<init>", "()V"⟩ : MethodName) prog_25_method_1_code 1 none :: ws) ({ frames := 1, cells := 4, slots := 256, locals := 12 } : Room)) (fun a U => a = #[(.ref a1)] ∧ Z.Warmed39 U.vm ∧ U.heap = h0) (fun _ _ _ _ _ => True) (fun _ U o U' => ∃ v L, o = .returned v ∧ Q_own_init Z a1  h0 n0 v U'.heap L ∧ FrameEnd U o U' L ({ frames := 1, cells := 4, slots := 256, locals := 12 } : Room).cells ({ frames := 1, cells := 4, slots := 256, locals := 12 } : Room).slots) := by
  refine MetFree.of_bodySF (plainFor_of_name pn_own_init) hisR ?_
  intro p e s m args below meth c s₁ Bd hml0 hP hK
  obtain ⟨rfl, hZ, hh⟩ := hP
  have hx := Bd.exec
  have hby := Bd.bytes
  have hml : c.maxLocals = 1 := hml0
  have hown : s.vm.findClass "com/example/knitwork/knitwork/bibliometric/ScoredPairs" = some m.cls := findClass_of_methodNamed Bd.named
  have hnm := (name_of_methodNamed Bd.named Bd.method).1
  have X0 : Stand p l e ({ frames := 1, cells := 4, slots := 256, locals := 12 } : Room) s m #[(.ref a1)] below meth c s₁ [] 0 0 := Stand.of_body Bd
  have e0 : s₁.heap = h0 := by rw [← hh, Bd.state]; rfl
  have N0 := Fr.nil n0
  have pre0 : ∀ t, Steps p.tables e below (s₁.setTop (mkF m 0 #[.val (.ref a1)] [])) t → Steps p.tables e below (s₁.setTop (entryFrame m #[(.ref a1)] 1)) t := fun t k => castTop (ef_own_init m (a1)) k
  obtain ⟨T1, X1, e1, st1⟩ := initO X0 hx hZ hown (hw _ (List.mem_of_getElem? (i := 6) rfl)) (hw _ (List.mem_of_getElem? (i := 7) rfl)) (hw _ (List.mem_of_getElem? (i := 8) rfl)) e0 (g := (mkF m 1 #[.val (.ref a1)] [(.ref a1)])) rfl (by rw [hml]; rfl) rfl (hb hby d1_1) (by decide) (W := 0) (by show 2 * 0 + _ ≤ _; exact Nat.le_of_eq rfl) (by decide)
  obtain ⟨T2, h2, k2, X2, e2, E2, A2, st2⟩ := newP X1 hx hZ (hw _ (List.mem_of_getElem? (i := 9) rfl)) e1 (g := (mkF m 7 #[.val (.ref a1)] [(.int (64 : Int32)), (.ref a1)])) rfl (hb hby d1_7) rfl (by decide) (cap := 64) (by decide) (by decide) (by decide) (by decide)
  obtain ⟨b2, g2⟩ : ∃ z, z = h0.size := ⟨_, rfl⟩
  rw [← g2] at A2 st2
  have g_b2 : n0 ≤ b2 := Nat.le_trans Z0 (Nat.le_of_eq g2.symm)
  have lt_a1_b2 : a1 < b2 := Nat.lt_of_lt_of_eq E_.lt g2.symm
  have V2 := Arf.new (n := 64) A2 (by decide) rfl
  obtain ⟨T3, h3, X3, e3, W3, st3⟩ := putF X2 hx hZ hown (host := "") (Or.inl (hw _ (List.mem_of_getElem? (i := 10) rfl))) Via.refl e2 (F_u.ext E2) (E_.ext E2) (Or.inl (hw _ (List.mem_of_getElem? (i := 11) rfl))) (hw _ (List.mem_of_getElem? (i := 1) rfl)) (ty := (.array .int)) (by decide) rfl rfl (g := (mkF m 9 #[.val (.ref a1)] [(.ref b2), (.ref a1)])) rfl rfl (hb hby d1_9)
  have Fw3 := (F_u.ext E2).same W3
  have N3 := Fr.snoc X3 N0 g_a1
  obtain ⟨T4, h4, k4, X4, e4, E4, A4, st4⟩ := newP X3 hx hZ (hw _ (List.mem_of_getElem? (i := 9) rfl)) e3 (g := (mkF m 15 #[.val (.ref a1)] [(.int (64 : Int32)), (.ref a1)])) rfl (hb hby d1_15) rfl (by decide) (cap := 64) (by decide) (by decide) (by decide) (by decide)
  obtain ⟨b4, g4⟩ : ∃ z, z = h3.size := ⟨_, rfl⟩
  rw [← g4] at A4 st4
  have g_b4 : n0 ≤ b4 := Nat.le_trans (Nat.le_trans (Nat.le_trans Z0 E2.1) (Keep.of_wr W3).1) (Nat.le_of_eq g4.symm)
  have lt_a1_b4 : a1 < b4 := Nat.lt_of_lt_of_eq ((E_.ext E2).wr W3).lt g4.symm
  have lt_b2_b4 : b2 < b4 := Nat.lt_of_lt_of_eq (V2.other W3 (Ne.symm (Nat.ne_of_lt lt_a1_b2))).lt g4.symm
  have V4 := Arf.new (n := 64) A4 (by decide) rfl
  obtain ⟨T5, h5, X5, e5, W5, st5⟩ := putF X4 hx hZ hown (host := "") (Or.inl (hw _ (List.mem_of_getElem? (i := 12) rfl))) Via.refl e4 (((F_v.ext E2).other W3 (Or.inr (slot_ne (Or.inl (hw _ (List.mem_of_getElem? (i := 13) rfl))) (Or.inl (hw _ (List.mem_of_getElem? (i := 11) rfl))) (by decide) (t := (.array .int)) (t' := (.array .int)) (by decide) (by decide)))).ext E4) (((E_.ext E2).wr W3).ext E4) (Or.inl (hw _ (List.mem_of_getElem? (i := 13) rfl))) (hw _ (List.mem_of_getElem? (i := 1) rfl)) (ty := (.array .int)) (by decide) rfl rfl (g := (mkF m 17 #[.val (.ref a1)] [(.ref b4), (.ref a1)])) rfl rfl (hb hby d1_17)
  have Fw5 := (((F_v.ext E2).other W3 (Or.inr (slot_ne (Or.inl (hw _ (List.mem_of_getElem? (i := 13) rfl))) (Or.inl (hw _ (List.mem_of_getElem? (i := 11) rfl))) (by decide) (t := (.array .int)) (t' := (.array .int)) (by decide) (by decide)))).ext E4).same W5
  have N5 := Fr.snoc X5 N3 g_a1
  obtain ⟨T6, h6, k6, X6, e6, E6, A6, st6⟩ := newP X5 hx hZ (hw _ (List.mem_of_getElem? (i := 9) rfl)) e5 (g := (mkF m 23 #[.val (.ref a1)] [(.int (64 : Int32)), (.ref a1)])) rfl (hb hby d1_23) rfl (by decide) (cap := 64) (by decide) (by decide) (by decide) (by decide)
  obtain ⟨b6, g6⟩ : ∃ z, z = h5.size := ⟨_, rfl⟩
  rw [← g6] at A6 st6
  have g_b6 : n0 ≤ b6 := Nat.le_trans (Nat.le_trans (Nat.le_trans (Nat.le_trans (Nat.le_trans Z0 E2.1) (Keep.of_wr W3).1) E4.1) (Keep.of_wr W5).1) (Nat.le_of_eq g6.symm)
  have lt_a1_b6 : a1 < b6 := Nat.lt_of_lt_of_eq ((((E_.ext E2).wr W3).ext E4).wr W5).lt g6.symm
  have lt_b2_b6 : b2 < b6 := Nat.lt_of_lt_of_eq (((V2.other W3 (Ne.symm (Nat.ne_of_lt lt_a1_b2))).ext E4).other W5 (Ne.symm (Nat.ne_of_lt lt_a1_b2))).lt g6.symm
  have lt_b4_b6 : b4 < b6 := Nat.lt_of_lt_of_eq (V4.other W5 (Ne.symm (Nat.ne_of_lt lt_a1_b4))).lt g6.symm
  have V6 := Arf.new (n := 64) A6 (by decide) rfl
  obtain ⟨T7, h7, X7, e7, W7, st7⟩ := putF X6 hx hZ hown (host := "") (Or.inl (hw _ (List.mem_of_getElem? (i := 14) rfl))) Via.refl e6 (((((F_s.ext E2).other W3 (Or.inr (slot_ne (Or.inl (hw _ (List.mem_of_getElem? (i := 15) rfl))) (Or.inl (hw _ (List.mem_of_getElem? (i := 11) rfl))) (by decide) (t := (.array .int)) (t' := (.array .int)) (by decide) (by decide)))).ext E4).other W5 (Or.inr (slot_ne (Or.inl (hw _ (List.mem_of_getElem? (i := 15) rfl))) (Or.inl (hw _ (List.mem_of_getElem? (i := 13) rfl))) (by decide) (t := (.array .int)) (t' := (.array .int)) (by decide) (by decide)))).ext E6) (((((E_.ext E2).wr W3).ext E4).wr W5).ext E6) (Or.inl (hw _ (List.mem_of_getElem? (i := 15) rfl))) (hw _ (List.mem_of_getElem? (i := 1) rfl)) (ty := (.array .int)) (by decide) rfl rfl (g := (mkF m 25 #[.val (.ref a1)] [(.ref b6), (.ref a1)])) rfl rfl (hb hby d1_25)
  have Fw7 := (((((F_s.ext E2).other W3 (Or.inr (slot_ne (Or.inl (hw _ (List.mem_of_getElem? (i := 15) rfl))) (Or.inl (hw _ (List.mem_of_getElem? (i := 11) rfl))) (by decide) (t := (.array .int)) (t' := (.array .int)) (by decide) (by decide)))).ext E4).other W5 (Or.inr (slot_ne (Or.inl (hw _ (List.mem_of_getElem? (i := 15) rfl))) (Or.inl (hw _ (List.mem_of_getElem? (i := 13) rfl))) (by decide) (t := (.array .int)) (t' := (.array .int)) (by decide) (by decide)))).ext E6).same W7
  have N7 := Fr.snoc X7 N5 g_a1
  obtain ⟨T8, h8, k8, X8, e8, E8, A8, st8⟩ := newP X7 hx hZ (hw _ (List.mem_of_getElem? (i := 9) rfl)) e7 (g := (mkF m 31 #[.val (.ref a1)] [(.int (64 : Int32)), (.ref a1)])) rfl (hb hby d1_31) rfl (by decide) (cap := 64) (by decide) (by decide) (by decide) (by decide)
  obtain ⟨b8, g8⟩ : ∃ z, z = h7.size := ⟨_, rfl⟩
  rw [← g8] at A8 st8
  have g_b8 : n0 ≤ b8 := Nat.le_trans (Nat.le_trans (Nat.le_trans (Nat.le_trans (Nat.le_trans (Nat.le_trans (Nat.le_trans Z0 E2.1) (Keep.of_wr W3).1) E4.1) (Keep.of_wr W5).1) E6.1) (Keep.of_wr W7).1) (Nat.le_of_eq g8.symm)
  have lt_a1_b8 : a1 < b8 := Nat.lt_of_lt_of_eq ((((((E_.ext E2).wr W3).ext E4).wr W5).ext E6).wr W7).lt g8.symm
  have lt_b2_b8 : b2 < b8 := Nat.lt_of_lt_of_eq (((((V2.other W3 (Ne.symm (Nat.ne_of_lt lt_a1_b2))).ext E4).other W5 (Ne.symm (Nat.ne_of_lt lt_a1_b2))).ext E6).other W7 (Ne.symm (Nat.ne_of_lt lt_a1_b2))).lt g8.symm
  have lt_b4_b8 : b4 < b8 := Nat.lt_of_lt_of_eq (((V4.other W5 (Ne.symm (Nat.ne_of_lt lt_a1_b4))).ext E6).other W7 (Ne.symm (Nat.ne_of_lt lt_a1_b4))).lt g8.symm
  have lt_b6_b8 : b6 < b8 := Nat.lt_of_lt_of_eq (V6.other W7 (Ne.symm (Nat.ne_of_lt lt_a1_b6))).lt g8.symm
  have V8 := Arf.new (n := 64) A8 (by decide) rfl
  obtain ⟨T9, h9, X9, e9, W9, st9⟩ := putF X8 hx hZ hown (host := "") (Or.inl (hw _ (List.mem_of_getElem? (i := 16) rfl))) Via.refl e8 (((((((F_o.ext E2).other W3 (Or.inr (slot_ne (Or.inl (hw _ (List.mem_of_getElem? (i := 17) rfl))) (Or.inl (hw _ (List.mem_of_getElem? (i := 11) rfl))) (by decide) (t := (.array .int)) (t' := (.array .int)) (by decide) (by decide)))).ext E4).other W5 (Or.inr (slot_ne (Or.inl (hw _ (List.mem_of_getElem? (i := 17) rfl))) (Or.inl (hw _ (List.mem_of_getElem? (i := 13) rfl))) (by decide) (t := (.array .int)) (t' := (.array .int)) (by decide) (by decide)))).ext E6).other W7 (Or.inr (slot_ne (Or.inl (hw _ (List.mem_of_getElem? (i := 17) rfl))) (Or.inl (hw _ (List.mem_of_getElem? (i := 15) rfl))) (by decide) (t := (.array .int)) (t' := (.array .int)) (by decide) (by decide)))).ext E8) (((((((E_.ext E2).wr W3).ext E4).wr W5).ext E6).wr W7).ext E8) (Or.inl (hw _ (List.mem_of_getElem? (i := 17) rfl))) (hw _ (List.mem_of_getElem? (i := 1) rfl)) (ty := (.array .int)) (by decide) rfl rfl (g := (mkF m 33 #[.val (.ref a1)] [(.ref b8), (.ref a1)])) rfl rfl (hb hby d1_33)
  have Fw9 := (((((((F_o.ext E2).other W3 (Or.inr (slot_ne (Or.inl (hw _ (List.mem_of_getElem? (i := 17) rfl))) (Or.inl (hw _ (List.mem_of_getElem? (i := 11) rfl))) (by decide) (t := (.array .int)) (t' := (.array .int)) (by decide) (by decide)))).ext E4).other W5 (Or.inr (slot_ne (Or.inl (hw _ (List.mem_of_getElem? (i := 17) rfl))) (Or.inl (hw _ (List.mem_of_getElem? (i := 13) rfl))) (by decide) (t := (.array .int)) (t' := (.array .int)) (by decide) (by decide)))).ext E6).other W7 (Or.inr (slot_ne (Or.inl (hw _ (List.mem_of_getElem? (i := 17) rfl))) (Or.inl (hw _ (List.mem_of_getElem? (i := 15) rfl))) (by decide) (t := (.array .int)) (t' := (.array .int)) (by decide) (by decide)))).ext E8).same W9
  have N9 := Fr.snoc X9 N7 g_a1
  obtain ⟨fs, hr, hrun, hended, hW, hsame⟩ := X9.leave (v := none) (fun _ => rfl)
  refine ⟨_, _, pre0 _ ?_, hrun, hended, _, _, rfl, ?_, ⟨_, rfl⟩, hW, hsame.mono (by decide) (by decide)⟩
  · show Steps p.tables e below (s₁.setTop (mkF m 0 #[.val (.ref a1)] [])) _
    refine XS.aloadN X0.here hx rfl (hb hby d1_0) rfl rfl ?_
    show Steps p.tables e below (s₁.setTop (mkF m 1 #[.val (.ref a1)] [(.ref a1)])) _
    refine st1 _ ?_
    show Steps p.tables e below (T1.setTop (mkF m 4 #[.val (.ref a1)] [])) _
    refine XS.aloadN X1.here hx rfl (hb hby d1_4) rfl rfl ?_
    show Steps p.tables e below (T1.setTop (mkF m 5 #[.val (.ref a1)] [(.ref a1)])) _
    refine XS.bipush X1.here hx rfl (hb hby d1_5) ?_
    show Steps p.tables e below (T1.setTop (mkF m 7 #[.val (.ref a1)] [(.int (64 : Int32)), (.ref a1)])) _
    refine st2 _ ?_
    show Steps p.tables e below (T2.setTop (mkF m 9 #[.val (.ref a1)] [(.ref b2), (.ref a1)])) _
    refine st3 _ ?_
    show Steps p.tables e below (T3.setTop (mkF m 12 #[.val (.ref a1)] [])) _
    refine XS.aloadN X3.here hx rfl (hb hby d1_12) rfl rfl ?_
    show Steps p.tables e below (T3.setTop (mkF m 13 #[.val (.ref a1)] [(.ref a1)])) _
    refine XS.bipush X3.here hx rfl (hb hby d1_13) ?_
    show Steps p.tables e below (T3.setTop (mkF m 15 #[.val (.ref a1)] [(.int (64 : Int32)), (.ref a1)])) _
    refine st4 _ ?_
    show Steps p.tables e below (T4.setTop (mkF m 17 #[.val (.ref a1)] [(.ref b4), (.ref a1)])) _
    refine st5 _ ?_
    show Steps p.tables e below (T5.setTop (mkF m 20 #[.val (.ref a1)] [])) _
    refine XS.aloadN X5.here hx rfl (hb hby d1_20) rfl rfl ?_
    show Steps p.tables e below (T5.setTop (mkF m 21 #[.val (.ref a1)] [(.ref a1)])) _
    refine XS.bipush X5.here hx rfl (hb hby d1_21) ?_
    show Steps p.tables e below (T5.setTop (mkF m 23 #[.val (.ref a1)] [(.int (64 : Int32)), (.ref a1)])) _
    refine st6 _ ?_
    show Steps p.tables e below (T6.setTop (mkF m 25 #[.val (.ref a1)] [(.ref b6), (.ref a1)])) _
    refine st7 _ ?_
    show Steps p.tables e below (T7.setTop (mkF m 28 #[.val (.ref a1)] [])) _
    refine XS.aloadN X7.here hx rfl (hb hby d1_28) rfl rfl ?_
    show Steps p.tables e below (T7.setTop (mkF m 29 #[.val (.ref a1)] [(.ref a1)])) _
    refine XS.bipush X7.here hx rfl (hb hby d1_29) ?_
    show Steps p.tables e below (T7.setTop (mkF m 31 #[.val (.ref a1)] [(.int (64 : Int32)), (.ref a1)])) _
    refine st8 _ ?_
    show Steps p.tables e below (T8.setTop (mkF m 33 #[.val (.ref a1)] [(.ref b8), (.ref a1)])) _
    refine st9 _ ?_
    show Steps p.tables e below (T9.setTop (mkF m 36 #[.val (.ref a1)] [])) _
    exact X9.returnOut hx Bd.returns (hb hby d1_36) hr
  · show Q_own_init Z a1  h0 n0 _ T9.heap _
    rw [e9]
    exact ⟨rfl, N9, b2, b4, b6, b8, k2, k4, k6, k8, g_b2, ⟨lt_a1_b2, lt_b2_b4, lt_b4_b6, lt_b6_b8⟩, ((((((((E_.ext E2).wr W3).ext E4).wr W5).ext E6).wr W7).ext E8).wr W9), ((((((Fw3.ext E4).other W5 (Or.inr (slot_ne (Or.inl (hw _ (List.mem_of_getElem? (i := 11) rfl))) (Or.inl (hw _ (List.mem_of_getElem? (i := 13) rfl))) (by decide) (t := (.array .int)) (t' := (.array .int)) (by decide) (by decide)))).ext E6).other W7 (Or.inr (slot_ne (Or.inl (hw _ (List.mem_of_getElem? (i := 11) rfl))) (Or.inl (hw _ (List.mem_of_getElem? (i := 15) rfl))) (by decide) (t := (.array .int)) (t' := (.array .int)) (by decide) (by decide)))).ext E8).other W9 (Or.inr (slot_ne (Or.inl (hw _ (List.mem_of_getElem? (i := 11) rfl))) (Or.inl (hw _ (List.mem_of_getElem? (i := 17) rfl))) (by decide) (t := (.array .int)) (t' := (.array .int)) (by decide) (by decide)))), ((((Fw5.ext E6).other W7 (Or.inr (slot_ne (Or.inl (hw _ (List.mem_of_getElem? (i := 13) rfl))) (Or.inl (hw _ (List.mem_of_getElem? (i := 15) rfl))) (by decide) (t := (.array .int)) (t' := (.array .int)) (by decide) (by decide)))).ext E8).other W9 (Or.inr (slot_ne (Or.inl (hw _ (List.mem_of_getElem? (i := 13) rfl))) (Or.inl (hw _ (List.mem_of_getElem? (i := 17) rfl))) (by decide) (t := (.array .int)) (t' := (.array .int)) (by decide) (by decide)))), ((Fw7.ext E8).other W9 (Or.inr (slot_ne (Or.inl (hw _ (List.mem_of_getElem? (i := 15) rfl))) (Or.inl (hw _ (List.mem_of_getElem? (i := 17) rfl))) (by decide) (t := (.array .int)) (t' := (.array .int)) (by decide) (by decide)))), Fw9, ((((((((F_c.ext E2).other W3 (Or.inr (slot_ne (Or.inl (hw _ (List.mem_of_getElem? (i := 24) rfl))) (Or.inl (hw _ (List.mem_of_getElem? (i := 11) rfl))) (by decide) (t := .int) (t' := (.array .int)) (by decide) (by decide)))).ext E4).other W5 (Or.inr (slot_ne (Or.inl (hw _ (List.mem_of_getElem? (i := 24) rfl))) (Or.inl (hw _ (List.mem_of_getElem? (i := 13) rfl))) (by decide) (t := .int) (t' := (.array .int)) (by decide) (by decide)))).ext E6).other W7 (Or.inr (slot_ne (Or.inl (hw _ (List.mem_of_getElem? (i := 24) rfl))) (Or.inl (hw _ (List.mem_of_getElem? (i := 15) rfl))) (by decide) (t := .int) (t' := (.array .int)) (by decide) (by decide)))).ext E8).other W9 (Or.inr (slot_ne (Or.inl (hw _ (List.mem_of_getElem? (i := 24) rfl))) (Or.inl (hw _ (List.mem_of_getElem? (i := 17) rfl))) (by decide) (t := .int) (t' := (.array .int)) (by decide) (by decide)))), (((((((V2.other W3 (Ne.symm (Nat.ne_of_lt lt_a1_b2))).ext E4).other W5 (Ne.symm (Nat.ne_of_lt lt_a1_b2))).ext E6).other W7 (Ne.symm (Nat.ne_of_lt lt_a1_b2))).ext E8).other W9 (Ne.symm (Nat.ne_of_lt lt_a1_b2))), (((((V4.other W5 (Ne.symm (Nat.ne_of_lt lt_a1_b4))).ext E6).other W7 (Ne.symm (Nat.ne_of_lt lt_a1_b4))).ext E8).other W9 (Ne.symm (Nat.ne_of_lt lt_a1_b4))), (((V6.other W7 (Ne.symm (Nat.ne_of_lt lt_a1_b6))).ext E8).other W9 (Ne.symm (Nat.ne_of_lt lt_a1_b6))), (V8.other W9 (Ne.symm (Nat.ne_of_lt lt_a1_b8)))⟩
theorem d3_0 : decode prog_25_method_12_code 0 = .ok (.aload_n 0, 1) := by decide +kernel
theorem d3_1 : decode prog_25_method_12_code 1 = .ok (.getfield 22, 3) := by decide +kernel
theorem d3_4 : decode prog_25_method_12_code 4 = .ok (.aload_n 0, 1) := by decide +kernel
theorem d3_5 : decode prog_25_method_12_code 5 = .ok (.getfield 7, 3) := by decide +kernel
theorem d3_8 : decode prog_25_method_12_code 8 = .ok (.arraylength, 1) := by decide +kernel
theorem d3_9 : decode prog_25_method_12_code 9 = .ok (.if_icmp .ne 89, 3) := by decide +kernel
theorem d3_98 : decode prog_25_method_12_code 98 = .ok (.aload_n 0, 1) := by decide +kernel
theorem d3_99 : decode prog_25_method_12_code 99 = .ok (.getfield 7, 3) := by decide +kernel
theorem d3_102 : decode prog_25_method_12_code 102 = .ok (.aload_n 0, 1) := by decide +kernel
theorem d3_103 : decode prog_25_method_12_code 103 = .ok (.getfield 22, 3) := by decide +kernel
theorem d3_106 : decode prog_25_method_12_code 106 = .ok (.iload_n 1, 1) := by decide +kernel
theorem d3_107 : decode prog_25_method_12_code 107 = .ok (.iastore, 1) := by decide +kernel
theorem d3_108 : decode prog_25_method_12_code 108 = .ok (.aload_n 0, 1) := by decide +kernel
theorem d3_109 : decode prog_25_method_12_code 109 = .ok (.getfield 13, 3) := by decide +kernel
theorem d3_112 : decode prog_25_method_12_code 112 = .ok (.aload_n 0, 1) := by decide +kernel
theorem d3_113 : decode prog_25_method_12_code 113 = .ok (.getfield 22, 3) := by decide +kernel
theorem d3_116 : decode prog_25_method_12_code 116 = .ok (.iload_n 2, 1) := by decide +kernel
theorem d3_117 : decode prog_25_method_12_code 117 = .ok (.iastore, 1) := by decide +kernel
theorem d3_118 : decode prog_25_method_12_code 118 = .ok (.aload_n 0, 1) := by decide +kernel
theorem d3_119 : decode prog_25_method_12_code 119 = .ok (.getfield 16, 3) := by decide +kernel
theorem d3_122 : decode prog_25_method_12_code 122 = .ok (.aload_n 0, 1) := by decide +kernel
theorem d3_123 : decode prog_25_method_12_code 123 = .ok (.getfield 22, 3) := by decide +kernel
theorem d3_126 : decode prog_25_method_12_code 126 = .ok (.iload_n 3, 1) := by decide +kernel
theorem d3_127 : decode prog_25_method_12_code 127 = .ok (.iastore, 1) := by decide +kernel
theorem d3_128 : decode prog_25_method_12_code 128 = .ok (.aload_n 0, 1) := by decide +kernel
theorem d3_129 : decode prog_25_method_12_code 129 = .ok (.getfield 19, 3) := by decide +kernel
theorem d3_132 : decode prog_25_method_12_code 132 = .ok (.aload_n 0, 1) := by decide +kernel
theorem d3_133 : decode prog_25_method_12_code 133 = .ok (.getfield 22, 3) := by decide +kernel
theorem d3_136 : decode prog_25_method_12_code 136 = .ok (.iload 4, 2) := by decide +kernel
theorem d3_138 : decode prog_25_method_12_code 138 = .ok (.iastore, 1) := by decide +kernel
theorem d3_139 : decode prog_25_method_12_code 139 = .ok (.aload_n 0, 1) := by decide +kernel
theorem d3_140 : decode prog_25_method_12_code 140 = .ok (.dup, 1) := by decide +kernel
theorem d3_141 : decode prog_25_method_12_code 141 = .ok (.getfield 22, 3) := by decide +kernel
theorem d3_144 : decode prog_25_method_12_code 144 = .ok (.iconst 1, 1) := by decide +kernel
theorem d3_145 : decode prog_25_method_12_code 145 = .ok (.iadd, 1) := by decide +kernel
theorem d3_146 : decode prog_25_method_12_code 146 = .ok (.putfield 22, 3) := by decide +kernel
theorem d3_149 : decode prog_25_method_12_code 149 = .ok (.return_, 1) := by decide +kernel
theorem pn_own_add : plainName "com/example/knitwork/knitwork/bibliometric/ScoredPairs" = true := by first | (simp [plainName, overriddenIn]; done) | decide +kernel
theorem ef_own_add (m : MethodId) (x0 : Addr) (x1 : Int32) (x2 : Int32) (x3 : Int32) (x4 : Int32) : entryFrame m #[(.ref x0), (.int x1), (.int x2), (.int x3), (.int x4)] 6 = mkF m 0 #[.val (.ref x0), .val (.int x1), .val (.int x2), .val (.int x3), .val (.int x4), .unset] [] := by first | (simp [entryFrame, mkF, argsToLocals, Value.category]; done) | rfl
def Q_own_add (Z : State) (a1 : Addr) (p1 : Int32) (p2 : Int32) (p3 : Int32) (p4 : Int32) (cnt : Int32) (i : Nat) (au : Addr) (av : Addr) (as_ : Addr) (ao : Addr) (ku : ClassId) (kv : ClassId) (ks : ClassId) (ko : ClassId) (fu : Nat → Value) (fv : Nat → Value) (fsh : Nat → Value) (fo : Nat → Value) (h0 : Heap) (n0 : Nat) (v : Option Value) (h : Heap) (L : List Loc) : Prop := v = none ∧ Fr n0 L ∧ Keep h0 h [a1, au, av, as_, ao] ∧ Exa Z h a1 "com/example/knitwork/knitwork/bibliometric/ScoredPairs" ∧ Fld Z h a1 "com/example/knitwork/knitwork/bibliometric/ScoredPairs" "u" "[I" (.ref au) ∧ Fld Z h a1 "com/example/knitwork/knitwork/bibliometric/ScoredPairs" "v" "[I" (.ref av) ∧ Fld Z h a1 "com/example/knitwork/knitwork/bibliometric/ScoredPairs" "shared" "[I" (.ref as_) ∧ Fld Z h a1 "com/example/knitwork/knitwork/bibliometric/ScoredPairs" "outOf" "[I" (.ref ao) ∧ Fld Z h a1 "com/example/knitwork/knitwork/bibliometric/ScoredPairs" "count" "I" (.int (cnt + (1 : Int32))) ∧ Arf Z h au ku .int 64 (upd fu i (.int p1)) ∧ Arf Z h av kv .int 64 (upd fv i (.int p2)) ∧ Arf Z h as_ ks .int 64 (upd fsh i (.int p3)) ∧ Arf Z h ao ko .int 64 (upd fo i (.int p4))
set_option maxRecDepth 65536 in
set_option maxHeartbeats 40000000 in
theorem own_add (l : Launch) (Z : State) (a0 : Array Value) (hw : ∀ d ∈ tables_1, d.before a0 Z = true) (ws : List Jvm.Cond) (a1 : Addr) (p1 : Int32) (p2 : Int32) (p3 : Int32) (p4 : Int32) (cnt : Int32) (i : Nat) (au : Addr) (av : Addr) (as_ : Addr) (ao : Addr) (ku : ClassId) (kv : ClassId) (ks : ClassId) (ko : ClassId) (fu : Nat → Value) (fv : Nat → Value) (fsh : Nat → Value) (fo : Nat → Value) (h0 : Heap) (n0 : Nat) (Z0 : n0 ≤ h0.size) (hix : ¬ cnt < 0 ∧ cnt.toNatClampNeg = i) (hi : i < 64) (hne : ¬ cnt = (64 : Int32)) (g_a1 : n0 ≤ a1) (l1 : a1 < au) (l2 : au < av) (l3 : av < as_) (l4 : as_ < ao) (g_au : n0 ≤ au) (g_av : n0 ≤ av) (g_as_ : n0 ≤ as_) (g_ao : n0 ≤ ao) (E_ : Exa Z h0 a1 "com/example/knitwork/knitwork/bibliometric/ScoredPairs") (F_u : Fld Z h0 a1 "com/example/knitwork/knitwork/bibliometric/ScoredPairs" "u" "[I" (.ref au)) (F_v : Fld Z h0 a1 "com/example/knitwork/knitwork/bibliometric/ScoredPairs" "v" "[I" (.ref av)) (F_s : Fld Z h0 a1 "com/example/knitwork/knitwork/bibliometric/ScoredPairs" "shared" "[I" (.ref as_)) (F_o : Fld Z h0 a1 "com/example/knitwork/knitwork/bibliometric/ScoredPairs" "outOf" "[I" (.ref ao)) (F_c : Fld Z h0 a1 "com/example/knitwork/knitwork/bibliometric/ScoredPairs" "count" "I" (.int cnt)) (V_u : Arf Z h0 au ku .int 64 fu) (V_v : Arf Z h0 av kv .int 64 fv) (V_s : Arf Z h0 as_ ks .int 64 fsh) (V_o : Arf Z h0 ao ko .int 64 fo) :
    MetFree l (⟨"com/example/knitwork/knitwork/bibliometric/ScoredPairs", "add", "(IIII)V"⟩ : MethodName) (head1 (Jvm.Cond.code (⟨"com/example/knitwork/knitwork/bibliometric/ScoredPairs", "add", "(IIII)V"⟩ : MethodName) prog_25_method_12_code 6 none :: ws) ({ frames := 0, cells := 0, slots := 0, locals := 0 } : Room)) (fun a U => a = #[(.ref a1), (.int p1), (.int p2), (.int p3), (.int p4)] ∧ Z.Warmed39 U.vm ∧ U.heap = h0) (fun _ _ _ _ _ => True) (fun _ U o U' => ∃ v L, o = .returned v ∧ Q_own_add Z a1 p1 p2 p3 p4 cnt i au av as_ ao ku kv ks ko fu fv fsh fo h0 n0 v U'.heap L ∧ FrameEnd U o U' L ({ frames := 0, cells := 0, slots := 0, locals := 0 } : Room).cells ({ frames := 0, cells := 0, slots := 0, locals := 0 } : Room).slots) := by
  refine MetFree.of_bodySF (plainFor_of_name pn_own_add) hisR ?_
  intro p e s m args below meth c s₁ Bd hml0 hP hK
  obtain ⟨rfl, hZ, hh⟩ := hP
  have hx := Bd.exec
  have hby := Bd.bytes
  have hml : c.maxLocals = 6 := hml0
  have hown : s.vm.findClass "com/example/knitwork/knitwork/bibliometric/ScoredPairs" = some m.cls := findClass_of_methodNamed Bd.named
  have hnm := (name_of_methodNamed Bd.named Bd.method).1
  have X0 : Stand p l e ({ frames := 0, cells := 0, slots := 0, locals := 0 } : Room) s m #[(.ref a1), (.int p1), (.int p2), (.int p3), (.int p4)] below meth c s₁ [] 0 0 := Stand.of_body Bd
  have e0 : s₁.heap = h0 := by rw [← hh, Bd.state]; rfl
  have N0 := Fr.nil n0
  have pre0 : ∀ t, Steps p.tables e below (s₁.setTop (mkF m 0 #[.val (.ref a1), .val (.int p1), .val (.int p2), .val (.int p3), .val (.int p4), .unset] [])) t → Steps p.tables e below (s₁.setTop (entryFrame m #[(.ref a1), (.int p1), (.int p2), (.int p3), (.int p4)] 6)) t := fun t k => castTop (ef_own_add m (a1) (p1) (p2) (p3) (p4)) k
  obtain ⟨T10, X10, e10, st10⟩ := getF X0 hx hZ hown (host := "") (Or.inl (hw _ (List.mem_of_getElem? (i := 23) rfl))) Via.refl e0 F_c (g := (mkF m 1 #[.val (.ref a1), .val (.int p1), .val (.int p2), .val (.int p3), .val (.int p4), .unset] [(.ref a1)])) rfl rfl (hb hby d3_1)
  obtain ⟨T11, X11, e11, st11⟩ := getF X10 hx hZ hown (host := "") (Or.inl (hw _ (List.mem_of_getElem? (i := 10) rfl))) Via.refl e10 F_u (g := (mkF m 5 #[.val (.ref a1), .val (.int p1), .val (.int p2), .val (.int p3), .val (.int p4), .unset] [(.ref a1), (.int cnt)])) rfl rfl (hb hby d3_5)
  obtain ⟨cl12, Ar12, qk12, S12, B12, H12, G12⟩ := id V_u
  obtain ⟨T13, X13, e13, st13⟩ := getF X11 hx hZ hown (host := "") (Or.inl (hw _ (List.mem_of_getElem? (i := 10) rfl))) Via.refl e11 F_u (g := (mkF m 99 #[.val (.ref a1), .val (.int p1), .val (.int p2), .val (.int p3), .val (.int p4), .unset] [(.ref a1)])) rfl rfl (hb hby d3_99)
  obtain ⟨T14, X14, e14, st14⟩ := getF X13 hx hZ hown (host := "") (Or.inl (hw _ (List.mem_of_getElem? (i := 23) rfl))) Via.refl e13 F_c (g := (mkF m 103 #[.val (.ref a1), .val (.int p1), .val (.int p2), .val (.int p3), .val (.int p4), .unset] [(.ref a1), (.ref au)])) rfl rfl (hb hby d3_103)
  obtain ⟨cl15, Ar15, qk15, S15, B15, H15, G15⟩ := id V_u
  have hin15 : ¬ (cnt < 0 ∨ cl15.slots.size ≤ (cnt).toNatClampNeg) := own_inb S15 hix hi
  obtain ⟨T15, h15, X15, e15, W15, st15⟩ := stI X14 hx hZ e14 Ar15 (j := cnt) hin15 (g := (mkF m 107 #[.val (.ref a1), .val (.int p1), .val (.int p2), .val (.int p3), .val (.int p4), .unset] [(.int p1), (.int cnt), (.ref au)])) rfl rfl (hb hby d3_107)
  have V15 := own_set Ar15 qk15 S15 B15 H15 G15 rfl hix W15
  have N15 := Fr.snoc X15 N0 g_au
  have K15 : Keep h0 h15 [a1, au, av, as_, ao] := (Keep.refl h0 [a1, au, av, as_, ao]).wr W15 (Or.inl (List.mem_of_getElem? (i := 1) rfl))
  obtain ⟨T16, X16, e16, st16⟩ := getF X15 hx hZ hown (host := "") (Or.inl (hw _ (List.mem_of_getElem? (i := 12) rfl))) Via.refl e15 (F_v.other W15 (Or.inl (Nat.ne_of_lt l1))) (g := (mkF m 109 #[.val (.ref a1), .val (.int p1), .val (.int p2), .val (.int p3), .val (.int p4), .unset] [(.ref a1)])) rfl rfl (hb hby d3_109)
  obtain ⟨T17, X17, e17, st17⟩ := getF X16 hx hZ hown (host := "") (Or.inl (hw _ (List.mem_of_getElem? (i := 23) rfl))) Via.refl e16 (F_c.other W15 (Or.inl (Nat.ne_of_lt l1))) (g := (mkF m 113 #[.val (.ref a1), .val (.int p1), .val (.int p2), .val (.int p3), .val (.int p4), .unset] [(.ref a1), (.ref av)])) rfl rfl (hb hby d3_113)
  obtain ⟨cl18, Ar18, qk18, S18, B18, H18, G18⟩ := id (V_v.other W15 (Ne.symm (Nat.ne_of_lt l2)))
  have hin18 : ¬ (cnt < 0 ∨ cl18.slots.size ≤ (cnt).toNatClampNeg) := own_inb S18 hix hi
  obtain ⟨T18, h18, X18, e18, W18, st18⟩ := stI X17 hx hZ e17 Ar18 (j := cnt) hin18 (g := (mkF m 117 #[.val (.ref a1), .val (.int p1), .val (.int p2), .val (.int p3), .val (.int p4), .unset] [(.int p2), (.int cnt), (.ref av)])) rfl rfl (hb hby d3_117)
  have V18 := own_set Ar18 qk18 S18 B18 H18 G18 rfl hix W18
  have N18 := Fr.snoc X18 N15 g_av
  have K18 : Keep h0 h18 [a1, au, av, as_, ao] := K15.wr W18 (Or.inl (List.mem_of_getElem? (i := 2) rfl))
  obtain ⟨T19, X19, e19, st19⟩ := getF X18 hx hZ hown (host := "") (Or.inl (hw _ (List.mem_of_getElem? (i := 14) rfl))) Via.refl e18 ((F_s.other W15 (Or.inl (Nat.ne_of_lt l1))).other W18 (Or.inl (Nat.ne_of_lt (Nat.lt_trans l1 l2)))) (g := (mkF m 119 #[.val (.ref a1), .val (.int p1), .val (.int p2), .val (.int p3), .val (.int p4), .unset] [(.ref a1)])) rfl rfl (hb hby d3_119)
  obtain ⟨T20, X20, e20, st20⟩ := getF X19 hx hZ hown (host := "") (Or.inl (hw _ (List.mem_of_getElem? (i := 23) rfl))) Via.refl e19 ((F_c.other W15 (Or.inl (Nat.ne_of_lt l1))).other W18 (Or.inl (Nat.ne_of_lt (Nat.lt_trans l1 l2)))) (g := (mkF m 123 #[.val (.ref a1), .val (.int p1), .val (.int p2), .val (.int p3), .val (.int p4), .unset] [(.ref a1), (.ref as_)])) rfl rfl (hb hby d3_123)
  obtain ⟨cl21, Ar21, qk21, S21, B21, H21, G21⟩ := id ((V_s.other W15 (Ne.symm (Nat.ne_of_lt (Nat.lt_trans l2 l3)))).other W18 (Ne.symm (Nat.ne_of_lt l3)))
  have hin21 : ¬ (cnt < 0 ∨ cl21.slots.size ≤ (cnt).toNatClampNeg) := own_inb S21 hix hi
  obtain ⟨T21, h21, X21, e21, W21, st21⟩ := stI X20 hx hZ e20 Ar21 (j := cnt) hin21 (g := (mkF m 127 #[.val (.ref a1), .val (.int p1), .val (.int p2), .val (.int p3), .val (.int p4), .unset] [(.int p3), (.int cnt), (.ref as_)])) rfl rfl (hb hby d3_127)
  have V21 := own_set Ar21 qk21 S21 B21 H21 G21 rfl hix W21
  have N21 := Fr.snoc X21 N18 g_as_
  have K21 : Keep h0 h21 [a1, au, av, as_, ao] := K18.wr W21 (Or.inl (List.mem_of_getElem? (i := 3) rfl))
  obtain ⟨T22, X22, e22, st22⟩ := getF X21 hx hZ hown (host := "") (Or.inl (hw _ (List.mem_of_getElem? (i := 16) rfl))) Via.refl e21 (((F_o.other W15 (Or.inl (Nat.ne_of_lt l1))).other W18 (Or.inl (Nat.ne_of_lt (Nat.lt_trans l1 l2)))).other W21 (Or.inl (Nat.ne_of_lt (Nat.lt_trans (Nat.lt_trans l1 l2) l3)))) (g := (mkF m 129 #[.val (.ref a1), .val (.int p1), .val (.int p2), .val (.int p3), .val (.int p4), .unset] [(.ref a1)])) rfl rfl (hb hby d3_129)
  obtain ⟨T23, X23, e23, st23⟩ := getF X22 hx hZ hown (host := "") (Or.inl (hw _ (List.mem_of_getElem? (i := 23) rfl))) Via.refl e22 (((F_c.other W15 (Or.inl (Nat.ne_of_lt l1))).other W18 (Or.inl (Nat.ne_of_lt (Nat.lt_trans l1 l2)))).other W21 (Or.inl (Nat.ne_of_lt (Nat.lt_trans (Nat.lt_trans l1 l2) l3)))) (g := (mkF m 133 #[.val (.ref a1), .val (.int p1), .val (.int p2), .val (.int p3), .val (.int p4), .unset] [(.ref a1), (.ref ao)])) rfl rfl (hb hby d3_133)
  obtain ⟨cl24, Ar24, qk24, S24, B24, H24, G24⟩ := id (((V_o.other W15 (Ne.symm (Nat.ne_of_lt (Nat.lt_trans (Nat.lt_trans l2 l3) l4)))).other W18 (Ne.symm (Nat.ne_of_lt (Nat.lt_trans l3 l4)))).other W21 (Ne.symm (Nat.ne_of_lt l4)))
  have hin24 : ¬ (cnt < 0 ∨ cl24.slots.size ≤ (cnt).toNatClampNeg) := own_inb S24 hix hi
  obtain ⟨T24, h24, X24, e24, W24, st24⟩ := stI X23 hx hZ e23 Ar24 (j := cnt) hin24 (g := (mkF m 138 #[.val (.ref a1), .val (.int p1), .val (.int p2), .val (.int p3), .val (.int p4), .unset] [(.int p4), (.int cnt), (.ref ao)])) rfl rfl (hb hby d3_138)
  have V24 := own_set Ar24 qk24 S24 B24 H24 G24 rfl hix W24
  have N24 := Fr.snoc X24 N21 g_ao
  have K24 : Keep h0 h24 [a1, au, av, as_, ao] := K21.wr W24 (Or.inl (List.mem_of_getElem? (i := 4) rfl))
  obtain ⟨T25, X25, e25, st25⟩ := getF X24 hx hZ hown (host := "") (Or.inl (hw _ (List.mem_of_getElem? (i := 23) rfl))) Via.refl e24 ((((F_c.other W15 (Or.inl (Nat.ne_of_lt l1))).other W18 (Or.inl (Nat.ne_of_lt (Nat.lt_trans l1 l2)))).other W21 (Or.inl (Nat.ne_of_lt (Nat.lt_trans (Nat.lt_trans l1 l2) l3)))).other W24 (Or.inl (Nat.ne_of_lt (Nat.lt_trans (Nat.lt_trans (Nat.lt_trans l1 l2) l3) l4)))) (g := (mkF m 141 #[.val (.ref a1), .val (.int p1), .val (.int p2), .val (.int p3), .val (.int p4), .unset] [(.ref a1), (.ref a1)])) rfl rfl (hb hby d3_141)
  obtain ⟨T26, h26, X26, e26, W26, st26⟩ := putF X25 hx hZ hown (host := "") (Or.inl (hw _ (List.mem_of_getElem? (i := 23) rfl))) Via.refl e25 ((((F_c.other W15 (Or.inl (Nat.ne_of_lt l1))).other W18 (Or.inl (Nat.ne_of_lt (Nat.lt_trans l1 l2)))).other W21 (Or.inl (Nat.ne_of_lt (Nat.lt_trans (Nat.lt_trans l1 l2) l3)))).other W24 (Or.inl (Nat.ne_of_lt (Nat.lt_trans (Nat.lt_trans (Nat.lt_trans l1 l2) l3) l4)))) ((((E_.wr W15).wr W18).wr W21).wr W24) (Or.inl (hw _ (List.mem_of_getElem? (i := 24) rfl))) (hw _ (List.mem_of_getElem? (i := 1) rfl)) (ty := .int) (by decide) rfl rfl (g := (mkF m 146 #[.val (.ref a1), .val (.int p1), .val (.int p2), .val (.int p3), .val (.int p4), .unset] [(.int (cnt + (1 : Int32))), (.ref a1)])) rfl rfl (hb hby d3_146)
  have Fw26 := ((((F_c.other W15 (Or.inl (Nat.ne_of_lt l1))).other W18 (Or.inl (Nat.ne_of_lt (Nat.lt_trans l1 l2)))).other W21 (Or.inl (Nat.ne_of_lt (Nat.lt_trans (Nat.lt_trans l1 l2) l3)))).other W24 (Or.inl (Nat.ne_of_lt (Nat.lt_trans (Nat.lt_trans (Nat.lt_trans l1 l2) l3) l4)))).same W26
  have N26 := Fr.snoc X26 N24 g_a1
  have K26 : Keep h0 h26 [a1, au, av, as_, ao] := K24.wr W26 (Or.inl (List.mem_of_getElem? (i := 0) rfl))
  obtain ⟨fs, hr, hrun, hended, hW, hsame⟩ := X26.leave (v := none) (fun _ => rfl)
  refine ⟨_, _, pre0 _ ?_, hrun, hended, _, _, rfl, ?_, ⟨_, rfl⟩, hW, hsame.mono (by decide) (by decide)⟩
  · show Steps p.tables e below (s₁.setTop (mkF m 0 #[.val (.ref a1), .val (.int p1), .val (.int p2), .val (.int p3), .val (.int p4), .unset] [])) _
    refine XS.aloadN X0.here hx rfl (hb hby d3_0) rfl rfl ?_
    show Steps p.tables e below (s₁.setTop (mkF m 1 #[.val (.ref a1), .val (.int p1), .val (.int p2), .val (.int p3), .val (.int p4), .unset] [(.ref a1)])) _
    refine st10 _ ?_
    show Steps p.tables e below (T10.setTop (mkF m 4 #[.val (.ref a1), .val (.int p1), .val (.int p2), .val (.int p3), .val (.int p4), .unset] [(.int cnt)])) _
    refine XS.aloadN X10.here hx rfl (hb hby d3_4) rfl rfl ?_
    show Steps p.tables e below (T10.setTop (mkF m 5 #[.val (.ref a1), .val (.int p1), .val (.int p2), .val (.int p3), .val (.int p4), .unset] [(.ref a1), (.int cnt)])) _
    refine st11 _ ?_
    show Steps p.tables e below (T11.setTop (mkF m 8 #[.val (.ref a1), .val (.int p1), .val (.int p2), .val (.int p3), .val (.int p4), .unset] [(.ref au), (.int cnt)])) _
    refine X11.arraylength hx (by rw [e11]; exact Ar12.1) (State.isArrayOf_alike hZ.alike Ar12.2.1) (g := (mkF m 8 #[.val (.ref a1), .val (.int p1), .val (.int p2), .val (.int p3), .val (.int p4), .unset] [(.ref au), (.int cnt)])) rfl rfl (hb hby d3_8) _ ?_
    rw [S12]
    show Steps p.tables e below (T11.setTop (mkF m 9 #[.val (.ref a1), .val (.int p1), .val (.int p2), .val (.int p3), .val (.int p4), .unset] [(.int (64 : Int32)), (.int cnt)])) _
    refine XS.icmpYes X11.here hx rfl (pc0 := 9) (pc' := 98) rfl (hb hby d3_9) rfl (XT.ii_ne_t hne) (by decide) (by decide) ?_
    show Steps p.tables e below (T11.setTop (mkF m 98 #[.val (.ref a1), .val (.int p1), .val (.int p2), .val (.int p3), .val (.int p4), .unset] [])) _
    refine XS.aloadN X11.here hx rfl (hb hby d3_98) rfl rfl ?_
    show Steps p.tables e below (T11.setTop (mkF m 99 #[.val (.ref a1), .val (.int p1), .val (.int p2), .val (.int p3), .val (.int p4), .unset] [(.ref a1)])) _
    refine st13 _ ?_
    show Steps p.tables e below (T13.setTop (mkF m 102 #[.val (.ref a1), .val (.int p1), .val (.int p2), .val (.int p3), .val (.int p4), .unset] [(.ref au)])) _
    refine XS.aloadN X13.here hx rfl (hb hby d3_102) rfl rfl ?_
    show Steps p.tables e below (T13.setTop (mkF m 103 #[.val (.ref a1), .val (.int p1), .val (.int p2), .val (.int p3), .val (.int p4), .unset] [(.ref a1), (.ref au)])) _
    refine st14 _ ?_
    show Steps p.tables e below (T14.setTop (mkF m 106 #[.val (.ref a1), .val (.int p1), .val (.int p2), .val (.int p3), .val (.int p4), .unset] [(.int cnt), (.ref au)])) _
    refine XS.iloadN X14.here hx rfl (hb hby d3_106) rfl ?_
    show Steps p.tables e below (T14.setTop (mkF m 107 #[.val (.ref a1), .val (.int p1), .val (.int p2), .val (.int p3), .val (.int p4), .unset] [(.int p1), (.int cnt), (.ref au)])) _
    refine st15 _ ?_
    show Steps p.tables e below (T15.setTop (mkF m 108 #[.val (.ref a1), .val (.int p1), .val (.int p2), .val (.int p3), .val (.int p4), .unset] [])) _
    refine XS.aloadN X15.here hx rfl (hb hby d3_108) rfl rfl ?_
    show Steps p.tables e below (T15.setTop (mkF m 109 #[.val (.ref a1), .val (.int p1), .val (.int p2), .val (.int p3), .val (.int p4), .unset] [(.ref a1)])) _
    refine st16 _ ?_
    show Steps p.tables e below (T16.setTop (mkF m 112 #[.val (.ref a1), .val (.int p1), .val (.int p2), .val (.int p3), .val (.int p4), .unset] [(.ref av)])) _
    refine XS.aloadN X16.here hx rfl (hb hby d3_112) rfl rfl ?_
    show Steps p.tables e below (T16.setTop (mkF m 113 #[.val (.ref a1), .val (.int p1), .val (.int p2), .val (.int p3), .val (.int p4), .unset] [(.ref a1), (.ref av)])) _
    refine st17 _ ?_
    show Steps p.tables e below (T17.setTop (mkF m 116 #[.val (.ref a1), .val (.int p1), .val (.int p2), .val (.int p3), .val (.int p4), .unset] [(.int cnt), (.ref av)])) _
    refine XS.iloadN X17.here hx rfl (hb hby d3_116) rfl ?_
    show Steps p.tables e below (T17.setTop (mkF m 117 #[.val (.ref a1), .val (.int p1), .val (.int p2), .val (.int p3), .val (.int p4), .unset] [(.int p2), (.int cnt), (.ref av)])) _
    refine st18 _ ?_
    show Steps p.tables e below (T18.setTop (mkF m 118 #[.val (.ref a1), .val (.int p1), .val (.int p2), .val (.int p3), .val (.int p4), .unset] [])) _
    refine XS.aloadN X18.here hx rfl (hb hby d3_118) rfl rfl ?_
    show Steps p.tables e below (T18.setTop (mkF m 119 #[.val (.ref a1), .val (.int p1), .val (.int p2), .val (.int p3), .val (.int p4), .unset] [(.ref a1)])) _
    refine st19 _ ?_
    show Steps p.tables e below (T19.setTop (mkF m 122 #[.val (.ref a1), .val (.int p1), .val (.int p2), .val (.int p3), .val (.int p4), .unset] [(.ref as_)])) _
    refine XS.aloadN X19.here hx rfl (hb hby d3_122) rfl rfl ?_
    show Steps p.tables e below (T19.setTop (mkF m 123 #[.val (.ref a1), .val (.int p1), .val (.int p2), .val (.int p3), .val (.int p4), .unset] [(.ref a1), (.ref as_)])) _
    refine st20 _ ?_
    show Steps p.tables e below (T20.setTop (mkF m 126 #[.val (.ref a1), .val (.int p1), .val (.int p2), .val (.int p3), .val (.int p4), .unset] [(.int cnt), (.ref as_)])) _
    refine XS.iloadN X20.here hx rfl (hb hby d3_126) rfl ?_
    show Steps p.tables e below (T20.setTop (mkF m 127 #[.val (.ref a1), .val (.int p1), .val (.int p2), .val (.int p3), .val (.int p4), .unset] [(.int p3), (.int cnt), (.ref as_)])) _
    refine st21 _ ?_
    show Steps p.tables e below (T21.setTop (mkF m 128 #[.val (.ref a1), .val (.int p1), .val (.int p2), .val (.int p3), .val (.int p4), .unset] [])) _
    refine XS.aloadN X21.here hx rfl (hb hby d3_128) rfl rfl ?_
    show Steps p.tables e below (T21.setTop (mkF m 129 #[.val (.ref a1), .val (.int p1), .val (.int p2), .val (.int p3), .val (.int p4), .unset] [(.ref a1)])) _
    refine st22 _ ?_
    show Steps p.tables e below (T22.setTop (mkF m 132 #[.val (.ref a1), .val (.int p1), .val (.int p2), .val (.int p3), .val (.int p4), .unset] [(.ref ao)])) _
    refine XS.aloadN X22.here hx rfl (hb hby d3_132) rfl rfl ?_
    show Steps p.tables e below (T22.setTop (mkF m 133 #[.val (.ref a1), .val (.int p1), .val (.int p2), .val (.int p3), .val (.int p4), .unset] [(.ref a1), (.ref ao)])) _
    refine st23 _ ?_
    show Steps p.tables e below (T23.setTop (mkF m 136 #[.val (.ref a1), .val (.int p1), .val (.int p2), .val (.int p3), .val (.int p4), .unset] [(.int cnt), (.ref ao)])) _
    refine XS.iload X23.here hx rfl (hb hby d3_136) rfl ?_
    show Steps p.tables e below (T23.setTop (mkF m 138 #[.val (.ref a1), .val (.int p1), .val (.int p2), .val (.int p3), .val (.int p4), .unset] [(.int p4), (.int cnt), (.ref ao)])) _
    refine st24 _ ?_
    show Steps p.tables e below (T24.setTop (mkF m 139 #[.val (.ref a1), .val (.int p1), .val (.int p2), .val (.int p3), .val (.int p4), .unset] [])) _
    refine XS.aloadN X24.here hx rfl (hb hby d3_139) rfl rfl ?_
    show Steps p.tables e below (T24.setTop (mkF m 140 #[.val (.ref a1), .val (.int p1), .val (.int p2), .val (.int p3), .val (.int p4), .unset] [(.ref a1)])) _
    refine XS.dup X24.here hx rfl (hb hby d3_140) rfl rfl ?_
    show Steps p.tables e below (T24.setTop (mkF m 141 #[.val (.ref a1), .val (.int p1), .val (.int p2), .val (.int p3), .val (.int p4), .unset] [(.ref a1), (.ref a1)])) _
    refine st25 _ ?_
    show Steps p.tables e below (T25.setTop (mkF m 144 #[.val (.ref a1), .val (.int p1), .val (.int p2), .val (.int p3), .val (.int p4), .unset] [(.int cnt), (.ref a1)])) _
    refine XS.iconst X25.here hx rfl (hb hby d3_144) ?_
    show Steps p.tables e below (T25.setTop (mkF m 145 #[.val (.ref a1), .val (.int p1), .val (.int p2), .val (.int p3), .val (.int p4), .unset] [(.int (1 : Int32)), (.int cnt), (.ref a1)])) _
    refine XS.iadd X25.here hx rfl (hb hby d3_145) rfl ?_
    show Steps p.tables e below (T25.setTop (mkF m 146 #[.val (.ref a1), .val (.int p1), .val (.int p2), .val (.int p3), .val (.int p4), .unset] [(.int (cnt + (1 : Int32))), (.ref a1)])) _
    refine st26 _ ?_
    show Steps p.tables e below (T26.setTop (mkF m 149 #[.val (.ref a1), .val (.int p1), .val (.int p2), .val (.int p3), .val (.int p4), .unset] [])) _
    exact X26.returnOut hx Bd.returns (hb hby d3_149) hr
  · show Q_own_add Z a1 p1 p2 p3 p4 cnt i au av as_ ao ku kv ks ko fu fv fsh fo h0 n0 _ T26.heap _
    rw [e26]
    exact ⟨rfl, N26, K26, (((((E_.wr W15).wr W18).wr W21).wr W24).wr W26), (((((F_u.other W15 (Or.inl (Nat.ne_of_lt l1))).other W18 (Or.inl (Nat.ne_of_lt (Nat.lt_trans l1 l2)))).other W21 (Or.inl (Nat.ne_of_lt (Nat.lt_trans (Nat.lt_trans l1 l2) l3)))).other W24 (Or.inl (Nat.ne_of_lt (Nat.lt_trans (Nat.lt_trans (Nat.lt_trans l1 l2) l3) l4)))).other W26 (Or.inr (slot_ne (Or.inl (hw _ (List.mem_of_getElem? (i := 11) rfl))) (Or.inl (hw _ (List.mem_of_getElem? (i := 24) rfl))) (by decide) (t := (.array .int)) (t' := .int) (by decide) (by decide)))), (((((F_v.other W15 (Or.inl (Nat.ne_of_lt l1))).other W18 (Or.inl (Nat.ne_of_lt (Nat.lt_trans l1 l2)))).other W21 (Or.inl (Nat.ne_of_lt (Nat.lt_trans (Nat.lt_trans l1 l2) l3)))).other W24 (Or.inl (Nat.ne_of_lt (Nat.lt_trans (Nat.lt_trans (Nat.lt_trans l1 l2) l3) l4)))).other W26 (Or.inr (slot_ne (Or.inl (hw _ (List.mem_of_getElem? (i := 13) rfl))) (Or.inl (hw _ (List.mem_of_getElem? (i := 24) rfl))) (by decide) (t := (.array .int)) (t' := .int) (by decide) (by decide)))), (((((F_s.other W15 (Or.inl (Nat.ne_of_lt l1))).other W18 (Or.inl (Nat.ne_of_lt (Nat.lt_trans l1 l2)))).other W21 (Or.inl (Nat.ne_of_lt (Nat.lt_trans (Nat.lt_trans l1 l2) l3)))).other W24 (Or.inl (Nat.ne_of_lt (Nat.lt_trans (Nat.lt_trans (Nat.lt_trans l1 l2) l3) l4)))).other W26 (Or.inr (slot_ne (Or.inl (hw _ (List.mem_of_getElem? (i := 15) rfl))) (Or.inl (hw _ (List.mem_of_getElem? (i := 24) rfl))) (by decide) (t := (.array .int)) (t' := .int) (by decide) (by decide)))), (((((F_o.other W15 (Or.inl (Nat.ne_of_lt l1))).other W18 (Or.inl (Nat.ne_of_lt (Nat.lt_trans l1 l2)))).other W21 (Or.inl (Nat.ne_of_lt (Nat.lt_trans (Nat.lt_trans l1 l2) l3)))).other W24 (Or.inl (Nat.ne_of_lt (Nat.lt_trans (Nat.lt_trans (Nat.lt_trans l1 l2) l3) l4)))).other W26 (Or.inr (slot_ne (Or.inl (hw _ (List.mem_of_getElem? (i := 17) rfl))) (Or.inl (hw _ (List.mem_of_getElem? (i := 24) rfl))) (by decide) (t := (.array .int)) (t' := .int) (by decide) (by decide)))), Fw26, ((((V15.other W18 (Nat.ne_of_lt l2)).other W21 (Nat.ne_of_lt (Nat.lt_trans l2 l3))).other W24 (Nat.ne_of_lt (Nat.lt_trans (Nat.lt_trans l2 l3) l4))).other W26 (Ne.symm (Nat.ne_of_lt l1))), (((V18.other W21 (Nat.ne_of_lt l3)).other W24 (Nat.ne_of_lt (Nat.lt_trans l3 l4))).other W26 (Ne.symm (Nat.ne_of_lt (Nat.lt_trans l1 l2)))), ((V21.other W24 (Nat.ne_of_lt l4)).other W26 (Ne.symm (Nat.ne_of_lt (Nat.lt_trans (Nat.lt_trans l1 l2) l3)))), (V24.other W26 (Ne.symm (Nat.ne_of_lt (Nat.lt_trans (Nat.lt_trans (Nat.lt_trans l1 l2) l3) l4))))⟩
theorem d4_0 : decode prog_25_method_5_code 0 = .ok (.aload_n 0, 1) := by decide +kernel
theorem d4_1 : decode prog_25_method_5_code 1 = .ok (.getfield 7, 3) := by decide +kernel
theorem d4_4 : decode prog_25_method_5_code 4 = .ok (.iload_n 1, 1) := by decide +kernel
theorem d4_5 : decode prog_25_method_5_code 5 = .ok (.iaload, 1) := by decide +kernel
theorem d4_6 : decode prog_25_method_5_code 6 = .ok (.iload_n 2, 1) := by decide +kernel
theorem d4_7 : decode prog_25_method_5_code 7 = .ok (.if_icmp .ne 12, 3) := by decide +kernel
theorem d4_10 : decode prog_25_method_5_code 10 = .ok (.aload_n 0, 1) := by decide +kernel
theorem d4_11 : decode prog_25_method_5_code 11 = .ok (.getfield 13, 3) := by decide +kernel
theorem d4_14 : decode prog_25_method_5_code 14 = .ok (.iload_n 1, 1) := by decide +kernel
theorem d4_15 : decode prog_25_method_5_code 15 = .ok (.iaload, 1) := by decide +kernel
theorem d4_16 : decode prog_25_method_5_code 16 = .ok (.goto 9, 3) := by decide +kernel
theorem d4_19 : decode prog_25_method_5_code 19 = .ok (.aload_n 0, 1) := by decide +kernel
theorem d4_20 : decode prog_25_method_5_code 20 = .ok (.getfield 7, 3) := by decide +kernel
theorem d4_23 : decode prog_25_method_5_code 23 = .ok (.iload_n 1, 1) := by decide +kernel
theorem d4_24 : decode prog_25_method_5_code 24 = .ok (.iaload, 1) := by decide +kernel
theorem d4_25 : decode prog_25_method_5_code 25 = .ok (.ireturn, 1) := by decide +kernel
theorem pn_own_other : plainName "com/example/knitwork/knitwork/bibliometric/ScoredPairs" = true := by first | (simp [plainName, overriddenIn]; done) | decide +kernel
theorem ef_own_other (m : MethodId) (x0 : Addr) (x1 : Int32) (x2 : Int32) : entryFrame m #[(.ref x0), (.int x1), (.int x2)] 3 = mkF m 0 #[.val (.ref x0), .val (.int x1), .val (.int x2)] [] := by first | (simp [entryFrame, mkF, argsToLocals, Value.category]; done) | rfl
def Q_own_other (Z : State) (a1 : Addr) (p1 : Int32) (p2 : Int32) (x : Int32) (y : Int32) (i : Nat) (au : Addr) (av : Addr) (ku : ClassId) (kv : ClassId) (fu : Nat → Value) (fv : Nat → Value) (h0 : Heap) (n0 : Nat) (v : Option Value) (h : Heap) (L : List Loc) : Prop := v = some (.int (if x = p2 then y else x)) ∧ Fr n0 L ∧ h = h0
set_option maxRecDepth 65536 in
set_option maxHeartbeats 40000000 in
theorem own_other (l : Launch) (Z : State) (a0 : Array Value) (hw : ∀ d ∈ tables_1, d.before a0 Z = true) (ws : List Jvm.Cond) (a1 : Addr) (p1 : Int32) (p2 : Int32) (x : Int32) (y : Int32) (i : Nat) (au : Addr) (av : Addr) (ku : ClassId) (kv : ClassId) (fu : Nat → Value) (fv : Nat → Value) (h0 : Heap) (n0 : Nat) (Z0 : n0 ≤ h0.size) (hix : ¬ p1 < 0 ∧ p1.toNatClampNeg = i) (hi : i < 64) (hx_ : fu i = .int x) (hy_ : fv i = .int y) (F_u : Fld Z h0 a1 "com/example/knitwork/knitwork/bibliometric/ScoredPairs" "u" "[I" (.ref au)) (F_v : Fld Z h0 a1 "com/example/knitwork/knitwork/bibliometric/ScoredPairs" "v" "[I" (.ref av)) (V_u : Arf Z h0 au ku .int 64 fu) (V_v : Arf Z h0 av kv .int 64 fv) :
    MetFree l (⟨"com/example/knitwork/knitwork/bibliometric/ScoredPairs", "other", "(II)I"⟩ : MethodName) (head1 (Jvm.Cond.code (⟨"com/example/knitwork/knitwork/bibliometric/ScoredPairs", "other", "(II)I"⟩ : MethodName) prog_25_method_5_code 3 (some .int) :: ws) ({ frames := 0, cells := 0, slots := 0, locals := 0 } : Room)) (fun a U => a = #[(.ref a1), (.int p1), (.int p2)] ∧ Z.Warmed39 U.vm ∧ U.heap = h0) (fun _ _ _ _ _ => True) (fun _ U o U' => ∃ v L, o = .returned v ∧ Q_own_other Z a1 p1 p2 x y i au av ku kv fu fv h0 n0 v U'.heap L ∧ FrameEnd U o U' L ({ frames := 0, cells := 0, slots := 0, locals := 0 } : Room).cells ({ frames := 0, cells := 0, slots := 0, locals := 0 } : Room).slots) := by
  refine MetFree.of_bodySF (plainFor_of_name pn_own_other) hisR ?_
  intro p e s m args below meth c s₁ Bd hml0 hP hK
  obtain ⟨rfl, hZ, hh⟩ := hP
  have hx := Bd.exec
  have hby := Bd.bytes
  have hml : c.maxLocals = 3 := hml0
  have hown : s.vm.findClass "com/example/knitwork/knitwork/bibliometric/ScoredPairs" = some m.cls := findClass_of_methodNamed Bd.named
  have hnm := (name_of_methodNamed Bd.named Bd.method).1
  have X0 : Stand p l e ({ frames := 0, cells := 0, slots := 0, locals := 0 } : Room) s m #[(.ref a1), (.int p1), (.int p2)] below meth c s₁ [] 0 0 := Stand.of_body Bd
  have e0 : s₁.heap = h0 := by rw [← hh, Bd.state]; rfl
  have N0 := Fr.nil n0
  have pre0 : ∀ t, Steps p.tables e below (s₁.setTop (mkF m 0 #[.val (.ref a1), .val (.int p1), .val (.int p2)] [])) t → Steps p.tables e below (s₁.setTop (entryFrame m #[(.ref a1), (.int p1), (.int p2)] 3)) t := fun t k => castTop (ef_own_other m (a1) (p1) (p2)) k
  obtain ⟨T27, X27, e27, st27⟩ := getF X0 hx hZ hown (host := "") (Or.inl (hw _ (List.mem_of_getElem? (i := 10) rfl))) Via.refl e0 F_u (g := (mkF m 1 #[.val (.ref a1), .val (.int p1), .val (.int p2)] [(.ref a1)])) rfl rfl (hb hby d4_1)
  obtain ⟨cl28, Ar28, qk28, S28, B28, H28, G28⟩ := id V_u
  have hin28 : ¬ (p1 < 0 ∨ cl28.slots.size ≤ (p1).toNatClampNeg) := own_inb S28 hix hi
  have hat28 : cl28.slots[(p1).toNatClampNeg]? = some (.int x) := own_hat H28 hix hi hx_
  by_cases hq : x = p2
  · obtain ⟨T30, X30, e30, st30⟩ := getF X27 hx hZ hown (host := "") (Or.inl (hw _ (List.mem_of_getElem? (i := 12) rfl))) Via.refl e27 F_v (g := (mkF m 11 #[.val (.ref a1), .val (.int p1), .val (.int p2)] [(.ref a1)])) rfl rfl (hb hby d4_11)
    obtain ⟨cl31, Ar31, qk31, S31, B31, H31, G31⟩ := id V_v
    have hin31 : ¬ (p1 < 0 ∨ cl31.slots.size ≤ (p1).toNatClampNeg) := own_inb S31 hix hi
    have hat31 : cl31.slots[(p1).toNatClampNeg]? = some (.int y) := own_hat H31 hix hi hy_
    obtain ⟨fs, hr, hrun, hended, hW, hsame⟩ := X30.leave (v := some (.int y)) (fun h => by rw [Bd.returns] at h; cases h)
    refine ⟨_, _, pre0 _ ?_, hrun, hended, _, _, rfl, ?_, ⟨_, rfl⟩, hW, hsame.mono (by decide) (by decide)⟩
    · show Steps p.tables e below (s₁.setTop (mkF m 0 #[.val (.ref a1), .val (.int p1), .val (.int p2)] [])) _
      refine XS.aloadN X0.here hx rfl (hb hby d4_0) rfl rfl ?_
      show Steps p.tables e below (s₁.setTop (mkF m 1 #[.val (.ref a1), .val (.int p1), .val (.int p2)] [(.ref a1)])) _
      refine st27 _ ?_
      show Steps p.tables e below (T27.setTop (mkF m 4 #[.val (.ref a1), .val (.int p1), .val (.int p2)] [(.ref au)])) _
      refine XS.iloadN X27.here hx rfl (hb hby d4_4) rfl ?_
      show Steps p.tables e below (T27.setTop (mkF m 5 #[.val (.ref a1), .val (.int p1), .val (.int p2)] [(.int p1), (.ref au)])) _
      refine X27.iaload hx (j := p1) (v := (.int x)) (by rw [e27]; exact Ar28.1) (State.isArrayOf_alike hZ.alike Ar28.2.1) Ar28.2.2 hin28 hat28 (g := (mkF m 5 #[.val (.ref a1), .val (.int p1), .val (.int p2)] [(.int p1), (.ref au)])) rfl rfl (hb hby d4_5) _ ?_
      show Steps p.tables e below (T27.setTop (mkF m 6 #[.val (.ref a1), .val (.int p1), .val (.int p2)] [(.int x)])) _
      refine XS.iloadN X27.here hx rfl (hb hby d4_6) rfl ?_
      show Steps p.tables e below (T27.setTop (mkF m 7 #[.val (.ref a1), .val (.int p1), .val (.int p2)] [(.int p2), (.int x)])) _
      refine XS.icmpNo X27.here hx rfl (hb hby d4_7) rfl (XT.ii_ne_f hq) ?_
      show Steps p.tables e below (T27.setTop (mkF m 10 #[.val (.ref a1), .val (.int p1), .val (.int p2)] [])) _
      refine XS.aloadN X27.here hx rfl (hb hby d4_10) rfl rfl ?_
      show Steps p.tables e below (T27.setTop (mkF m 11 #[.val (.ref a1), .val (.int p1), .val (.int p2)] [(.ref a1)])) _
      refine st30 _ ?_
      show Steps p.tables e below (T30.setTop (mkF m 14 #[.val (.ref a1), .val (.int p1), .val (.int p2)] [(.ref av)])) _
      refine XS.iloadN X30.here hx rfl (hb hby d4_14) rfl ?_
      show Steps p.tables e below (T30.setTop (mkF m 15 #[.val (.ref a1), .val (.int p1), .val (.int p2)] [(.int p1), (.ref av)])) _
      refine X30.iaload hx (j := p1) (v := (.int y)) (by rw [e30]; exact Ar31.1) (State.isArrayOf_alike hZ.alike Ar31.2.1) Ar31.2.2 hin31 hat31 (g := (mkF m 15 #[.val (.ref a1), .val (.int p1), .val (.int p2)] [(.int p1), (.ref av)])) rfl rfl (hb hby d4_15) _ ?_
      show Steps p.tables e below (T30.setTop (mkF m 16 #[.val (.ref a1), .val (.int p1), .val (.int p2)] [(.int y)])) _
      refine XS.goto X30.here hx rfl (pc0 := 16) (pc' := 25) rfl (hb hby d4_16) (by decide) (by decide) ?_
      show Steps p.tables e below (T30.setTop (mkF m 25 #[.val (.ref a1), .val (.int p1), .val (.int p2)] [(.int y)])) _
      exact retI X30 hx Bd.returns (hb hby d4_25) hr
    · show Q_own_other Z a1 p1 p2 x y i au av ku kv fu fv h0 n0 _ T30.heap _
      rw [e30]
      exact ⟨by rw [if_pos hq], N0, rfl⟩
  · obtain ⟨T32, X32, e32, st32⟩ := getF X27 hx hZ hown (host := "") (Or.inl (hw _ (List.mem_of_getElem? (i := 10) rfl))) Via.refl e27 F_u (g := (mkF m 20 #[.val (.ref a1), .val (.int p1), .val (.int p2)] [(.ref a1)])) rfl rfl (hb hby d4_20)
    obtain ⟨cl33, Ar33, qk33, S33, B33, H33, G33⟩ := id V_u
    have hin33 : ¬ (p1 < 0 ∨ cl33.slots.size ≤ (p1).toNatClampNeg) := own_inb S33 hix hi
    have hat33 : cl33.slots[(p1).toNatClampNeg]? = some (.int x) := own_hat H33 hix hi hx_
    obtain ⟨fs, hr, hrun, hended, hW, hsame⟩ := X32.leave (v := some (.int x)) (fun h => by rw [Bd.returns] at h; cases h)
    refine ⟨_, _, pre0 _ ?_, hrun, hended, _, _, rfl, ?_, ⟨_, rfl⟩, hW, hsame.mono (by decide) (by decide)⟩
    · show Steps p.tables e below (s₁.setTop (mkF m 0 #[.val (.ref a1), .val (.int p1), .val (.int p2)] [])) _
      refine XS.aloadN X0.here hx rfl (hb hby d4_0) rfl rfl ?_
      show Steps p.tables e below (s₁.setTop (mkF m 1 #[.val (.ref a1), .val (.int p1), .val (.int p2)] [(.ref a1)])) _
      refine st27 _ ?_
      show Steps p.tables e below (T27.setTop (mkF m 4 #[.val (.ref a1), .val (.int p1), .val (.int p2)] [(.ref au)])) _
      refine XS.iloadN X27.here hx rfl (hb hby d4_4) rfl ?_
      show Steps p.tables e below (T27.setTop (mkF m 5 #[.val (.ref a1), .val (.int p1), .val (.int p2)] [(.int p1), (.ref au)])) _
      refine X27.iaload hx (j := p1) (v := (.int x)) (by rw [e27]; exact Ar28.1) (State.isArrayOf_alike hZ.alike Ar28.2.1) Ar28.2.2 hin28 hat28 (g := (mkF m 5 #[.val (.ref a1), .val (.int p1), .val (.int p2)] [(.int p1), (.ref au)])) rfl rfl (hb hby d4_5) _ ?_
      show Steps p.tables e below (T27.setTop (mkF m 6 #[.val (.ref a1), .val (.int p1), .val (.int p2)] [(.int x)])) _
      refine XS.iloadN X27.here hx rfl (hb hby d4_6) rfl ?_
      show Steps p.tables e below (T27.setTop (mkF m 7 #[.val (.ref a1), .val (.int p1), .val (.int p2)] [(.int p2), (.int x)])) _
      refine XS.icmpYes X27.here hx rfl (pc0 := 7) (pc' := 19) rfl (hb hby d4_7) rfl (XT.ii_ne_t hq) (by decide) (by decide) ?_
      show Steps p.tables e below (T27.setTop (mkF m 19 #[.val (.ref a1), .val (.int p1), .val (.int p2)] [])) _
      refine XS.aloadN X27.here hx rfl (hb hby d4_19) rfl rfl ?_
      show Steps p.tables e below (T27.setTop (mkF m 20 #[.val (.ref a1), .val (.int p1), .val (.int p2)] [(.ref a1)])) _
      refine st32 _ ?_
      show Steps p.tables e below (T32.setTop (mkF m 23 #[.val (.ref a1), .val (.int p1), .val (.int p2)] [(.ref au)])) _
      refine XS.iloadN X32.here hx rfl (hb hby d4_23) rfl ?_
      show Steps p.tables e below (T32.setTop (mkF m 24 #[.val (.ref a1), .val (.int p1), .val (.int p2)] [(.int p1), (.ref au)])) _
      refine X32.iaload hx (j := p1) (v := (.int x)) (by rw [e32]; exact Ar33.1) (State.isArrayOf_alike hZ.alike Ar33.2.1) Ar33.2.2 hin33 hat33 (g := (mkF m 24 #[.val (.ref a1), .val (.int p1), .val (.int p2)] [(.int p1), (.ref au)])) rfl rfl (hb hby d4_24) _ ?_
      show Steps p.tables e below (T32.setTop (mkF m 25 #[.val (.ref a1), .val (.int p1), .val (.int p2)] [(.int x)])) _
      exact retI X32 hx Bd.returns (hb hby d4_25) hr
    · show Q_own_other Z a1 p1 p2 x y i au av ku kv fu fv h0 n0 _ T32.heap _
      rw [e32]
      exact ⟨by rw [if_neg hq], N0, rfl⟩
theorem own_sw (x y : Int32) : (if x = y then y else x) = x := by
  split
  · rename_i q; exact q.symm
  · rfl
theorem pn_own_law : plainName "com/example/knitwork/knitwork/bibliometric/ScoredPairsOtherPinLaw" = true := by first | (simp [plainName, overriddenIn]; done) | decide +kernel
theorem ef_own_law (m : MethodId) (x0 : Int32) (x1 : Int32) (x2 : Int32) (x3 : Int32) (x4 : Int32) : entryFrame m #[(.int x0), (.int x1), (.int x2), (.int x3), (.int x4)] maxLocals = mkF m 0 #[.val (.int x0), .val (.int x1), .val (.int x2), .val (.int x3), .val (.int x4), .unset, .unset, .unset, .unset, .unset, .unset, .unset] [] := by first | (simp [entryFrame, mkF, argsToLocals, Value.category, maxLocals]; done) | rfl
def Q_own_law (Z : State) (p0 : Int32) (p1 : Int32) (p2 : Int32) (p3 : Int32) (p4 : Int32)  (h0 : Heap) (n0 : Nat) (v : Option Value) (h : Heap) (L : List Loc) : Prop := v = some (.int 1) ∧ Fr n0 L
set_option maxRecDepth 65536 in
set_option maxHeartbeats 40000000 in
theorem own_law (l : Launch) (Z : State) (a0 : Array Value) (hw : ∀ d ∈ tables_1, d.before a0 Z = true) (ws : List Jvm.Cond) (p0 : Int32) (p1 : Int32) (p2 : Int32) (p3 : Int32) (p4 : Int32)  (h0 : Heap) (n0 : Nat) (Z0 : n0 ≤ h0.size)  :
    MetFree l x (head1 (Jvm.Cond.code x code maxLocals ret :: ws) room_1) (fun a U => a = #[(.int p0), (.int p1), (.int p2), (.int p3), (.int p4)] ∧ Z.Warmed39 U.vm ∧ U.heap = h0) (fun _ _ _ _ _ => True) (fun _ U o U' => ∃ v L, o = .returned v ∧ Q_own_law Z p0 p1 p2 p3 p4  h0 n0 v U'.heap L ∧ FrameEnd U o U' L 24 640) := by
  refine MetFree.of_bodySF (plainFor_of_name pn_own_law) hisR ?_
  intro p e s m args below meth c s₁ Bd hml0 hP hK
  obtain ⟨rfl, hZ, hh⟩ := hP
  have hx := Bd.exec
  have hby := Bd.bytes
  have hml : c.maxLocals = 12 := hml0
  have hown : s.vm.findClass "com/example/knitwork/knitwork/bibliometric/ScoredPairsOtherPinLaw" = some m.cls := findClass_of_methodNamed Bd.named
  have hnm := (name_of_methodNamed Bd.named Bd.method).1
  have X0 : Stand p l e room_1 s m #[(.int p0), (.int p1), (.int p2), (.int p3), (.int p4)] below meth c s₁ [] 0 0 := Stand.of_body Bd
  have e0 : s₁.heap = h0 := by rw [← hh, Bd.state]; rfl
  have N0 := Fr.nil n0
  have pre0 : ∀ t, Steps p.tables e below (s₁.setTop (mkF m 0 #[.val (.int p0), .val (.int p1), .val (.int p2), .val (.int p3), .val (.int p4), .unset, .unset, .unset, .unset, .unset, .unset, .unset] [])) t → Steps p.tables e below (s₁.setTop (entryFrame m #[(.int p0), (.int p1), (.int p2), (.int p3), (.int p4)] maxLocals)) t := fun t k => castTop (ef_own_law m (p0) (p1) (p2) (p3) (p4)) k
  obtain ⟨T34, h34, X34, e34, E34, A34, D34, -, st34⟩ := newO X0 hx hZ hown (hw _ (List.mem_of_getElem? (i := 0) rfl)) (hw _ (List.mem_of_getElem? (i := 1) rfl)) (hw _ (List.mem_of_getElem? (i := 2) rfl)) e0 (g := (mkF m 0 #[.val (.int p0), .val (.int p1), .val (.int p2), .val (.int p3), .val (.int p4), .unset, .unset, .unset, .unset, .unset, .unset, .unset] [])) rfl (hb hby at_0) (by decide) (by decide)
  obtain ⟨b34, g34⟩ : ∃ z, z = h0.size := ⟨_, rfl⟩
  rw [← g34] at A34 D34 st34
  have g_b34 : n0 ≤ b34 := Nat.le_trans Z0 (Nat.le_of_eq g34.symm)
  have F34_u : Fld Z h34 b34 "com/example/knitwork/knitwork/bibliometric/ScoredPairs" "u" "[I" .null := D34 (Or.inl (hw _ (List.mem_of_getElem? (i := 11) rfl))) (ty := (.array .int)) (by decide)
  have F34_v : Fld Z h34 b34 "com/example/knitwork/knitwork/bibliometric/ScoredPairs" "v" "[I" .null := D34 (Or.inl (hw _ (List.mem_of_getElem? (i := 13) rfl))) (ty := (.array .int)) (by decide)
  have F34_shared : Fld Z h34 b34 "com/example/knitwork/knitwork/bibliometric/ScoredPairs" "shared" "[I" .null := D34 (Or.inl (hw _ (List.mem_of_getElem? (i := 15) rfl))) (ty := (.array .int)) (by decide)
  have F34_outOf : Fld Z h34 b34 "com/example/knitwork/knitwork/bibliometric/ScoredPairs" "outOf" "[I" .null := D34 (Or.inl (hw _ (List.mem_of_getElem? (i := 17) rfl))) (ty := (.array .int)) (by decide)
  have F34_count : Fld Z h34 b34 "com/example/knitwork/knitwork/bibliometric/ScoredPairs" "count" "I" (.int (0 : Int32)) := D34 (Or.inl (hw _ (List.mem_of_getElem? (i := 24) rfl))) (ty := .int) (by decide)
  obtain ⟨_, _, ⟨T35, L35, k35, n35⟩, -, X35, ⟨Lc35, hQ35, l35, y35, z35⟩, st35⟩ := X34.specialBack hx (y := (⟨"com/example/knitwork/knitwork/bibliometric/ScoredPairs", "<init>", "()V"⟩ : MethodName)) rfl hown (mvT hZ (hw _ (List.mem_of_getElem? (i := 3) rfl))) (mvT hZ (hw _ (List.mem_of_getElem? (i := 4) rfl))) (mvT hZ (hw _ (List.mem_of_getElem? (i := 5) rfl))) (by decide) (backOf (W := 1) (own_init l Z a0 hw [] b34 h34 n0 (Nat.le_trans Z0 E34.1) A34 F34_u F34_v F34_shared F34_outOf F34_count g_b34) hZ (hw _ (List.mem_of_getElem? (i := 5) rfl)) (hw _ (List.mem_of_getElem? (i := 2) rfl)) (by decide) (by decide)) (g := (mkF m 4 #[.val (.int p0), .val (.int p1), .val (.int p2), .val (.int p3), .val (.int p4), .unset, .unset, .unset, .unset, .unset, .unset, .unset] [(.ref b34), (.ref b34)])) rfl (by rw [hml]; rfl) (Steps.refl _) (a := b34) (argsL := []) (rest := [(.ref b34)]) (lenOf pd_0 rfl) rfl (by show 2 * 0 + _ ≤ _; exact Nat.le_of_eq rfl) (hb hby at_4) (fun _ _ => ⟨rfl, e34, (by decide : 1 + 4 ≤ _), (by decide : 7 + 256 ≤ _)⟩)
  dsimp only [Pt.U, Pt.locs, Pt.cells, Pt.slots] at X35 l35 y35 z35 st35 hQ35
  subst l35 y35 z35
  obtain ⟨rfl, N35q, au, av, as_, ao, ku, kv, ks, ko, g_au, ⟨l1, l2, l3, l4⟩, E_, F_u, F_v, F_s, F_o, F_c, V_u, V_v, V_s, V_o⟩ := hQ35
  have N35 := Fr.app N0 N35q
  have g_av : n0 ≤ av := Nat.le_trans g_au (Nat.le_of_lt l2)
  have g_as_ : n0 ≤ as_ := Nat.le_trans g_av (Nat.le_of_lt l3)
  have g_ao : n0 ≤ ao := Nat.le_trans g_as_ (Nat.le_of_lt l4)
  obtain ⟨cq36, kq36, q36a, q36b, q36c⟩ := isOf hZ rfl E_
  obtain ⟨_, _, ⟨T36, L36, k36, n36⟩, -, X36, ⟨Lc36, hQ36, l36, y36, z36⟩, st36⟩ := X35.virtualBack hx (y := (⟨"com/example/knitwork/knitwork/bibliometric/ScoredPairs", "add", "(IIII)V"⟩ : MethodName)) (z := (⟨"com/example/knitwork/knitwork/bibliometric/ScoredPairs", "add", "(IIII)V"⟩ : MethodName)) hown (mvT hZ (hw _ (List.mem_of_getElem? (i := 18) rfl))) (mvT hZ (hw _ (List.mem_of_getElem? (i := 19) rfl))) (notFace_of_selects (args := #[]) (mvT hZ (hw _ (List.mem_of_getElem? (i := 21) rfl)))) (mvT hZ (hw _ (List.mem_of_getElem? (i := 21) rfl))) (mvT hZ (hw _ (List.mem_of_getElem? (i := 20) rfl))) (by decide) (backOf (W := 0) (own_add l Z a0 hw [] b34 p0 p1 (0 : Int32) (1 : Int32) (0 : Int32) 0 au av as_ ao ku kv ks ko (fun _ => Value.int 0) (fun _ => Value.int 0) (fun _ => Value.int 0) (fun _ => Value.int 0) T35.heap n0 (Nat.le_trans (Nat.le_trans g_b34 (Nat.le_of_lt l1)) (Nat.le_of_lt V_u.lt)) ⟨by decide, rfl⟩ (by decide) (by decide) g_b34 l1 l2 l3 l4 g_au g_av g_as_ g_ao E_ F_u F_v F_s F_o F_c V_u V_v V_s V_o) hZ (hw _ (List.mem_of_getElem? (i := 22) rfl)) (hw _ (List.mem_of_getElem? (i := 2) rfl)) (by decide) (by decide)) q36a q36c (g := (mkF m 15 #[.val (.int p0), .val (.int p1), .val (.int p2), .val (.int p3), .val (.int p4), .val (.ref b34), .unset, .unset, .unset, .unset, .unset, .unset] [(.int (1 : Int32)), (.int (0 : Int32)), (.int p1), (.int p0), (.ref b34)])) rfl (by rw [hml]; rfl) (Steps.refl _) (argsL := [(.int p0), (.int p1), (.int (0 : Int32)), (.int (1 : Int32))]) (rest := []) (lenOf pd_1 rfl) rfl (by show 2 * 0 + _ ≤ _; exact Nat.le_of_eq rfl) (hb hby at_15) (fun _ _ => ⟨rfl, rfl, (by decide : 5 + 0 ≤ _), (by decide : 263 + 0 ≤ _)⟩)
  dsimp only [Pt.U, Pt.locs, Pt.cells, Pt.slots] at X36 l36 y36 z36 st36 hQ36
  subst l36 y36 z36
  obtain ⟨rfl, N36q, K36, E_0, F_u0, F_v0, F_s0, F_o0, F_c0, V_u0, V_v0, V_s0, V_o0⟩ := hQ36
  have N36 := Fr.app N35 N36q
  obtain ⟨cq37, kq37, q37a, q37b, q37c⟩ := isOf hZ rfl E_0
  obtain ⟨_, _, ⟨T37, L37, k37, n37⟩, -, X37, ⟨Lc37, hQ37, l37, y37, z37⟩, st37⟩ := X36.virtualBack hx (y := (⟨"com/example/knitwork/knitwork/bibliometric/ScoredPairs", "add", "(IIII)V"⟩ : MethodName)) (z := (⟨"com/example/knitwork/knitwork/bibliometric/ScoredPairs", "add", "(IIII)V"⟩ : MethodName)) hown (mvT hZ (hw _ (List.mem_of_getElem? (i := 18) rfl))) (mvT hZ (hw _ (List.mem_of_getElem? (i := 19) rfl))) (notFace_of_selects (args := #[]) (mvT hZ (hw _ (List.mem_of_getElem? (i := 21) rfl)))) (mvT hZ (hw _ (List.mem_of_getElem? (i := 21) rfl))) (mvT hZ (hw _ (List.mem_of_getElem? (i := 20) rfl))) (by decide) (backOf (W := 0) (own_add l Z a0 hw [] b34 p2 p3 (1 : Int32) (2 : Int32) (1 : Int32) 1 au av as_ ao ku kv ks ko (upd (fun _ => Value.int 0) 0 (.int p0)) (upd (fun _ => Value.int 0) 0 (.int p1)) (upd (fun _ => Value.int 0) 0 (.int (0 : Int32))) (upd (fun _ => Value.int 0) 0 (.int (1 : Int32))) T36.heap n0 (Nat.le_trans g_au (Nat.le_of_lt V_u0.lt)) ⟨by decide, rfl⟩ (by decide) (by decide) g_b34 l1 l2 l3 l4 g_au g_av g_as_ g_ao E_0 F_u0 F_v0 F_s0 F_o0 F_c0 V_u0 V_v0 V_s0 V_o0) hZ (hw _ (List.mem_of_getElem? (i := 22) rfl)) (hw _ (List.mem_of_getElem? (i := 2) rfl)) (by decide) (by decide)) q37a q37c (g := (mkF m 24 #[.val (.int p0), .val (.int p1), .val (.int p2), .val (.int p3), .val (.int p4), .val (.ref b34), .unset, .unset, .unset, .unset, .unset, .unset] [(.int (2 : Int32)), (.int (1 : Int32)), (.int p3), (.int p2), (.ref b34)])) rfl (by rw [hml]; rfl) (Steps.refl _) (argsL := [(.int p2), (.int p3), (.int (1 : Int32)), (.int (2 : Int32))]) (rest := []) (lenOf pd_1 rfl) rfl (by show 2 * 0 + _ ≤ _; exact Nat.le_of_eq rfl) (hb hby at_24) (fun _ _ => ⟨rfl, rfl, (by decide : 5 + 0 ≤ _), (by decide : 263 + 0 ≤ _)⟩)
  dsimp only [Pt.U, Pt.locs, Pt.cells, Pt.slots] at X37 l37 y37 z37 st37 hQ37
  subst l37 y37 z37
  obtain ⟨rfl, N37q, K37, E_1, F_u1, F_v1, F_s1, F_o1, F_c1, V_u1, V_v1, V_s1, V_o1⟩ := hQ37
  have N37 := Fr.app N36 N37q
  by_cases hs0 : (p4 &&& (1 : Int32)) = 0
  · by_cases hs1 : (p4 &&& (2 : Int32)) = 0
    · obtain ⟨cq40, kq40, q40a, q40b, q40c⟩ := isOf hZ rfl E_1
      obtain ⟨_, _, ⟨T40, L40, k40, n40⟩, -, X40, ⟨Lc40, hQ40, l40, y40, z40⟩, st40⟩ := X37.virtualBack hx (y := (⟨"com/example/knitwork/knitwork/bibliometric/ScoredPairs", "other", "(II)I"⟩ : MethodName)) (z := (⟨"com/example/knitwork/knitwork/bibliometric/ScoredPairs", "other", "(II)I"⟩ : MethodName)) hown (mvT hZ (hw _ (List.mem_of_getElem? (i := 25) rfl))) (mvT hZ (hw _ (List.mem_of_getElem? (i := 26) rfl))) (notFace_of_selects (args := #[]) (mvT hZ (hw _ (List.mem_of_getElem? (i := 28) rfl)))) (mvT hZ (hw _ (List.mem_of_getElem? (i := 28) rfl))) (mvT hZ (hw _ (List.mem_of_getElem? (i := 27) rfl))) (by decide) (backOf (W := 0) (own_other l Z a0 hw [] b34 (0 : Int32) p0 p0 p1 0 au av ku kv (upd (upd (fun _ => Value.int 0) 0 (.int p0)) 1 (.int p2)) (upd (upd (fun _ => Value.int 0) 0 (.int p1)) 1 (.int p3)) T37.heap n0 (Nat.le_trans g_au (Nat.le_of_lt V_u1.lt)) ⟨by decide, rfl⟩ (by decide) rfl rfl F_u1 F_v1 V_u1 V_v1) hZ (hw _ (List.mem_of_getElem? (i := 29) rfl)) (hw _ (List.mem_of_getElem? (i := 2) rfl)) (by decide) (by decide)) q40a q40c (g := (mkF m 108 #[.val (.int p0), .val (.int p1), .val (.int p2), .val (.int p3), .val (.int p4), .val (.ref b34), .val (.int (0 : Int32)), .val (.int (0 : Int32)), .val (.int p0), .val (.int p1), .val (.int p2), .val (.int p3)] [(.int p0), (.int (0 : Int32)), (.ref b34)])) rfl (by rw [hml]; rfl) (Steps.refl _) (argsL := [(.int (0 : Int32)), (.int p0)]) (rest := []) (lenOf pd_2 rfl) rfl (by show 2 * 0 + _ ≤ _; exact Nat.le_of_eq rfl) (hb hby at_108) (fun _ _ => ⟨rfl, rfl, (by decide : 5 + 0 ≤ _), (by decide : 263 + 0 ≤ _)⟩)
      dsimp only [Pt.U, Pt.locs, Pt.cells, Pt.slots] at X40 l40 y40 z40 st40 hQ40
      subst l40 y40 z40
      obtain ⟨rfl, N40q, eh40⟩ := hQ40
      have N40 := Fr.app N37 N40q
      obtain ⟨cq41, kq41, q41a, q41b, q41c⟩ := isOf hZ eh40 E_1
      obtain ⟨_, _, ⟨T41, L41, k41, n41⟩, -, X41, ⟨Lc41, hQ41, l41, y41, z41⟩, st41⟩ := X40.virtualBack hx (y := (⟨"com/example/knitwork/knitwork/bibliometric/ScoredPairs", "other", "(II)I"⟩ : MethodName)) (z := (⟨"com/example/knitwork/knitwork/bibliometric/ScoredPairs", "other", "(II)I"⟩ : MethodName)) hown (mvT hZ (hw _ (List.mem_of_getElem? (i := 25) rfl))) (mvT hZ (hw _ (List.mem_of_getElem? (i := 26) rfl))) (notFace_of_selects (args := #[]) (mvT hZ (hw _ (List.mem_of_getElem? (i := 28) rfl)))) (mvT hZ (hw _ (List.mem_of_getElem? (i := 28) rfl))) (mvT hZ (hw _ (List.mem_of_getElem? (i := 27) rfl))) (by decide) (backOf (W := 0) (own_other l Z a0 hw [] b34 (1 : Int32) p2 p2 p3 1 au av ku kv (upd (upd (fun _ => Value.int 0) 0 (.int p0)) 1 (.int p2)) (upd (upd (fun _ => Value.int 0) 0 (.int p1)) 1 (.int p3)) T37.heap n0 (Nat.le_trans g_au (Nat.le_of_lt V_u1.lt)) ⟨by decide, rfl⟩ (by decide) rfl rfl F_u1 F_v1 V_u1 V_v1) hZ (hw _ (List.mem_of_getElem? (i := 29) rfl)) (hw _ (List.mem_of_getElem? (i := 2) rfl)) (by decide) (by decide)) q41a q41c (g := (mkF m 121 #[.val (.int p0), .val (.int p1), .val (.int p2), .val (.int p3), .val (.int p4), .val (.ref b34), .val (.int (0 : Int32)), .val (.int (0 : Int32)), .val (.int p0), .val (.int p1), .val (.int p2), .val (.int p3)] [(.int p2), (.int (1 : Int32)), (.ref b34)])) rfl (by rw [hml]; rfl) (Steps.refl _) (argsL := [(.int (1 : Int32)), (.int p2)]) (rest := []) (lenOf pd_2 rfl) rfl (by show 2 * 0 + _ ≤ _; exact Nat.le_of_eq rfl) (hb hby at_121) (fun _ _ => ⟨rfl, eh40, (by decide : 5 + 0 ≤ _), (by decide : 263 + 0 ≤ _)⟩)
      dsimp only [Pt.U, Pt.locs, Pt.cells, Pt.slots] at X41 l41 y41 z41 st41 hQ41
      subst l41 y41 z41
      obtain ⟨rfl, N41q, eh41⟩ := hQ41
      have N41 := Fr.app N40 N41q
      obtain ⟨fs, hr, hrun, hended, hW, hsame⟩ := X41.leave (v := some (.int (1 : Int32))) (fun h => by rw [Bd.returns] at h; cases h)
      refine ⟨_, _, pre0 _ ?_, hrun, hended, _, _, rfl, ?_, ⟨_, rfl⟩, hW, hsame.mono (by decide) (by decide)⟩
      · show Steps p.tables e below (s₁.setTop (mkF m 0 #[.val (.int p0), .val (.int p1), .val (.int p2), .val (.int p3), .val (.int p4), .unset, .unset, .unset, .unset, .unset, .unset, .unset] [])) _
        refine st34 _ ?_
        show Steps p.tables e below (T34.setTop (mkF m 3 #[.val (.int p0), .val (.int p1), .val (.int p2), .val (.int p3), .val (.int p4), .unset, .unset, .unset, .unset, .unset, .unset, .unset] [(.ref b34)])) _
        refine XS.dup X34.here hx rfl (hb hby at_3) rfl rfl ?_
        show Steps p.tables e below (T34.setTop (mkF m 4 #[.val (.int p0), .val (.int p1), .val (.int p2), .val (.int p3), .val (.int p4), .unset, .unset, .unset, .unset, .unset, .unset, .unset] [(.ref b34), (.ref b34)])) _
        refine st35.trans ?_
        show Steps p.tables e below (T35.setTop (mkF m 7 #[.val (.int p0), .val (.int p1), .val (.int p2), .val (.int p3), .val (.int p4), .unset, .unset, .unset, .unset, .unset, .unset, .unset] [(.ref b34)])) _
        refine XS.astore X35.here hx rfl (hb hby at_7) rfl rfl (l' := #[.val (.int p0), .val (.int p1), .val (.int p2), .val (.int p3), .val (.int p4), .val (.ref b34), .unset, .unset, .unset, .unset, .unset, .unset]) rfl ?_
        show Steps p.tables e below (T35.setTop (mkF m 9 #[.val (.int p0), .val (.int p1), .val (.int p2), .val (.int p3), .val (.int p4), .val (.ref b34), .unset, .unset, .unset, .unset, .unset, .unset] [])) _
        refine XS.aload X35.here hx rfl (hb hby at_9) rfl rfl ?_
        show Steps p.tables e below (T35.setTop (mkF m 11 #[.val (.int p0), .val (.int p1), .val (.int p2), .val (.int p3), .val (.int p4), .val (.ref b34), .unset, .unset, .unset, .unset, .unset, .unset] [(.ref b34)])) _
        refine XS.iloadN X35.here hx rfl (hb hby at_11) rfl ?_
        show Steps p.tables e below (T35.setTop (mkF m 12 #[.val (.int p0), .val (.int p1), .val (.int p2), .val (.int p3), .val (.int p4), .val (.ref b34), .unset, .unset, .unset, .unset, .unset, .unset] [(.int p0), (.ref b34)])) _
        refine XS.iloadN X35.here hx rfl (hb hby at_12) rfl ?_
        show Steps p.tables e below (T35.setTop (mkF m 13 #[.val (.int p0), .val (.int p1), .val (.int p2), .val (.int p3), .val (.int p4), .val (.ref b34), .unset, .unset, .unset, .unset, .unset, .unset] [(.int p1), (.int p0), (.ref b34)])) _
        refine XS.iconst X35.here hx rfl (hb hby at_13) ?_
        show Steps p.tables e below (T35.setTop (mkF m 14 #[.val (.int p0), .val (.int p1), .val (.int p2), .val (.int p3), .val (.int p4), .val (.ref b34), .unset, .unset, .unset, .unset, .unset, .unset] [(.int (0 : Int32)), (.int p1), (.int p0), (.ref b34)])) _
        refine XS.iconst X35.here hx rfl (hb hby at_14) ?_
        show Steps p.tables e below (T35.setTop (mkF m 15 #[.val (.int p0), .val (.int p1), .val (.int p2), .val (.int p3), .val (.int p4), .val (.ref b34), .unset, .unset, .unset, .unset, .unset, .unset] [(.int (1 : Int32)), (.int (0 : Int32)), (.int p1), (.int p0), (.ref b34)])) _
        refine st36.trans ?_
        show Steps p.tables e below (T36.setTop (mkF m 18 #[.val (.int p0), .val (.int p1), .val (.int p2), .val (.int p3), .val (.int p4), .val (.ref b34), .unset, .unset, .unset, .unset, .unset, .unset] [])) _
        refine XS.aload X36.here hx rfl (hb hby at_18) rfl rfl ?_
        show Steps p.tables e below (T36.setTop (mkF m 20 #[.val (.int p0), .val (.int p1), .val (.int p2), .val (.int p3), .val (.int p4), .val (.ref b34), .unset, .unset, .unset, .unset, .unset, .unset] [(.ref b34)])) _
        refine XS.iloadN X36.here hx rfl (hb hby at_20) rfl ?_
        show Steps p.tables e below (T36.setTop (mkF m 21 #[.val (.int p0), .val (.int p1), .val (.int p2), .val (.int p3), .val (.int p4), .val (.ref b34), .unset, .unset, .unset, .unset, .unset, .unset] [(.int p2), (.ref b34)])) _
        refine XS.iloadN X36.here hx rfl (hb hby at_21) rfl ?_
        show Steps p.tables e below (T36.setTop (mkF m 22 #[.val (.int p0), .val (.int p1), .val (.int p2), .val (.int p3), .val (.int p4), .val (.ref b34), .unset, .unset, .unset, .unset, .unset, .unset] [(.int p3), (.int p2), (.ref b34)])) _
        refine XS.iconst X36.here hx rfl (hb hby at_22) ?_
        show Steps p.tables e below (T36.setTop (mkF m 23 #[.val (.int p0), .val (.int p1), .val (.int p2), .val (.int p3), .val (.int p4), .val (.ref b34), .unset, .unset, .unset, .unset, .unset, .unset] [(.int (1 : Int32)), (.int p3), (.int p2), (.ref b34)])) _
        refine XS.iconst X36.here hx rfl (hb hby at_23) ?_
        show Steps p.tables e below (T36.setTop (mkF m 24 #[.val (.int p0), .val (.int p1), .val (.int p2), .val (.int p3), .val (.int p4), .val (.ref b34), .unset, .unset, .unset, .unset, .unset, .unset] [(.int (2 : Int32)), (.int (1 : Int32)), (.int p3), (.int p2), (.ref b34)])) _
        refine st37.trans ?_
        show Steps p.tables e below (T37.setTop (mkF m 27 #[.val (.int p0), .val (.int p1), .val (.int p2), .val (.int p3), .val (.int p4), .val (.ref b34), .unset, .unset, .unset, .unset, .unset, .unset] [])) _
        refine XS.iload X37.here hx rfl (hb hby at_27) rfl ?_
        show Steps p.tables e below (T37.setTop (mkF m 29 #[.val (.int p0), .val (.int p1), .val (.int p2), .val (.int p3), .val (.int p4), .val (.ref b34), .unset, .unset, .unset, .unset, .unset, .unset] [(.int p4)])) _
        refine XS.iconst X37.here hx rfl (hb hby at_29) ?_
        show Steps p.tables e below (T37.setTop (mkF m 30 #[.val (.int p0), .val (.int p1), .val (.int p2), .val (.int p3), .val (.int p4), .val (.ref b34), .unset, .unset, .unset, .unset, .unset, .unset] [(.int (1 : Int32)), (.int p4)])) _
        refine XS.iand X37.here hx rfl (hb hby at_30) rfl ?_
        show Steps p.tables e below (T37.setTop (mkF m 31 #[.val (.int p0), .val (.int p1), .val (.int p2), .val (.int p3), .val (.int p4), .val (.ref b34), .unset, .unset, .unset, .unset, .unset, .unset] [(.int (p4 &&& (1 : Int32)))])) _
        refine XS.ifYes X37.here hx rfl (pc0 := 31) (pc' := 38) rfl (hb hby at_31) rfl (XT.i0_eq_t hs0) (by decide) (by decide) ?_
        show Steps p.tables e below (T37.setTop (mkF m 38 #[.val (.int p0), .val (.int p1), .val (.int p2), .val (.int p3), .val (.int p4), .val (.ref b34), .unset, .unset, .unset, .unset, .unset, .unset] [])) _
        refine XS.iconst X37.here hx rfl (hb hby at_38) ?_
        show Steps p.tables e below (T37.setTop (mkF m 39 #[.val (.int p0), .val (.int p1), .val (.int p2), .val (.int p3), .val (.int p4), .val (.ref b34), .unset, .unset, .unset, .unset, .unset, .unset] [(.int (0 : Int32))])) _
        refine XS.istore X37.here hx rfl (hb hby at_39) rfl (l' := #[.val (.int p0), .val (.int p1), .val (.int p2), .val (.int p3), .val (.int p4), .val (.ref b34), .val (.int (0 : Int32)), .unset, .unset, .unset, .unset, .unset]) rfl ?_
        show Steps p.tables e below (T37.setTop (mkF m 41 #[.val (.int p0), .val (.int p1), .val (.int p2), .val (.int p3), .val (.int p4), .val (.ref b34), .val (.int (0 : Int32)), .unset, .unset, .unset, .unset, .unset] [])) _
        refine XS.iload X37.here hx rfl (hb hby at_41) rfl ?_
        show Steps p.tables e below (T37.setTop (mkF m 43 #[.val (.int p0), .val (.int p1), .val (.int p2), .val (.int p3), .val (.int p4), .val (.ref b34), .val (.int (0 : Int32)), .unset, .unset, .unset, .unset, .unset] [(.int p4)])) _
        refine XS.iconst X37.here hx rfl (hb hby at_43) ?_
        show Steps p.tables e below (T37.setTop (mkF m 44 #[.val (.int p0), .val (.int p1), .val (.int p2), .val (.int p3), .val (.int p4), .val (.ref b34), .val (.int (0 : Int32)), .unset, .unset, .unset, .unset, .unset] [(.int (2 : Int32)), (.int p4)])) _
        refine XS.iand X37.here hx rfl (hb hby at_44) rfl ?_
        show Steps p.tables e below (T37.setTop (mkF m 45 #[.val (.int p0), .val (.int p1), .val (.int p2), .val (.int p3), .val (.int p4), .val (.ref b34), .val (.int (0 : Int32)), .unset, .unset, .unset, .unset, .unset] [(.int (p4 &&& (2 : Int32)))])) _
        refine XS.ifYes X37.here hx rfl (pc0 := 45) (pc' := 52) rfl (hb hby at_45) rfl (XT.i0_eq_t hs1) (by decide) (by decide) ?_
        show Steps p.tables e below (T37.setTop (mkF m 52 #[.val (.int p0), .val (.int p1), .val (.int p2), .val (.int p3), .val (.int p4), .val (.ref b34), .val (.int (0 : Int32)), .unset, .unset, .unset, .unset, .unset] [])) _
        refine XS.iconst X37.here hx rfl (hb hby at_52) ?_
        show Steps p.tables e below (T37.setTop (mkF m 53 #[.val (.int p0), .val (.int p1), .val (.int p2), .val (.int p3), .val (.int p4), .val (.ref b34), .val (.int (0 : Int32)), .unset, .unset, .unset, .unset, .unset] [(.int (0 : Int32))])) _
        refine XS.istore X37.here hx rfl (hb hby at_53) rfl (l' := #[.val (.int p0), .val (.int p1), .val (.int p2), .val (.int p3), .val (.int p4), .val (.ref b34), .val (.int (0 : Int32)), .val (.int (0 : Int32)), .unset, .unset, .unset, .unset]) rfl ?_
        show Steps p.tables e below (T37.setTop (mkF m 55 #[.val (.int p0), .val (.int p1), .val (.int p2), .val (.int p3), .val (.int p4), .val (.ref b34), .val (.int (0 : Int32)), .val (.int (0 : Int32)), .unset, .unset, .unset, .unset] [])) _
        refine XS.iload X37.here hx rfl (hb hby at_55) rfl ?_
        show Steps p.tables e below (T37.setTop (mkF m 57 #[.val (.int p0), .val (.int p1), .val (.int p2), .val (.int p3), .val (.int p4), .val (.ref b34), .val (.int (0 : Int32)), .val (.int (0 : Int32)), .unset, .unset, .unset, .unset] [(.int (0 : Int32))])) _
        refine XS.ifYes X37.here hx rfl (pc0 := 57) (pc' := 64) rfl (hb hby at_57) rfl (XT.i0_eq_t (by decide)) (by decide) (by decide) ?_
        show Steps p.tables e below (T37.setTop (mkF m 64 #[.val (.int p0), .val (.int p1), .val (.int p2), .val (.int p3), .val (.int p4), .val (.ref b34), .val (.int (0 : Int32)), .val (.int (0 : Int32)), .unset, .unset, .unset, .unset] [])) _
        refine XS.iloadN X37.here hx rfl (hb hby at_64) rfl ?_
        show Steps p.tables e below (T37.setTop (mkF m 65 #[.val (.int p0), .val (.int p1), .val (.int p2), .val (.int p3), .val (.int p4), .val (.ref b34), .val (.int (0 : Int32)), .val (.int (0 : Int32)), .unset, .unset, .unset, .unset] [(.int p0)])) _
        refine XS.istore X37.here hx rfl (hb hby at_65) rfl (l' := #[.val (.int p0), .val (.int p1), .val (.int p2), .val (.int p3), .val (.int p4), .val (.ref b34), .val (.int (0 : Int32)), .val (.int (0 : Int32)), .val (.int p0), .unset, .unset, .unset]) rfl ?_
        show Steps p.tables e below (T37.setTop (mkF m 67 #[.val (.int p0), .val (.int p1), .val (.int p2), .val (.int p3), .val (.int p4), .val (.ref b34), .val (.int (0 : Int32)), .val (.int (0 : Int32)), .val (.int p0), .unset, .unset, .unset] [])) _
        refine XS.iload X37.here hx rfl (hb hby at_67) rfl ?_
        show Steps p.tables e below (T37.setTop (mkF m 69 #[.val (.int p0), .val (.int p1), .val (.int p2), .val (.int p3), .val (.int p4), .val (.ref b34), .val (.int (0 : Int32)), .val (.int (0 : Int32)), .val (.int p0), .unset, .unset, .unset] [(.int (0 : Int32))])) _
        refine XS.ifYes X37.here hx rfl (pc0 := 69) (pc' := 76) rfl (hb hby at_69) rfl (XT.i0_eq_t (by decide)) (by decide) (by decide) ?_
        show Steps p.tables e below (T37.setTop (mkF m 76 #[.val (.int p0), .val (.int p1), .val (.int p2), .val (.int p3), .val (.int p4), .val (.ref b34), .val (.int (0 : Int32)), .val (.int (0 : Int32)), .val (.int p0), .unset, .unset, .unset] [])) _
        refine XS.iloadN X37.here hx rfl (hb hby at_76) rfl ?_
        show Steps p.tables e below (T37.setTop (mkF m 77 #[.val (.int p0), .val (.int p1), .val (.int p2), .val (.int p3), .val (.int p4), .val (.ref b34), .val (.int (0 : Int32)), .val (.int (0 : Int32)), .val (.int p0), .unset, .unset, .unset] [(.int p1)])) _
        refine XS.istore X37.here hx rfl (hb hby at_77) rfl (l' := #[.val (.int p0), .val (.int p1), .val (.int p2), .val (.int p3), .val (.int p4), .val (.ref b34), .val (.int (0 : Int32)), .val (.int (0 : Int32)), .val (.int p0), .val (.int p1), .unset, .unset]) rfl ?_
        show Steps p.tables e below (T37.setTop (mkF m 79 #[.val (.int p0), .val (.int p1), .val (.int p2), .val (.int p3), .val (.int p4), .val (.ref b34), .val (.int (0 : Int32)), .val (.int (0 : Int32)), .val (.int p0), .val (.int p1), .unset, .unset] [])) _
        refine XS.iload X37.here hx rfl (hb hby at_79) rfl ?_
        show Steps p.tables e below (T37.setTop (mkF m 81 #[.val (.int p0), .val (.int p1), .val (.int p2), .val (.int p3), .val (.int p4), .val (.ref b34), .val (.int (0 : Int32)), .val (.int (0 : Int32)), .val (.int p0), .val (.int p1), .unset, .unset] [(.int (0 : Int32))])) _
        refine XS.ifYes X37.here hx rfl (pc0 := 81) (pc' := 88) rfl (hb hby at_81) rfl (XT.i0_eq_t (by decide)) (by decide) (by decide) ?_
        show Steps p.tables e below (T37.setTop (mkF m 88 #[.val (.int p0), .val (.int p1), .val (.int p2), .val (.int p3), .val (.int p4), .val (.ref b34), .val (.int (0 : Int32)), .val (.int (0 : Int32)), .val (.int p0), .val (.int p1), .unset, .unset] [])) _
        refine XS.iloadN X37.here hx rfl (hb hby at_88) rfl ?_
        show Steps p.tables e below (T37.setTop (mkF m 89 #[.val (.int p0), .val (.int p1), .val (.int p2), .val (.int p3), .val (.int p4), .val (.ref b34), .val (.int (0 : Int32)), .val (.int (0 : Int32)), .val (.int p0), .val (.int p1), .unset, .unset] [(.int p2)])) _
        refine XS.istore X37.here hx rfl (hb hby at_89) rfl (l' := #[.val (.int p0), .val (.int p1), .val (.int p2), .val (.int p3), .val (.int p4), .val (.ref b34), .val (.int (0 : Int32)), .val (.int (0 : Int32)), .val (.int p0), .val (.int p1), .val (.int p2), .unset]) rfl ?_
        show Steps p.tables e below (T37.setTop (mkF m 91 #[.val (.int p0), .val (.int p1), .val (.int p2), .val (.int p3), .val (.int p4), .val (.ref b34), .val (.int (0 : Int32)), .val (.int (0 : Int32)), .val (.int p0), .val (.int p1), .val (.int p2), .unset] [])) _
        refine XS.iload X37.here hx rfl (hb hby at_91) rfl ?_
        show Steps p.tables e below (T37.setTop (mkF m 93 #[.val (.int p0), .val (.int p1), .val (.int p2), .val (.int p3), .val (.int p4), .val (.ref b34), .val (.int (0 : Int32)), .val (.int (0 : Int32)), .val (.int p0), .val (.int p1), .val (.int p2), .unset] [(.int (0 : Int32))])) _
        refine XS.ifYes X37.here hx rfl (pc0 := 93) (pc' := 100) rfl (hb hby at_93) rfl (XT.i0_eq_t (by decide)) (by decide) (by decide) ?_
        show Steps p.tables e below (T37.setTop (mkF m 100 #[.val (.int p0), .val (.int p1), .val (.int p2), .val (.int p3), .val (.int p4), .val (.ref b34), .val (.int (0 : Int32)), .val (.int (0 : Int32)), .val (.int p0), .val (.int p1), .val (.int p2), .unset] [])) _
        refine XS.iloadN X37.here hx rfl (hb hby at_100) rfl ?_
        show Steps p.tables e below (T37.setTop (mkF m 101 #[.val (.int p0), .val (.int p1), .val (.int p2), .val (.int p3), .val (.int p4), .val (.ref b34), .val (.int (0 : Int32)), .val (.int (0 : Int32)), .val (.int p0), .val (.int p1), .val (.int p2), .unset] [(.int p3)])) _
        refine XS.istore X37.here hx rfl (hb hby at_101) rfl (l' := #[.val (.int p0), .val (.int p1), .val (.int p2), .val (.int p3), .val (.int p4), .val (.ref b34), .val (.int (0 : Int32)), .val (.int (0 : Int32)), .val (.int p0), .val (.int p1), .val (.int p2), .val (.int p3)]) rfl ?_
        show Steps p.tables e below (T37.setTop (mkF m 103 #[.val (.int p0), .val (.int p1), .val (.int p2), .val (.int p3), .val (.int p4), .val (.ref b34), .val (.int (0 : Int32)), .val (.int (0 : Int32)), .val (.int p0), .val (.int p1), .val (.int p2), .val (.int p3)] [])) _
        refine XS.aload X37.here hx rfl (hb hby at_103) rfl rfl ?_
        show Steps p.tables e below (T37.setTop (mkF m 105 #[.val (.int p0), .val (.int p1), .val (.int p2), .val (.int p3), .val (.int p4), .val (.ref b34), .val (.int (0 : Int32)), .val (.int (0 : Int32)), .val (.int p0), .val (.int p1), .val (.int p2), .val (.int p3)] [(.ref b34)])) _
        refine XS.iconst X37.here hx rfl (hb hby at_105) ?_
        show Steps p.tables e below (T37.setTop (mkF m 106 #[.val (.int p0), .val (.int p1), .val (.int p2), .val (.int p3), .val (.int p4), .val (.ref b34), .val (.int (0 : Int32)), .val (.int (0 : Int32)), .val (.int p0), .val (.int p1), .val (.int p2), .val (.int p3)] [(.int (0 : Int32)), (.ref b34)])) _
        refine XS.iload X37.here hx rfl (hb hby at_106) rfl ?_
        show Steps p.tables e below (T37.setTop (mkF m 108 #[.val (.int p0), .val (.int p1), .val (.int p2), .val (.int p3), .val (.int p4), .val (.ref b34), .val (.int (0 : Int32)), .val (.int (0 : Int32)), .val (.int p0), .val (.int p1), .val (.int p2), .val (.int p3)] [(.int p0), (.int (0 : Int32)), (.ref b34)])) _
        refine st40.trans ?_
        show Steps p.tables e below (T40.setTop (mkF m 111 #[.val (.int p0), .val (.int p1), .val (.int p2), .val (.int p3), .val (.int p4), .val (.ref b34), .val (.int (0 : Int32)), .val (.int (0 : Int32)), .val (.int p0), .val (.int p1), .val (.int p2), .val (.int p3)] [(.int (if p0 = p0 then p1 else p0))])) _
        refine XS.iload X40.here hx rfl (hb hby at_111) rfl ?_
        show Steps p.tables e below (T40.setTop (mkF m 113 #[.val (.int p0), .val (.int p1), .val (.int p2), .val (.int p3), .val (.int p4), .val (.ref b34), .val (.int (0 : Int32)), .val (.int (0 : Int32)), .val (.int p0), .val (.int p1), .val (.int p2), .val (.int p3)] [(.int p1), (.int (if p0 = p0 then p1 else p0))])) _
        refine XS.icmpNo X40.here hx rfl (hb hby at_113) rfl (XT.ii_ne_f (if_pos rfl)) ?_
        show Steps p.tables e below (T40.setTop (mkF m 116 #[.val (.int p0), .val (.int p1), .val (.int p2), .val (.int p3), .val (.int p4), .val (.ref b34), .val (.int (0 : Int32)), .val (.int (0 : Int32)), .val (.int p0), .val (.int p1), .val (.int p2), .val (.int p3)] [])) _
        refine XS.aload X40.here hx rfl (hb hby at_116) rfl rfl ?_
        show Steps p.tables e below (T40.setTop (mkF m 118 #[.val (.int p0), .val (.int p1), .val (.int p2), .val (.int p3), .val (.int p4), .val (.ref b34), .val (.int (0 : Int32)), .val (.int (0 : Int32)), .val (.int p0), .val (.int p1), .val (.int p2), .val (.int p3)] [(.ref b34)])) _
        refine XS.iconst X40.here hx rfl (hb hby at_118) ?_
        show Steps p.tables e below (T40.setTop (mkF m 119 #[.val (.int p0), .val (.int p1), .val (.int p2), .val (.int p3), .val (.int p4), .val (.ref b34), .val (.int (0 : Int32)), .val (.int (0 : Int32)), .val (.int p0), .val (.int p1), .val (.int p2), .val (.int p3)] [(.int (1 : Int32)), (.ref b34)])) _
        refine XS.iload X40.here hx rfl (hb hby at_119) rfl ?_
        show Steps p.tables e below (T40.setTop (mkF m 121 #[.val (.int p0), .val (.int p1), .val (.int p2), .val (.int p3), .val (.int p4), .val (.ref b34), .val (.int (0 : Int32)), .val (.int (0 : Int32)), .val (.int p0), .val (.int p1), .val (.int p2), .val (.int p3)] [(.int p2), (.int (1 : Int32)), (.ref b34)])) _
        refine st41.trans ?_
        show Steps p.tables e below (T41.setTop (mkF m 124 #[.val (.int p0), .val (.int p1), .val (.int p2), .val (.int p3), .val (.int p4), .val (.ref b34), .val (.int (0 : Int32)), .val (.int (0 : Int32)), .val (.int p0), .val (.int p1), .val (.int p2), .val (.int p3)] [(.int (if p2 = p2 then p3 else p2))])) _
        refine XS.iload X41.here hx rfl (hb hby at_124) rfl ?_
        show Steps p.tables e below (T41.setTop (mkF m 126 #[.val (.int p0), .val (.int p1), .val (.int p2), .val (.int p3), .val (.int p4), .val (.ref b34), .val (.int (0 : Int32)), .val (.int (0 : Int32)), .val (.int p0), .val (.int p1), .val (.int p2), .val (.int p3)] [(.int p3), (.int (if p2 = p2 then p3 else p2))])) _
        refine XS.icmpNo X41.here hx rfl (hb hby at_126) rfl (XT.ii_ne_f (if_pos rfl)) ?_
        show Steps p.tables e below (T41.setTop (mkF m 129 #[.val (.int p0), .val (.int p1), .val (.int p2), .val (.int p3), .val (.int p4), .val (.ref b34), .val (.int (0 : Int32)), .val (.int (0 : Int32)), .val (.int p0), .val (.int p1), .val (.int p2), .val (.int p3)] [])) _
        refine XS.iconst X41.here hx rfl (hb hby at_129) ?_
        show Steps p.tables e below (T41.setTop (mkF m 130 #[.val (.int p0), .val (.int p1), .val (.int p2), .val (.int p3), .val (.int p4), .val (.ref b34), .val (.int (0 : Int32)), .val (.int (0 : Int32)), .val (.int p0), .val (.int p1), .val (.int p2), .val (.int p3)] [(.int (1 : Int32))])) _
        refine XS.goto X41.here hx rfl (pc0 := 130) (pc' := 134) rfl (hb hby at_130) (by decide) (by decide) ?_
        show Steps p.tables e below (T41.setTop (mkF m 134 #[.val (.int p0), .val (.int p1), .val (.int p2), .val (.int p3), .val (.int p4), .val (.ref b34), .val (.int (0 : Int32)), .val (.int (0 : Int32)), .val (.int p0), .val (.int p1), .val (.int p2), .val (.int p3)] [(.int (1 : Int32))])) _
        exact retN X41 hx (t := .boolean) Bd.returns (by simp) (hb hby at_134) hr
      · show Q_own_law Z p0 p1 p2 p3 p4  h0 n0 _ T41.heap _
        rw [eh41]
        exact ⟨rfl, N41⟩
    · obtain ⟨cq42, kq42, q42a, q42b, q42c⟩ := isOf hZ rfl E_1
      obtain ⟨_, _, ⟨T42, L42, k42, n42⟩, -, X42, ⟨Lc42, hQ42, l42, y42, z42⟩, st42⟩ := X37.virtualBack hx (y := (⟨"com/example/knitwork/knitwork/bibliometric/ScoredPairs", "other", "(II)I"⟩ : MethodName)) (z := (⟨"com/example/knitwork/knitwork/bibliometric/ScoredPairs", "other", "(II)I"⟩ : MethodName)) hown (mvT hZ (hw _ (List.mem_of_getElem? (i := 25) rfl))) (mvT hZ (hw _ (List.mem_of_getElem? (i := 26) rfl))) (notFace_of_selects (args := #[]) (mvT hZ (hw _ (List.mem_of_getElem? (i := 28) rfl)))) (mvT hZ (hw _ (List.mem_of_getElem? (i := 28) rfl))) (mvT hZ (hw _ (List.mem_of_getElem? (i := 27) rfl))) (by decide) (backOf (W := 0) (own_other l Z a0 hw [] b34 (0 : Int32) p0 p0 p1 0 au av ku kv (upd (upd (fun _ => Value.int 0) 0 (.int p0)) 1 (.int p2)) (upd (upd (fun _ => Value.int 0) 0 (.int p1)) 1 (.int p3)) T37.heap n0 (Nat.le_trans g_au (Nat.le_of_lt V_u1.lt)) ⟨by decide, rfl⟩ (by decide) rfl rfl F_u1 F_v1 V_u1 V_v1) hZ (hw _ (List.mem_of_getElem? (i := 29) rfl)) (hw _ (List.mem_of_getElem? (i := 2) rfl)) (by decide) (by decide)) q42a q42c (g := (mkF m 108 #[.val (.int p0), .val (.int p1), .val (.int p2), .val (.int p3), .val (.int p4), .val (.ref b34), .val (.int (0 : Int32)), .val (.int (1 : Int32)), .val (.int p0), .val (.int p1), .val (.int p3), .val (.int p2)] [(.int p0), (.int (0 : Int32)), (.ref b34)])) rfl (by rw [hml]; rfl) (Steps.refl _) (argsL := [(.int (0 : Int32)), (.int p0)]) (rest := []) (lenOf pd_2 rfl) rfl (by show 2 * 0 + _ ≤ _; exact Nat.le_of_eq rfl) (hb hby at_108) (fun _ _ => ⟨rfl, rfl, (by decide : 5 + 0 ≤ _), (by decide : 263 + 0 ≤ _)⟩)
      dsimp only [Pt.U, Pt.locs, Pt.cells, Pt.slots] at X42 l42 y42 z42 st42 hQ42
      subst l42 y42 z42
      obtain ⟨rfl, N42q, eh42⟩ := hQ42
      have N42 := Fr.app N37 N42q
      obtain ⟨cq43, kq43, q43a, q43b, q43c⟩ := isOf hZ eh42 E_1
      obtain ⟨_, _, ⟨T43, L43, k43, n43⟩, -, X43, ⟨Lc43, hQ43, l43, y43, z43⟩, st43⟩ := X42.virtualBack hx (y := (⟨"com/example/knitwork/knitwork/bibliometric/ScoredPairs", "other", "(II)I"⟩ : MethodName)) (z := (⟨"com/example/knitwork/knitwork/bibliometric/ScoredPairs", "other", "(II)I"⟩ : MethodName)) hown (mvT hZ (hw _ (List.mem_of_getElem? (i := 25) rfl))) (mvT hZ (hw _ (List.mem_of_getElem? (i := 26) rfl))) (notFace_of_selects (args := #[]) (mvT hZ (hw _ (List.mem_of_getElem? (i := 28) rfl)))) (mvT hZ (hw _ (List.mem_of_getElem? (i := 28) rfl))) (mvT hZ (hw _ (List.mem_of_getElem? (i := 27) rfl))) (by decide) (backOf (W := 0) (own_other l Z a0 hw [] b34 (1 : Int32) p3 p2 p3 1 au av ku kv (upd (upd (fun _ => Value.int 0) 0 (.int p0)) 1 (.int p2)) (upd (upd (fun _ => Value.int 0) 0 (.int p1)) 1 (.int p3)) T37.heap n0 (Nat.le_trans g_au (Nat.le_of_lt V_u1.lt)) ⟨by decide, rfl⟩ (by decide) rfl rfl F_u1 F_v1 V_u1 V_v1) hZ (hw _ (List.mem_of_getElem? (i := 29) rfl)) (hw _ (List.mem_of_getElem? (i := 2) rfl)) (by decide) (by decide)) q43a q43c (g := (mkF m 121 #[.val (.int p0), .val (.int p1), .val (.int p2), .val (.int p3), .val (.int p4), .val (.ref b34), .val (.int (0 : Int32)), .val (.int (1 : Int32)), .val (.int p0), .val (.int p1), .val (.int p3), .val (.int p2)] [(.int p3), (.int (1 : Int32)), (.ref b34)])) rfl (by rw [hml]; rfl) (Steps.refl _) (argsL := [(.int (1 : Int32)), (.int p3)]) (rest := []) (lenOf pd_2 rfl) rfl (by show 2 * 0 + _ ≤ _; exact Nat.le_of_eq rfl) (hb hby at_121) (fun _ _ => ⟨rfl, eh42, (by decide : 5 + 0 ≤ _), (by decide : 263 + 0 ≤ _)⟩)
      dsimp only [Pt.U, Pt.locs, Pt.cells, Pt.slots] at X43 l43 y43 z43 st43 hQ43
      subst l43 y43 z43
      obtain ⟨rfl, N43q, eh43⟩ := hQ43
      have N43 := Fr.app N42 N43q
      obtain ⟨fs, hr, hrun, hended, hW, hsame⟩ := X43.leave (v := some (.int (1 : Int32))) (fun h => by rw [Bd.returns] at h; cases h)
      refine ⟨_, _, pre0 _ ?_, hrun, hended, _, _, rfl, ?_, ⟨_, rfl⟩, hW, hsame.mono (by decide) (by decide)⟩
      · show Steps p.tables e below (s₁.setTop (mkF m 0 #[.val (.int p0), .val (.int p1), .val (.int p2), .val (.int p3), .val (.int p4), .unset, .unset, .unset, .unset, .unset, .unset, .unset] [])) _
        refine st34 _ ?_
        show Steps p.tables e below (T34.setTop (mkF m 3 #[.val (.int p0), .val (.int p1), .val (.int p2), .val (.int p3), .val (.int p4), .unset, .unset, .unset, .unset, .unset, .unset, .unset] [(.ref b34)])) _
        refine XS.dup X34.here hx rfl (hb hby at_3) rfl rfl ?_
        show Steps p.tables e below (T34.setTop (mkF m 4 #[.val (.int p0), .val (.int p1), .val (.int p2), .val (.int p3), .val (.int p4), .unset, .unset, .unset, .unset, .unset, .unset, .unset] [(.ref b34), (.ref b34)])) _
        refine st35.trans ?_
        show Steps p.tables e below (T35.setTop (mkF m 7 #[.val (.int p0), .val (.int p1), .val (.int p2), .val (.int p3), .val (.int p4), .unset, .unset, .unset, .unset, .unset, .unset, .unset] [(.ref b34)])) _
        refine XS.astore X35.here hx rfl (hb hby at_7) rfl rfl (l' := #[.val (.int p0), .val (.int p1), .val (.int p2), .val (.int p3), .val (.int p4), .val (.ref b34), .unset, .unset, .unset, .unset, .unset, .unset]) rfl ?_
        show Steps p.tables e below (T35.setTop (mkF m 9 #[.val (.int p0), .val (.int p1), .val (.int p2), .val (.int p3), .val (.int p4), .val (.ref b34), .unset, .unset, .unset, .unset, .unset, .unset] [])) _
        refine XS.aload X35.here hx rfl (hb hby at_9) rfl rfl ?_
        show Steps p.tables e below (T35.setTop (mkF m 11 #[.val (.int p0), .val (.int p1), .val (.int p2), .val (.int p3), .val (.int p4), .val (.ref b34), .unset, .unset, .unset, .unset, .unset, .unset] [(.ref b34)])) _
        refine XS.iloadN X35.here hx rfl (hb hby at_11) rfl ?_
        show Steps p.tables e below (T35.setTop (mkF m 12 #[.val (.int p0), .val (.int p1), .val (.int p2), .val (.int p3), .val (.int p4), .val (.ref b34), .unset, .unset, .unset, .unset, .unset, .unset] [(.int p0), (.ref b34)])) _
        refine XS.iloadN X35.here hx rfl (hb hby at_12) rfl ?_
        show Steps p.tables e below (T35.setTop (mkF m 13 #[.val (.int p0), .val (.int p1), .val (.int p2), .val (.int p3), .val (.int p4), .val (.ref b34), .unset, .unset, .unset, .unset, .unset, .unset] [(.int p1), (.int p0), (.ref b34)])) _
        refine XS.iconst X35.here hx rfl (hb hby at_13) ?_
        show Steps p.tables e below (T35.setTop (mkF m 14 #[.val (.int p0), .val (.int p1), .val (.int p2), .val (.int p3), .val (.int p4), .val (.ref b34), .unset, .unset, .unset, .unset, .unset, .unset] [(.int (0 : Int32)), (.int p1), (.int p0), (.ref b34)])) _
        refine XS.iconst X35.here hx rfl (hb hby at_14) ?_
        show Steps p.tables e below (T35.setTop (mkF m 15 #[.val (.int p0), .val (.int p1), .val (.int p2), .val (.int p3), .val (.int p4), .val (.ref b34), .unset, .unset, .unset, .unset, .unset, .unset] [(.int (1 : Int32)), (.int (0 : Int32)), (.int p1), (.int p0), (.ref b34)])) _
        refine st36.trans ?_
        show Steps p.tables e below (T36.setTop (mkF m 18 #[.val (.int p0), .val (.int p1), .val (.int p2), .val (.int p3), .val (.int p4), .val (.ref b34), .unset, .unset, .unset, .unset, .unset, .unset] [])) _
        refine XS.aload X36.here hx rfl (hb hby at_18) rfl rfl ?_
        show Steps p.tables e below (T36.setTop (mkF m 20 #[.val (.int p0), .val (.int p1), .val (.int p2), .val (.int p3), .val (.int p4), .val (.ref b34), .unset, .unset, .unset, .unset, .unset, .unset] [(.ref b34)])) _
        refine XS.iloadN X36.here hx rfl (hb hby at_20) rfl ?_
        show Steps p.tables e below (T36.setTop (mkF m 21 #[.val (.int p0), .val (.int p1), .val (.int p2), .val (.int p3), .val (.int p4), .val (.ref b34), .unset, .unset, .unset, .unset, .unset, .unset] [(.int p2), (.ref b34)])) _
        refine XS.iloadN X36.here hx rfl (hb hby at_21) rfl ?_
        show Steps p.tables e below (T36.setTop (mkF m 22 #[.val (.int p0), .val (.int p1), .val (.int p2), .val (.int p3), .val (.int p4), .val (.ref b34), .unset, .unset, .unset, .unset, .unset, .unset] [(.int p3), (.int p2), (.ref b34)])) _
        refine XS.iconst X36.here hx rfl (hb hby at_22) ?_
        show Steps p.tables e below (T36.setTop (mkF m 23 #[.val (.int p0), .val (.int p1), .val (.int p2), .val (.int p3), .val (.int p4), .val (.ref b34), .unset, .unset, .unset, .unset, .unset, .unset] [(.int (1 : Int32)), (.int p3), (.int p2), (.ref b34)])) _
        refine XS.iconst X36.here hx rfl (hb hby at_23) ?_
        show Steps p.tables e below (T36.setTop (mkF m 24 #[.val (.int p0), .val (.int p1), .val (.int p2), .val (.int p3), .val (.int p4), .val (.ref b34), .unset, .unset, .unset, .unset, .unset, .unset] [(.int (2 : Int32)), (.int (1 : Int32)), (.int p3), (.int p2), (.ref b34)])) _
        refine st37.trans ?_
        show Steps p.tables e below (T37.setTop (mkF m 27 #[.val (.int p0), .val (.int p1), .val (.int p2), .val (.int p3), .val (.int p4), .val (.ref b34), .unset, .unset, .unset, .unset, .unset, .unset] [])) _
        refine XS.iload X37.here hx rfl (hb hby at_27) rfl ?_
        show Steps p.tables e below (T37.setTop (mkF m 29 #[.val (.int p0), .val (.int p1), .val (.int p2), .val (.int p3), .val (.int p4), .val (.ref b34), .unset, .unset, .unset, .unset, .unset, .unset] [(.int p4)])) _
        refine XS.iconst X37.here hx rfl (hb hby at_29) ?_
        show Steps p.tables e below (T37.setTop (mkF m 30 #[.val (.int p0), .val (.int p1), .val (.int p2), .val (.int p3), .val (.int p4), .val (.ref b34), .unset, .unset, .unset, .unset, .unset, .unset] [(.int (1 : Int32)), (.int p4)])) _
        refine XS.iand X37.here hx rfl (hb hby at_30) rfl ?_
        show Steps p.tables e below (T37.setTop (mkF m 31 #[.val (.int p0), .val (.int p1), .val (.int p2), .val (.int p3), .val (.int p4), .val (.ref b34), .unset, .unset, .unset, .unset, .unset, .unset] [(.int (p4 &&& (1 : Int32)))])) _
        refine XS.ifYes X37.here hx rfl (pc0 := 31) (pc' := 38) rfl (hb hby at_31) rfl (XT.i0_eq_t hs0) (by decide) (by decide) ?_
        show Steps p.tables e below (T37.setTop (mkF m 38 #[.val (.int p0), .val (.int p1), .val (.int p2), .val (.int p3), .val (.int p4), .val (.ref b34), .unset, .unset, .unset, .unset, .unset, .unset] [])) _
        refine XS.iconst X37.here hx rfl (hb hby at_38) ?_
        show Steps p.tables e below (T37.setTop (mkF m 39 #[.val (.int p0), .val (.int p1), .val (.int p2), .val (.int p3), .val (.int p4), .val (.ref b34), .unset, .unset, .unset, .unset, .unset, .unset] [(.int (0 : Int32))])) _
        refine XS.istore X37.here hx rfl (hb hby at_39) rfl (l' := #[.val (.int p0), .val (.int p1), .val (.int p2), .val (.int p3), .val (.int p4), .val (.ref b34), .val (.int (0 : Int32)), .unset, .unset, .unset, .unset, .unset]) rfl ?_
        show Steps p.tables e below (T37.setTop (mkF m 41 #[.val (.int p0), .val (.int p1), .val (.int p2), .val (.int p3), .val (.int p4), .val (.ref b34), .val (.int (0 : Int32)), .unset, .unset, .unset, .unset, .unset] [])) _
        refine XS.iload X37.here hx rfl (hb hby at_41) rfl ?_
        show Steps p.tables e below (T37.setTop (mkF m 43 #[.val (.int p0), .val (.int p1), .val (.int p2), .val (.int p3), .val (.int p4), .val (.ref b34), .val (.int (0 : Int32)), .unset, .unset, .unset, .unset, .unset] [(.int p4)])) _
        refine XS.iconst X37.here hx rfl (hb hby at_43) ?_
        show Steps p.tables e below (T37.setTop (mkF m 44 #[.val (.int p0), .val (.int p1), .val (.int p2), .val (.int p3), .val (.int p4), .val (.ref b34), .val (.int (0 : Int32)), .unset, .unset, .unset, .unset, .unset] [(.int (2 : Int32)), (.int p4)])) _
        refine XS.iand X37.here hx rfl (hb hby at_44) rfl ?_
        show Steps p.tables e below (T37.setTop (mkF m 45 #[.val (.int p0), .val (.int p1), .val (.int p2), .val (.int p3), .val (.int p4), .val (.ref b34), .val (.int (0 : Int32)), .unset, .unset, .unset, .unset, .unset] [(.int (p4 &&& (2 : Int32)))])) _
        refine XS.ifNo X37.here hx rfl (hb hby at_45) rfl (XT.i0_eq_f hs1) ?_
        show Steps p.tables e below (T37.setTop (mkF m 48 #[.val (.int p0), .val (.int p1), .val (.int p2), .val (.int p3), .val (.int p4), .val (.ref b34), .val (.int (0 : Int32)), .unset, .unset, .unset, .unset, .unset] [])) _
        refine XS.iconst X37.here hx rfl (hb hby at_48) ?_
        show Steps p.tables e below (T37.setTop (mkF m 49 #[.val (.int p0), .val (.int p1), .val (.int p2), .val (.int p3), .val (.int p4), .val (.ref b34), .val (.int (0 : Int32)), .unset, .unset, .unset, .unset, .unset] [(.int (1 : Int32))])) _
        refine XS.goto X37.here hx rfl (pc0 := 49) (pc' := 53) rfl (hb hby at_49) (by decide) (by decide) ?_
        show Steps p.tables e below (T37.setTop (mkF m 53 #[.val (.int p0), .val (.int p1), .val (.int p2), .val (.int p3), .val (.int p4), .val (.ref b34), .val (.int (0 : Int32)), .unset, .unset, .unset, .unset, .unset] [(.int (1 : Int32))])) _
        refine XS.istore X37.here hx rfl (hb hby at_53) rfl (l' := #[.val (.int p0), .val (.int p1), .val (.int p2), .val (.int p3), .val (.int p4), .val (.ref b34), .val (.int (0 : Int32)), .val (.int (1 : Int32)), .unset, .unset, .unset, .unset]) rfl ?_
        show Steps p.tables e below (T37.setTop (mkF m 55 #[.val (.int p0), .val (.int p1), .val (.int p2), .val (.int p3), .val (.int p4), .val (.ref b34), .val (.int (0 : Int32)), .val (.int (1 : Int32)), .unset, .unset, .unset, .unset] [])) _
        refine XS.iload X37.here hx rfl (hb hby at_55) rfl ?_
        show Steps p.tables e below (T37.setTop (mkF m 57 #[.val (.int p0), .val (.int p1), .val (.int p2), .val (.int p3), .val (.int p4), .val (.ref b34), .val (.int (0 : Int32)), .val (.int (1 : Int32)), .unset, .unset, .unset, .unset] [(.int (0 : Int32))])) _
        refine XS.ifYes X37.here hx rfl (pc0 := 57) (pc' := 64) rfl (hb hby at_57) rfl (XT.i0_eq_t (by decide)) (by decide) (by decide) ?_
        show Steps p.tables e below (T37.setTop (mkF m 64 #[.val (.int p0), .val (.int p1), .val (.int p2), .val (.int p3), .val (.int p4), .val (.ref b34), .val (.int (0 : Int32)), .val (.int (1 : Int32)), .unset, .unset, .unset, .unset] [])) _
        refine XS.iloadN X37.here hx rfl (hb hby at_64) rfl ?_
        show Steps p.tables e below (T37.setTop (mkF m 65 #[.val (.int p0), .val (.int p1), .val (.int p2), .val (.int p3), .val (.int p4), .val (.ref b34), .val (.int (0 : Int32)), .val (.int (1 : Int32)), .unset, .unset, .unset, .unset] [(.int p0)])) _
        refine XS.istore X37.here hx rfl (hb hby at_65) rfl (l' := #[.val (.int p0), .val (.int p1), .val (.int p2), .val (.int p3), .val (.int p4), .val (.ref b34), .val (.int (0 : Int32)), .val (.int (1 : Int32)), .val (.int p0), .unset, .unset, .unset]) rfl ?_
        show Steps p.tables e below (T37.setTop (mkF m 67 #[.val (.int p0), .val (.int p1), .val (.int p2), .val (.int p3), .val (.int p4), .val (.ref b34), .val (.int (0 : Int32)), .val (.int (1 : Int32)), .val (.int p0), .unset, .unset, .unset] [])) _
        refine XS.iload X37.here hx rfl (hb hby at_67) rfl ?_
        show Steps p.tables e below (T37.setTop (mkF m 69 #[.val (.int p0), .val (.int p1), .val (.int p2), .val (.int p3), .val (.int p4), .val (.ref b34), .val (.int (0 : Int32)), .val (.int (1 : Int32)), .val (.int p0), .unset, .unset, .unset] [(.int (0 : Int32))])) _
        refine XS.ifYes X37.here hx rfl (pc0 := 69) (pc' := 76) rfl (hb hby at_69) rfl (XT.i0_eq_t (by decide)) (by decide) (by decide) ?_
        show Steps p.tables e below (T37.setTop (mkF m 76 #[.val (.int p0), .val (.int p1), .val (.int p2), .val (.int p3), .val (.int p4), .val (.ref b34), .val (.int (0 : Int32)), .val (.int (1 : Int32)), .val (.int p0), .unset, .unset, .unset] [])) _
        refine XS.iloadN X37.here hx rfl (hb hby at_76) rfl ?_
        show Steps p.tables e below (T37.setTop (mkF m 77 #[.val (.int p0), .val (.int p1), .val (.int p2), .val (.int p3), .val (.int p4), .val (.ref b34), .val (.int (0 : Int32)), .val (.int (1 : Int32)), .val (.int p0), .unset, .unset, .unset] [(.int p1)])) _
        refine XS.istore X37.here hx rfl (hb hby at_77) rfl (l' := #[.val (.int p0), .val (.int p1), .val (.int p2), .val (.int p3), .val (.int p4), .val (.ref b34), .val (.int (0 : Int32)), .val (.int (1 : Int32)), .val (.int p0), .val (.int p1), .unset, .unset]) rfl ?_
        show Steps p.tables e below (T37.setTop (mkF m 79 #[.val (.int p0), .val (.int p1), .val (.int p2), .val (.int p3), .val (.int p4), .val (.ref b34), .val (.int (0 : Int32)), .val (.int (1 : Int32)), .val (.int p0), .val (.int p1), .unset, .unset] [])) _
        refine XS.iload X37.here hx rfl (hb hby at_79) rfl ?_
        show Steps p.tables e below (T37.setTop (mkF m 81 #[.val (.int p0), .val (.int p1), .val (.int p2), .val (.int p3), .val (.int p4), .val (.ref b34), .val (.int (0 : Int32)), .val (.int (1 : Int32)), .val (.int p0), .val (.int p1), .unset, .unset] [(.int (1 : Int32))])) _
        refine XS.ifNo X37.here hx rfl (hb hby at_81) rfl (XT.i0_eq_f (by decide)) ?_
        show Steps p.tables e below (T37.setTop (mkF m 84 #[.val (.int p0), .val (.int p1), .val (.int p2), .val (.int p3), .val (.int p4), .val (.ref b34), .val (.int (0 : Int32)), .val (.int (1 : Int32)), .val (.int p0), .val (.int p1), .unset, .unset] [])) _
        refine XS.iloadN X37.here hx rfl (hb hby at_84) rfl ?_
        show Steps p.tables e below (T37.setTop (mkF m 85 #[.val (.int p0), .val (.int p1), .val (.int p2), .val (.int p3), .val (.int p4), .val (.ref b34), .val (.int (0 : Int32)), .val (.int (1 : Int32)), .val (.int p0), .val (.int p1), .unset, .unset] [(.int p3)])) _
        refine XS.goto X37.here hx rfl (pc0 := 85) (pc' := 89) rfl (hb hby at_85) (by decide) (by decide) ?_
        show Steps p.tables e below (T37.setTop (mkF m 89 #[.val (.int p0), .val (.int p1), .val (.int p2), .val (.int p3), .val (.int p4), .val (.ref b34), .val (.int (0 : Int32)), .val (.int (1 : Int32)), .val (.int p0), .val (.int p1), .unset, .unset] [(.int p3)])) _
        refine XS.istore X37.here hx rfl (hb hby at_89) rfl (l' := #[.val (.int p0), .val (.int p1), .val (.int p2), .val (.int p3), .val (.int p4), .val (.ref b34), .val (.int (0 : Int32)), .val (.int (1 : Int32)), .val (.int p0), .val (.int p1), .val (.int p3), .unset]) rfl ?_
        show Steps p.tables e below (T37.setTop (mkF m 91 #[.val (.int p0), .val (.int p1), .val (.int p2), .val (.int p3), .val (.int p4), .val (.ref b34), .val (.int (0 : Int32)), .val (.int (1 : Int32)), .val (.int p0), .val (.int p1), .val (.int p3), .unset] [])) _
        refine XS.iload X37.here hx rfl (hb hby at_91) rfl ?_
        show Steps p.tables e below (T37.setTop (mkF m 93 #[.val (.int p0), .val (.int p1), .val (.int p2), .val (.int p3), .val (.int p4), .val (.ref b34), .val (.int (0 : Int32)), .val (.int (1 : Int32)), .val (.int p0), .val (.int p1), .val (.int p3), .unset] [(.int (1 : Int32))])) _
        refine XS.ifNo X37.here hx rfl (hb hby at_93) rfl (XT.i0_eq_f (by decide)) ?_
        show Steps p.tables e below (T37.setTop (mkF m 96 #[.val (.int p0), .val (.int p1), .val (.int p2), .val (.int p3), .val (.int p4), .val (.ref b34), .val (.int (0 : Int32)), .val (.int (1 : Int32)), .val (.int p0), .val (.int p1), .val (.int p3), .unset] [])) _
        refine XS.iloadN X37.here hx rfl (hb hby at_96) rfl ?_
        show Steps p.tables e below (T37.setTop (mkF m 97 #[.val (.int p0), .val (.int p1), .val (.int p2), .val (.int p3), .val (.int p4), .val (.ref b34), .val (.int (0 : Int32)), .val (.int (1 : Int32)), .val (.int p0), .val (.int p1), .val (.int p3), .unset] [(.int p2)])) _
        refine XS.goto X37.here hx rfl (pc0 := 97) (pc' := 101) rfl (hb hby at_97) (by decide) (by decide) ?_
        show Steps p.tables e below (T37.setTop (mkF m 101 #[.val (.int p0), .val (.int p1), .val (.int p2), .val (.int p3), .val (.int p4), .val (.ref b34), .val (.int (0 : Int32)), .val (.int (1 : Int32)), .val (.int p0), .val (.int p1), .val (.int p3), .unset] [(.int p2)])) _
        refine XS.istore X37.here hx rfl (hb hby at_101) rfl (l' := #[.val (.int p0), .val (.int p1), .val (.int p2), .val (.int p3), .val (.int p4), .val (.ref b34), .val (.int (0 : Int32)), .val (.int (1 : Int32)), .val (.int p0), .val (.int p1), .val (.int p3), .val (.int p2)]) rfl ?_
        show Steps p.tables e below (T37.setTop (mkF m 103 #[.val (.int p0), .val (.int p1), .val (.int p2), .val (.int p3), .val (.int p4), .val (.ref b34), .val (.int (0 : Int32)), .val (.int (1 : Int32)), .val (.int p0), .val (.int p1), .val (.int p3), .val (.int p2)] [])) _
        refine XS.aload X37.here hx rfl (hb hby at_103) rfl rfl ?_
        show Steps p.tables e below (T37.setTop (mkF m 105 #[.val (.int p0), .val (.int p1), .val (.int p2), .val (.int p3), .val (.int p4), .val (.ref b34), .val (.int (0 : Int32)), .val (.int (1 : Int32)), .val (.int p0), .val (.int p1), .val (.int p3), .val (.int p2)] [(.ref b34)])) _
        refine XS.iconst X37.here hx rfl (hb hby at_105) ?_
        show Steps p.tables e below (T37.setTop (mkF m 106 #[.val (.int p0), .val (.int p1), .val (.int p2), .val (.int p3), .val (.int p4), .val (.ref b34), .val (.int (0 : Int32)), .val (.int (1 : Int32)), .val (.int p0), .val (.int p1), .val (.int p3), .val (.int p2)] [(.int (0 : Int32)), (.ref b34)])) _
        refine XS.iload X37.here hx rfl (hb hby at_106) rfl ?_
        show Steps p.tables e below (T37.setTop (mkF m 108 #[.val (.int p0), .val (.int p1), .val (.int p2), .val (.int p3), .val (.int p4), .val (.ref b34), .val (.int (0 : Int32)), .val (.int (1 : Int32)), .val (.int p0), .val (.int p1), .val (.int p3), .val (.int p2)] [(.int p0), (.int (0 : Int32)), (.ref b34)])) _
        refine st42.trans ?_
        show Steps p.tables e below (T42.setTop (mkF m 111 #[.val (.int p0), .val (.int p1), .val (.int p2), .val (.int p3), .val (.int p4), .val (.ref b34), .val (.int (0 : Int32)), .val (.int (1 : Int32)), .val (.int p0), .val (.int p1), .val (.int p3), .val (.int p2)] [(.int (if p0 = p0 then p1 else p0))])) _
        refine XS.iload X42.here hx rfl (hb hby at_111) rfl ?_
        show Steps p.tables e below (T42.setTop (mkF m 113 #[.val (.int p0), .val (.int p1), .val (.int p2), .val (.int p3), .val (.int p4), .val (.ref b34), .val (.int (0 : Int32)), .val (.int (1 : Int32)), .val (.int p0), .val (.int p1), .val (.int p3), .val (.int p2)] [(.int p1), (.int (if p0 = p0 then p1 else p0))])) _
        refine XS.icmpNo X42.here hx rfl (hb hby at_113) rfl (XT.ii_ne_f (if_pos rfl)) ?_
        show Steps p.tables e below (T42.setTop (mkF m 116 #[.val (.int p0), .val (.int p1), .val (.int p2), .val (.int p3), .val (.int p4), .val (.ref b34), .val (.int (0 : Int32)), .val (.int (1 : Int32)), .val (.int p0), .val (.int p1), .val (.int p3), .val (.int p2)] [])) _
        refine XS.aload X42.here hx rfl (hb hby at_116) rfl rfl ?_
        show Steps p.tables e below (T42.setTop (mkF m 118 #[.val (.int p0), .val (.int p1), .val (.int p2), .val (.int p3), .val (.int p4), .val (.ref b34), .val (.int (0 : Int32)), .val (.int (1 : Int32)), .val (.int p0), .val (.int p1), .val (.int p3), .val (.int p2)] [(.ref b34)])) _
        refine XS.iconst X42.here hx rfl (hb hby at_118) ?_
        show Steps p.tables e below (T42.setTop (mkF m 119 #[.val (.int p0), .val (.int p1), .val (.int p2), .val (.int p3), .val (.int p4), .val (.ref b34), .val (.int (0 : Int32)), .val (.int (1 : Int32)), .val (.int p0), .val (.int p1), .val (.int p3), .val (.int p2)] [(.int (1 : Int32)), (.ref b34)])) _
        refine XS.iload X42.here hx rfl (hb hby at_119) rfl ?_
        show Steps p.tables e below (T42.setTop (mkF m 121 #[.val (.int p0), .val (.int p1), .val (.int p2), .val (.int p3), .val (.int p4), .val (.ref b34), .val (.int (0 : Int32)), .val (.int (1 : Int32)), .val (.int p0), .val (.int p1), .val (.int p3), .val (.int p2)] [(.int p3), (.int (1 : Int32)), (.ref b34)])) _
        refine st43.trans ?_
        show Steps p.tables e below (T43.setTop (mkF m 124 #[.val (.int p0), .val (.int p1), .val (.int p2), .val (.int p3), .val (.int p4), .val (.ref b34), .val (.int (0 : Int32)), .val (.int (1 : Int32)), .val (.int p0), .val (.int p1), .val (.int p3), .val (.int p2)] [(.int (if p2 = p3 then p3 else p2))])) _
        refine XS.iload X43.here hx rfl (hb hby at_124) rfl ?_
        show Steps p.tables e below (T43.setTop (mkF m 126 #[.val (.int p0), .val (.int p1), .val (.int p2), .val (.int p3), .val (.int p4), .val (.ref b34), .val (.int (0 : Int32)), .val (.int (1 : Int32)), .val (.int p0), .val (.int p1), .val (.int p3), .val (.int p2)] [(.int p2), (.int (if p2 = p3 then p3 else p2))])) _
        refine XS.icmpNo X43.here hx rfl (hb hby at_126) rfl (XT.ii_ne_f (own_sw p2 p3)) ?_
        show Steps p.tables e below (T43.setTop (mkF m 129 #[.val (.int p0), .val (.int p1), .val (.int p2), .val (.int p3), .val (.int p4), .val (.ref b34), .val (.int (0 : Int32)), .val (.int (1 : Int32)), .val (.int p0), .val (.int p1), .val (.int p3), .val (.int p2)] [])) _
        refine XS.iconst X43.here hx rfl (hb hby at_129) ?_
        show Steps p.tables e below (T43.setTop (mkF m 130 #[.val (.int p0), .val (.int p1), .val (.int p2), .val (.int p3), .val (.int p4), .val (.ref b34), .val (.int (0 : Int32)), .val (.int (1 : Int32)), .val (.int p0), .val (.int p1), .val (.int p3), .val (.int p2)] [(.int (1 : Int32))])) _
        refine XS.goto X43.here hx rfl (pc0 := 130) (pc' := 134) rfl (hb hby at_130) (by decide) (by decide) ?_
        show Steps p.tables e below (T43.setTop (mkF m 134 #[.val (.int p0), .val (.int p1), .val (.int p2), .val (.int p3), .val (.int p4), .val (.ref b34), .val (.int (0 : Int32)), .val (.int (1 : Int32)), .val (.int p0), .val (.int p1), .val (.int p3), .val (.int p2)] [(.int (1 : Int32))])) _
        exact retN X43 hx (t := .boolean) Bd.returns (by simp) (hb hby at_134) hr
      · show Q_own_law Z p0 p1 p2 p3 p4  h0 n0 _ T43.heap _
        rw [eh43]
        exact ⟨rfl, N43⟩
  · by_cases hs1 : (p4 &&& (2 : Int32)) = 0
    · obtain ⟨cq45, kq45, q45a, q45b, q45c⟩ := isOf hZ rfl E_1
      obtain ⟨_, _, ⟨T45, L45, k45, n45⟩, -, X45, ⟨Lc45, hQ45, l45, y45, z45⟩, st45⟩ := X37.virtualBack hx (y := (⟨"com/example/knitwork/knitwork/bibliometric/ScoredPairs", "other", "(II)I"⟩ : MethodName)) (z := (⟨"com/example/knitwork/knitwork/bibliometric/ScoredPairs", "other", "(II)I"⟩ : MethodName)) hown (mvT hZ (hw _ (List.mem_of_getElem? (i := 25) rfl))) (mvT hZ (hw _ (List.mem_of_getElem? (i := 26) rfl))) (notFace_of_selects (args := #[]) (mvT hZ (hw _ (List.mem_of_getElem? (i := 28) rfl)))) (mvT hZ (hw _ (List.mem_of_getElem? (i := 28) rfl))) (mvT hZ (hw _ (List.mem_of_getElem? (i := 27) rfl))) (by decide) (backOf (W := 0) (own_other l Z a0 hw [] b34 (0 : Int32) p1 p0 p1 0 au av ku kv (upd (upd (fun _ => Value.int 0) 0 (.int p0)) 1 (.int p2)) (upd (upd (fun _ => Value.int 0) 0 (.int p1)) 1 (.int p3)) T37.heap n0 (Nat.le_trans g_au (Nat.le_of_lt V_u1.lt)) ⟨by decide, rfl⟩ (by decide) rfl rfl F_u1 F_v1 V_u1 V_v1) hZ (hw _ (List.mem_of_getElem? (i := 29) rfl)) (hw _ (List.mem_of_getElem? (i := 2) rfl)) (by decide) (by decide)) q45a q45c (g := (mkF m 108 #[.val (.int p0), .val (.int p1), .val (.int p2), .val (.int p3), .val (.int p4), .val (.ref b34), .val (.int (1 : Int32)), .val (.int (0 : Int32)), .val (.int p1), .val (.int p0), .val (.int p2), .val (.int p3)] [(.int p1), (.int (0 : Int32)), (.ref b34)])) rfl (by rw [hml]; rfl) (Steps.refl _) (argsL := [(.int (0 : Int32)), (.int p1)]) (rest := []) (lenOf pd_2 rfl) rfl (by show 2 * 0 + _ ≤ _; exact Nat.le_of_eq rfl) (hb hby at_108) (fun _ _ => ⟨rfl, rfl, (by decide : 5 + 0 ≤ _), (by decide : 263 + 0 ≤ _)⟩)
      dsimp only [Pt.U, Pt.locs, Pt.cells, Pt.slots] at X45 l45 y45 z45 st45 hQ45
      subst l45 y45 z45
      obtain ⟨rfl, N45q, eh45⟩ := hQ45
      have N45 := Fr.app N37 N45q
      obtain ⟨cq46, kq46, q46a, q46b, q46c⟩ := isOf hZ eh45 E_1
      obtain ⟨_, _, ⟨T46, L46, k46, n46⟩, -, X46, ⟨Lc46, hQ46, l46, y46, z46⟩, st46⟩ := X45.virtualBack hx (y := (⟨"com/example/knitwork/knitwork/bibliometric/ScoredPairs", "other", "(II)I"⟩ : MethodName)) (z := (⟨"com/example/knitwork/knitwork/bibliometric/ScoredPairs", "other", "(II)I"⟩ : MethodName)) hown (mvT hZ (hw _ (List.mem_of_getElem? (i := 25) rfl))) (mvT hZ (hw _ (List.mem_of_getElem? (i := 26) rfl))) (notFace_of_selects (args := #[]) (mvT hZ (hw _ (List.mem_of_getElem? (i := 28) rfl)))) (mvT hZ (hw _ (List.mem_of_getElem? (i := 28) rfl))) (mvT hZ (hw _ (List.mem_of_getElem? (i := 27) rfl))) (by decide) (backOf (W := 0) (own_other l Z a0 hw [] b34 (1 : Int32) p2 p2 p3 1 au av ku kv (upd (upd (fun _ => Value.int 0) 0 (.int p0)) 1 (.int p2)) (upd (upd (fun _ => Value.int 0) 0 (.int p1)) 1 (.int p3)) T37.heap n0 (Nat.le_trans g_au (Nat.le_of_lt V_u1.lt)) ⟨by decide, rfl⟩ (by decide) rfl rfl F_u1 F_v1 V_u1 V_v1) hZ (hw _ (List.mem_of_getElem? (i := 29) rfl)) (hw _ (List.mem_of_getElem? (i := 2) rfl)) (by decide) (by decide)) q46a q46c (g := (mkF m 121 #[.val (.int p0), .val (.int p1), .val (.int p2), .val (.int p3), .val (.int p4), .val (.ref b34), .val (.int (1 : Int32)), .val (.int (0 : Int32)), .val (.int p1), .val (.int p0), .val (.int p2), .val (.int p3)] [(.int p2), (.int (1 : Int32)), (.ref b34)])) rfl (by rw [hml]; rfl) (Steps.refl _) (argsL := [(.int (1 : Int32)), (.int p2)]) (rest := []) (lenOf pd_2 rfl) rfl (by show 2 * 0 + _ ≤ _; exact Nat.le_of_eq rfl) (hb hby at_121) (fun _ _ => ⟨rfl, eh45, (by decide : 5 + 0 ≤ _), (by decide : 263 + 0 ≤ _)⟩)
      dsimp only [Pt.U, Pt.locs, Pt.cells, Pt.slots] at X46 l46 y46 z46 st46 hQ46
      subst l46 y46 z46
      obtain ⟨rfl, N46q, eh46⟩ := hQ46
      have N46 := Fr.app N45 N46q
      obtain ⟨fs, hr, hrun, hended, hW, hsame⟩ := X46.leave (v := some (.int (1 : Int32))) (fun h => by rw [Bd.returns] at h; cases h)
      refine ⟨_, _, pre0 _ ?_, hrun, hended, _, _, rfl, ?_, ⟨_, rfl⟩, hW, hsame.mono (by decide) (by decide)⟩
      · show Steps p.tables e below (s₁.setTop (mkF m 0 #[.val (.int p0), .val (.int p1), .val (.int p2), .val (.int p3), .val (.int p4), .unset, .unset, .unset, .unset, .unset, .unset, .unset] [])) _
        refine st34 _ ?_
        show Steps p.tables e below (T34.setTop (mkF m 3 #[.val (.int p0), .val (.int p1), .val (.int p2), .val (.int p3), .val (.int p4), .unset, .unset, .unset, .unset, .unset, .unset, .unset] [(.ref b34)])) _
        refine XS.dup X34.here hx rfl (hb hby at_3) rfl rfl ?_
        show Steps p.tables e below (T34.setTop (mkF m 4 #[.val (.int p0), .val (.int p1), .val (.int p2), .val (.int p3), .val (.int p4), .unset, .unset, .unset, .unset, .unset, .unset, .unset] [(.ref b34), (.ref b34)])) _
        refine st35.trans ?_
        show Steps p.tables e below (T35.setTop (mkF m 7 #[.val (.int p0), .val (.int p1), .val (.int p2), .val (.int p3), .val (.int p4), .unset, .unset, .unset, .unset, .unset, .unset, .unset] [(.ref b34)])) _
        refine XS.astore X35.here hx rfl (hb hby at_7) rfl rfl (l' := #[.val (.int p0), .val (.int p1), .val (.int p2), .val (.int p3), .val (.int p4), .val (.ref b34), .unset, .unset, .unset, .unset, .unset, .unset]) rfl ?_
        show Steps p.tables e below (T35.setTop (mkF m 9 #[.val (.int p0), .val (.int p1), .val (.int p2), .val (.int p3), .val (.int p4), .val (.ref b34), .unset, .unset, .unset, .unset, .unset, .unset] [])) _
        refine XS.aload X35.here hx rfl (hb hby at_9) rfl rfl ?_
        show Steps p.tables e below (T35.setTop (mkF m 11 #[.val (.int p0), .val (.int p1), .val (.int p2), .val (.int p3), .val (.int p4), .val (.ref b34), .unset, .unset, .unset, .unset, .unset, .unset] [(.ref b34)])) _
        refine XS.iloadN X35.here hx rfl (hb hby at_11) rfl ?_
        show Steps p.tables e below (T35.setTop (mkF m 12 #[.val (.int p0), .val (.int p1), .val (.int p2), .val (.int p3), .val (.int p4), .val (.ref b34), .unset, .unset, .unset, .unset, .unset, .unset] [(.int p0), (.ref b34)])) _
        refine XS.iloadN X35.here hx rfl (hb hby at_12) rfl ?_
        show Steps p.tables e below (T35.setTop (mkF m 13 #[.val (.int p0), .val (.int p1), .val (.int p2), .val (.int p3), .val (.int p4), .val (.ref b34), .unset, .unset, .unset, .unset, .unset, .unset] [(.int p1), (.int p0), (.ref b34)])) _
        refine XS.iconst X35.here hx rfl (hb hby at_13) ?_
        show Steps p.tables e below (T35.setTop (mkF m 14 #[.val (.int p0), .val (.int p1), .val (.int p2), .val (.int p3), .val (.int p4), .val (.ref b34), .unset, .unset, .unset, .unset, .unset, .unset] [(.int (0 : Int32)), (.int p1), (.int p0), (.ref b34)])) _
        refine XS.iconst X35.here hx rfl (hb hby at_14) ?_
        show Steps p.tables e below (T35.setTop (mkF m 15 #[.val (.int p0), .val (.int p1), .val (.int p2), .val (.int p3), .val (.int p4), .val (.ref b34), .unset, .unset, .unset, .unset, .unset, .unset] [(.int (1 : Int32)), (.int (0 : Int32)), (.int p1), (.int p0), (.ref b34)])) _
        refine st36.trans ?_
        show Steps p.tables e below (T36.setTop (mkF m 18 #[.val (.int p0), .val (.int p1), .val (.int p2), .val (.int p3), .val (.int p4), .val (.ref b34), .unset, .unset, .unset, .unset, .unset, .unset] [])) _
        refine XS.aload X36.here hx rfl (hb hby at_18) rfl rfl ?_
        show Steps p.tables e below (T36.setTop (mkF m 20 #[.val (.int p0), .val (.int p1), .val (.int p2), .val (.int p3), .val (.int p4), .val (.ref b34), .unset, .unset, .unset, .unset, .unset, .unset] [(.ref b34)])) _
        refine XS.iloadN X36.here hx rfl (hb hby at_20) rfl ?_
        show Steps p.tables e below (T36.setTop (mkF m 21 #[.val (.int p0), .val (.int p1), .val (.int p2), .val (.int p3), .val (.int p4), .val (.ref b34), .unset, .unset, .unset, .unset, .unset, .unset] [(.int p2), (.ref b34)])) _
        refine XS.iloadN X36.here hx rfl (hb hby at_21) rfl ?_
        show Steps p.tables e below (T36.setTop (mkF m 22 #[.val (.int p0), .val (.int p1), .val (.int p2), .val (.int p3), .val (.int p4), .val (.ref b34), .unset, .unset, .unset, .unset, .unset, .unset] [(.int p3), (.int p2), (.ref b34)])) _
        refine XS.iconst X36.here hx rfl (hb hby at_22) ?_
        show Steps p.tables e below (T36.setTop (mkF m 23 #[.val (.int p0), .val (.int p1), .val (.int p2), .val (.int p3), .val (.int p4), .val (.ref b34), .unset, .unset, .unset, .unset, .unset, .unset] [(.int (1 : Int32)), (.int p3), (.int p2), (.ref b34)])) _
        refine XS.iconst X36.here hx rfl (hb hby at_23) ?_
        show Steps p.tables e below (T36.setTop (mkF m 24 #[.val (.int p0), .val (.int p1), .val (.int p2), .val (.int p3), .val (.int p4), .val (.ref b34), .unset, .unset, .unset, .unset, .unset, .unset] [(.int (2 : Int32)), (.int (1 : Int32)), (.int p3), (.int p2), (.ref b34)])) _
        refine st37.trans ?_
        show Steps p.tables e below (T37.setTop (mkF m 27 #[.val (.int p0), .val (.int p1), .val (.int p2), .val (.int p3), .val (.int p4), .val (.ref b34), .unset, .unset, .unset, .unset, .unset, .unset] [])) _
        refine XS.iload X37.here hx rfl (hb hby at_27) rfl ?_
        show Steps p.tables e below (T37.setTop (mkF m 29 #[.val (.int p0), .val (.int p1), .val (.int p2), .val (.int p3), .val (.int p4), .val (.ref b34), .unset, .unset, .unset, .unset, .unset, .unset] [(.int p4)])) _
        refine XS.iconst X37.here hx rfl (hb hby at_29) ?_
        show Steps p.tables e below (T37.setTop (mkF m 30 #[.val (.int p0), .val (.int p1), .val (.int p2), .val (.int p3), .val (.int p4), .val (.ref b34), .unset, .unset, .unset, .unset, .unset, .unset] [(.int (1 : Int32)), (.int p4)])) _
        refine XS.iand X37.here hx rfl (hb hby at_30) rfl ?_
        show Steps p.tables e below (T37.setTop (mkF m 31 #[.val (.int p0), .val (.int p1), .val (.int p2), .val (.int p3), .val (.int p4), .val (.ref b34), .unset, .unset, .unset, .unset, .unset, .unset] [(.int (p4 &&& (1 : Int32)))])) _
        refine XS.ifNo X37.here hx rfl (hb hby at_31) rfl (XT.i0_eq_f hs0) ?_
        show Steps p.tables e below (T37.setTop (mkF m 34 #[.val (.int p0), .val (.int p1), .val (.int p2), .val (.int p3), .val (.int p4), .val (.ref b34), .unset, .unset, .unset, .unset, .unset, .unset] [])) _
        refine XS.iconst X37.here hx rfl (hb hby at_34) ?_
        show Steps p.tables e below (T37.setTop (mkF m 35 #[.val (.int p0), .val (.int p1), .val (.int p2), .val (.int p3), .val (.int p4), .val (.ref b34), .unset, .unset, .unset, .unset, .unset, .unset] [(.int (1 : Int32))])) _
        refine XS.goto X37.here hx rfl (pc0 := 35) (pc' := 39) rfl (hb hby at_35) (by decide) (by decide) ?_
        show Steps p.tables e below (T37.setTop (mkF m 39 #[.val (.int p0), .val (.int p1), .val (.int p2), .val (.int p3), .val (.int p4), .val (.ref b34), .unset, .unset, .unset, .unset, .unset, .unset] [(.int (1 : Int32))])) _
        refine XS.istore X37.here hx rfl (hb hby at_39) rfl (l' := #[.val (.int p0), .val (.int p1), .val (.int p2), .val (.int p3), .val (.int p4), .val (.ref b34), .val (.int (1 : Int32)), .unset, .unset, .unset, .unset, .unset]) rfl ?_
        show Steps p.tables e below (T37.setTop (mkF m 41 #[.val (.int p0), .val (.int p1), .val (.int p2), .val (.int p3), .val (.int p4), .val (.ref b34), .val (.int (1 : Int32)), .unset, .unset, .unset, .unset, .unset] [])) _
        refine XS.iload X37.here hx rfl (hb hby at_41) rfl ?_
        show Steps p.tables e below (T37.setTop (mkF m 43 #[.val (.int p0), .val (.int p1), .val (.int p2), .val (.int p3), .val (.int p4), .val (.ref b34), .val (.int (1 : Int32)), .unset, .unset, .unset, .unset, .unset] [(.int p4)])) _
        refine XS.iconst X37.here hx rfl (hb hby at_43) ?_
        show Steps p.tables e below (T37.setTop (mkF m 44 #[.val (.int p0), .val (.int p1), .val (.int p2), .val (.int p3), .val (.int p4), .val (.ref b34), .val (.int (1 : Int32)), .unset, .unset, .unset, .unset, .unset] [(.int (2 : Int32)), (.int p4)])) _
        refine XS.iand X37.here hx rfl (hb hby at_44) rfl ?_
        show Steps p.tables e below (T37.setTop (mkF m 45 #[.val (.int p0), .val (.int p1), .val (.int p2), .val (.int p3), .val (.int p4), .val (.ref b34), .val (.int (1 : Int32)), .unset, .unset, .unset, .unset, .unset] [(.int (p4 &&& (2 : Int32)))])) _
        refine XS.ifYes X37.here hx rfl (pc0 := 45) (pc' := 52) rfl (hb hby at_45) rfl (XT.i0_eq_t hs1) (by decide) (by decide) ?_
        show Steps p.tables e below (T37.setTop (mkF m 52 #[.val (.int p0), .val (.int p1), .val (.int p2), .val (.int p3), .val (.int p4), .val (.ref b34), .val (.int (1 : Int32)), .unset, .unset, .unset, .unset, .unset] [])) _
        refine XS.iconst X37.here hx rfl (hb hby at_52) ?_
        show Steps p.tables e below (T37.setTop (mkF m 53 #[.val (.int p0), .val (.int p1), .val (.int p2), .val (.int p3), .val (.int p4), .val (.ref b34), .val (.int (1 : Int32)), .unset, .unset, .unset, .unset, .unset] [(.int (0 : Int32))])) _
        refine XS.istore X37.here hx rfl (hb hby at_53) rfl (l' := #[.val (.int p0), .val (.int p1), .val (.int p2), .val (.int p3), .val (.int p4), .val (.ref b34), .val (.int (1 : Int32)), .val (.int (0 : Int32)), .unset, .unset, .unset, .unset]) rfl ?_
        show Steps p.tables e below (T37.setTop (mkF m 55 #[.val (.int p0), .val (.int p1), .val (.int p2), .val (.int p3), .val (.int p4), .val (.ref b34), .val (.int (1 : Int32)), .val (.int (0 : Int32)), .unset, .unset, .unset, .unset] [])) _
        refine XS.iload X37.here hx rfl (hb hby at_55) rfl ?_
        show Steps p.tables e below (T37.setTop (mkF m 57 #[.val (.int p0), .val (.int p1), .val (.int p2), .val (.int p3), .val (.int p4), .val (.ref b34), .val (.int (1 : Int32)), .val (.int (0 : Int32)), .unset, .unset, .unset, .unset] [(.int (1 : Int32))])) _
        refine XS.ifNo X37.here hx rfl (hb hby at_57) rfl (XT.i0_eq_f (by decide)) ?_
        show Steps p.tables e below (T37.setTop (mkF m 60 #[.val (.int p0), .val (.int p1), .val (.int p2), .val (.int p3), .val (.int p4), .val (.ref b34), .val (.int (1 : Int32)), .val (.int (0 : Int32)), .unset, .unset, .unset, .unset] [])) _
        refine XS.iloadN X37.here hx rfl (hb hby at_60) rfl ?_
        show Steps p.tables e below (T37.setTop (mkF m 61 #[.val (.int p0), .val (.int p1), .val (.int p2), .val (.int p3), .val (.int p4), .val (.ref b34), .val (.int (1 : Int32)), .val (.int (0 : Int32)), .unset, .unset, .unset, .unset] [(.int p1)])) _
        refine XS.goto X37.here hx rfl (pc0 := 61) (pc' := 65) rfl (hb hby at_61) (by decide) (by decide) ?_
        show Steps p.tables e below (T37.setTop (mkF m 65 #[.val (.int p0), .val (.int p1), .val (.int p2), .val (.int p3), .val (.int p4), .val (.ref b34), .val (.int (1 : Int32)), .val (.int (0 : Int32)), .unset, .unset, .unset, .unset] [(.int p1)])) _
        refine XS.istore X37.here hx rfl (hb hby at_65) rfl (l' := #[.val (.int p0), .val (.int p1), .val (.int p2), .val (.int p3), .val (.int p4), .val (.ref b34), .val (.int (1 : Int32)), .val (.int (0 : Int32)), .val (.int p1), .unset, .unset, .unset]) rfl ?_
        show Steps p.tables e below (T37.setTop (mkF m 67 #[.val (.int p0), .val (.int p1), .val (.int p2), .val (.int p3), .val (.int p4), .val (.ref b34), .val (.int (1 : Int32)), .val (.int (0 : Int32)), .val (.int p1), .unset, .unset, .unset] [])) _
        refine XS.iload X37.here hx rfl (hb hby at_67) rfl ?_
        show Steps p.tables e below (T37.setTop (mkF m 69 #[.val (.int p0), .val (.int p1), .val (.int p2), .val (.int p3), .val (.int p4), .val (.ref b34), .val (.int (1 : Int32)), .val (.int (0 : Int32)), .val (.int p1), .unset, .unset, .unset] [(.int (1 : Int32))])) _
        refine XS.ifNo X37.here hx rfl (hb hby at_69) rfl (XT.i0_eq_f (by decide)) ?_
        show Steps p.tables e below (T37.setTop (mkF m 72 #[.val (.int p0), .val (.int p1), .val (.int p2), .val (.int p3), .val (.int p4), .val (.ref b34), .val (.int (1 : Int32)), .val (.int (0 : Int32)), .val (.int p1), .unset, .unset, .unset] [])) _
        refine XS.iloadN X37.here hx rfl (hb hby at_72) rfl ?_
        show Steps p.tables e below (T37.setTop (mkF m 73 #[.val (.int p0), .val (.int p1), .val (.int p2), .val (.int p3), .val (.int p4), .val (.ref b34), .val (.int (1 : Int32)), .val (.int (0 : Int32)), .val (.int p1), .unset, .unset, .unset] [(.int p0)])) _
        refine XS.goto X37.here hx rfl (pc0 := 73) (pc' := 77) rfl (hb hby at_73) (by decide) (by decide) ?_
        show Steps p.tables e below (T37.setTop (mkF m 77 #[.val (.int p0), .val (.int p1), .val (.int p2), .val (.int p3), .val (.int p4), .val (.ref b34), .val (.int (1 : Int32)), .val (.int (0 : Int32)), .val (.int p1), .unset, .unset, .unset] [(.int p0)])) _
        refine XS.istore X37.here hx rfl (hb hby at_77) rfl (l' := #[.val (.int p0), .val (.int p1), .val (.int p2), .val (.int p3), .val (.int p4), .val (.ref b34), .val (.int (1 : Int32)), .val (.int (0 : Int32)), .val (.int p1), .val (.int p0), .unset, .unset]) rfl ?_
        show Steps p.tables e below (T37.setTop (mkF m 79 #[.val (.int p0), .val (.int p1), .val (.int p2), .val (.int p3), .val (.int p4), .val (.ref b34), .val (.int (1 : Int32)), .val (.int (0 : Int32)), .val (.int p1), .val (.int p0), .unset, .unset] [])) _
        refine XS.iload X37.here hx rfl (hb hby at_79) rfl ?_
        show Steps p.tables e below (T37.setTop (mkF m 81 #[.val (.int p0), .val (.int p1), .val (.int p2), .val (.int p3), .val (.int p4), .val (.ref b34), .val (.int (1 : Int32)), .val (.int (0 : Int32)), .val (.int p1), .val (.int p0), .unset, .unset] [(.int (0 : Int32))])) _
        refine XS.ifYes X37.here hx rfl (pc0 := 81) (pc' := 88) rfl (hb hby at_81) rfl (XT.i0_eq_t (by decide)) (by decide) (by decide) ?_
        show Steps p.tables e below (T37.setTop (mkF m 88 #[.val (.int p0), .val (.int p1), .val (.int p2), .val (.int p3), .val (.int p4), .val (.ref b34), .val (.int (1 : Int32)), .val (.int (0 : Int32)), .val (.int p1), .val (.int p0), .unset, .unset] [])) _
        refine XS.iloadN X37.here hx rfl (hb hby at_88) rfl ?_
        show Steps p.tables e below (T37.setTop (mkF m 89 #[.val (.int p0), .val (.int p1), .val (.int p2), .val (.int p3), .val (.int p4), .val (.ref b34), .val (.int (1 : Int32)), .val (.int (0 : Int32)), .val (.int p1), .val (.int p0), .unset, .unset] [(.int p2)])) _
        refine XS.istore X37.here hx rfl (hb hby at_89) rfl (l' := #[.val (.int p0), .val (.int p1), .val (.int p2), .val (.int p3), .val (.int p4), .val (.ref b34), .val (.int (1 : Int32)), .val (.int (0 : Int32)), .val (.int p1), .val (.int p0), .val (.int p2), .unset]) rfl ?_
        show Steps p.tables e below (T37.setTop (mkF m 91 #[.val (.int p0), .val (.int p1), .val (.int p2), .val (.int p3), .val (.int p4), .val (.ref b34), .val (.int (1 : Int32)), .val (.int (0 : Int32)), .val (.int p1), .val (.int p0), .val (.int p2), .unset] [])) _
        refine XS.iload X37.here hx rfl (hb hby at_91) rfl ?_
        show Steps p.tables e below (T37.setTop (mkF m 93 #[.val (.int p0), .val (.int p1), .val (.int p2), .val (.int p3), .val (.int p4), .val (.ref b34), .val (.int (1 : Int32)), .val (.int (0 : Int32)), .val (.int p1), .val (.int p0), .val (.int p2), .unset] [(.int (0 : Int32))])) _
        refine XS.ifYes X37.here hx rfl (pc0 := 93) (pc' := 100) rfl (hb hby at_93) rfl (XT.i0_eq_t (by decide)) (by decide) (by decide) ?_
        show Steps p.tables e below (T37.setTop (mkF m 100 #[.val (.int p0), .val (.int p1), .val (.int p2), .val (.int p3), .val (.int p4), .val (.ref b34), .val (.int (1 : Int32)), .val (.int (0 : Int32)), .val (.int p1), .val (.int p0), .val (.int p2), .unset] [])) _
        refine XS.iloadN X37.here hx rfl (hb hby at_100) rfl ?_
        show Steps p.tables e below (T37.setTop (mkF m 101 #[.val (.int p0), .val (.int p1), .val (.int p2), .val (.int p3), .val (.int p4), .val (.ref b34), .val (.int (1 : Int32)), .val (.int (0 : Int32)), .val (.int p1), .val (.int p0), .val (.int p2), .unset] [(.int p3)])) _
        refine XS.istore X37.here hx rfl (hb hby at_101) rfl (l' := #[.val (.int p0), .val (.int p1), .val (.int p2), .val (.int p3), .val (.int p4), .val (.ref b34), .val (.int (1 : Int32)), .val (.int (0 : Int32)), .val (.int p1), .val (.int p0), .val (.int p2), .val (.int p3)]) rfl ?_
        show Steps p.tables e below (T37.setTop (mkF m 103 #[.val (.int p0), .val (.int p1), .val (.int p2), .val (.int p3), .val (.int p4), .val (.ref b34), .val (.int (1 : Int32)), .val (.int (0 : Int32)), .val (.int p1), .val (.int p0), .val (.int p2), .val (.int p3)] [])) _
        refine XS.aload X37.here hx rfl (hb hby at_103) rfl rfl ?_
        show Steps p.tables e below (T37.setTop (mkF m 105 #[.val (.int p0), .val (.int p1), .val (.int p2), .val (.int p3), .val (.int p4), .val (.ref b34), .val (.int (1 : Int32)), .val (.int (0 : Int32)), .val (.int p1), .val (.int p0), .val (.int p2), .val (.int p3)] [(.ref b34)])) _
        refine XS.iconst X37.here hx rfl (hb hby at_105) ?_
        show Steps p.tables e below (T37.setTop (mkF m 106 #[.val (.int p0), .val (.int p1), .val (.int p2), .val (.int p3), .val (.int p4), .val (.ref b34), .val (.int (1 : Int32)), .val (.int (0 : Int32)), .val (.int p1), .val (.int p0), .val (.int p2), .val (.int p3)] [(.int (0 : Int32)), (.ref b34)])) _
        refine XS.iload X37.here hx rfl (hb hby at_106) rfl ?_
        show Steps p.tables e below (T37.setTop (mkF m 108 #[.val (.int p0), .val (.int p1), .val (.int p2), .val (.int p3), .val (.int p4), .val (.ref b34), .val (.int (1 : Int32)), .val (.int (0 : Int32)), .val (.int p1), .val (.int p0), .val (.int p2), .val (.int p3)] [(.int p1), (.int (0 : Int32)), (.ref b34)])) _
        refine st45.trans ?_
        show Steps p.tables e below (T45.setTop (mkF m 111 #[.val (.int p0), .val (.int p1), .val (.int p2), .val (.int p3), .val (.int p4), .val (.ref b34), .val (.int (1 : Int32)), .val (.int (0 : Int32)), .val (.int p1), .val (.int p0), .val (.int p2), .val (.int p3)] [(.int (if p0 = p1 then p1 else p0))])) _
        refine XS.iload X45.here hx rfl (hb hby at_111) rfl ?_
        show Steps p.tables e below (T45.setTop (mkF m 113 #[.val (.int p0), .val (.int p1), .val (.int p2), .val (.int p3), .val (.int p4), .val (.ref b34), .val (.int (1 : Int32)), .val (.int (0 : Int32)), .val (.int p1), .val (.int p0), .val (.int p2), .val (.int p3)] [(.int p0), (.int (if p0 = p1 then p1 else p0))])) _
        refine XS.icmpNo X45.here hx rfl (hb hby at_113) rfl (XT.ii_ne_f (own_sw p0 p1)) ?_
        show Steps p.tables e below (T45.setTop (mkF m 116 #[.val (.int p0), .val (.int p1), .val (.int p2), .val (.int p3), .val (.int p4), .val (.ref b34), .val (.int (1 : Int32)), .val (.int (0 : Int32)), .val (.int p1), .val (.int p0), .val (.int p2), .val (.int p3)] [])) _
        refine XS.aload X45.here hx rfl (hb hby at_116) rfl rfl ?_
        show Steps p.tables e below (T45.setTop (mkF m 118 #[.val (.int p0), .val (.int p1), .val (.int p2), .val (.int p3), .val (.int p4), .val (.ref b34), .val (.int (1 : Int32)), .val (.int (0 : Int32)), .val (.int p1), .val (.int p0), .val (.int p2), .val (.int p3)] [(.ref b34)])) _
        refine XS.iconst X45.here hx rfl (hb hby at_118) ?_
        show Steps p.tables e below (T45.setTop (mkF m 119 #[.val (.int p0), .val (.int p1), .val (.int p2), .val (.int p3), .val (.int p4), .val (.ref b34), .val (.int (1 : Int32)), .val (.int (0 : Int32)), .val (.int p1), .val (.int p0), .val (.int p2), .val (.int p3)] [(.int (1 : Int32)), (.ref b34)])) _
        refine XS.iload X45.here hx rfl (hb hby at_119) rfl ?_
        show Steps p.tables e below (T45.setTop (mkF m 121 #[.val (.int p0), .val (.int p1), .val (.int p2), .val (.int p3), .val (.int p4), .val (.ref b34), .val (.int (1 : Int32)), .val (.int (0 : Int32)), .val (.int p1), .val (.int p0), .val (.int p2), .val (.int p3)] [(.int p2), (.int (1 : Int32)), (.ref b34)])) _
        refine st46.trans ?_
        show Steps p.tables e below (T46.setTop (mkF m 124 #[.val (.int p0), .val (.int p1), .val (.int p2), .val (.int p3), .val (.int p4), .val (.ref b34), .val (.int (1 : Int32)), .val (.int (0 : Int32)), .val (.int p1), .val (.int p0), .val (.int p2), .val (.int p3)] [(.int (if p2 = p2 then p3 else p2))])) _
        refine XS.iload X46.here hx rfl (hb hby at_124) rfl ?_
        show Steps p.tables e below (T46.setTop (mkF m 126 #[.val (.int p0), .val (.int p1), .val (.int p2), .val (.int p3), .val (.int p4), .val (.ref b34), .val (.int (1 : Int32)), .val (.int (0 : Int32)), .val (.int p1), .val (.int p0), .val (.int p2), .val (.int p3)] [(.int p3), (.int (if p2 = p2 then p3 else p2))])) _
        refine XS.icmpNo X46.here hx rfl (hb hby at_126) rfl (XT.ii_ne_f (if_pos rfl)) ?_
        show Steps p.tables e below (T46.setTop (mkF m 129 #[.val (.int p0), .val (.int p1), .val (.int p2), .val (.int p3), .val (.int p4), .val (.ref b34), .val (.int (1 : Int32)), .val (.int (0 : Int32)), .val (.int p1), .val (.int p0), .val (.int p2), .val (.int p3)] [])) _
        refine XS.iconst X46.here hx rfl (hb hby at_129) ?_
        show Steps p.tables e below (T46.setTop (mkF m 130 #[.val (.int p0), .val (.int p1), .val (.int p2), .val (.int p3), .val (.int p4), .val (.ref b34), .val (.int (1 : Int32)), .val (.int (0 : Int32)), .val (.int p1), .val (.int p0), .val (.int p2), .val (.int p3)] [(.int (1 : Int32))])) _
        refine XS.goto X46.here hx rfl (pc0 := 130) (pc' := 134) rfl (hb hby at_130) (by decide) (by decide) ?_
        show Steps p.tables e below (T46.setTop (mkF m 134 #[.val (.int p0), .val (.int p1), .val (.int p2), .val (.int p3), .val (.int p4), .val (.ref b34), .val (.int (1 : Int32)), .val (.int (0 : Int32)), .val (.int p1), .val (.int p0), .val (.int p2), .val (.int p3)] [(.int (1 : Int32))])) _
        exact retN X46 hx (t := .boolean) Bd.returns (by simp) (hb hby at_134) hr
      · show Q_own_law Z p0 p1 p2 p3 p4  h0 n0 _ T46.heap _
        rw [eh46]
        exact ⟨rfl, N46⟩
    · obtain ⟨cq47, kq47, q47a, q47b, q47c⟩ := isOf hZ rfl E_1
      obtain ⟨_, _, ⟨T47, L47, k47, n47⟩, -, X47, ⟨Lc47, hQ47, l47, y47, z47⟩, st47⟩ := X37.virtualBack hx (y := (⟨"com/example/knitwork/knitwork/bibliometric/ScoredPairs", "other", "(II)I"⟩ : MethodName)) (z := (⟨"com/example/knitwork/knitwork/bibliometric/ScoredPairs", "other", "(II)I"⟩ : MethodName)) hown (mvT hZ (hw _ (List.mem_of_getElem? (i := 25) rfl))) (mvT hZ (hw _ (List.mem_of_getElem? (i := 26) rfl))) (notFace_of_selects (args := #[]) (mvT hZ (hw _ (List.mem_of_getElem? (i := 28) rfl)))) (mvT hZ (hw _ (List.mem_of_getElem? (i := 28) rfl))) (mvT hZ (hw _ (List.mem_of_getElem? (i := 27) rfl))) (by decide) (backOf (W := 0) (own_other l Z a0 hw [] b34 (0 : Int32) p1 p0 p1 0 au av ku kv (upd (upd (fun _ => Value.int 0) 0 (.int p0)) 1 (.int p2)) (upd (upd (fun _ => Value.int 0) 0 (.int p1)) 1 (.int p3)) T37.heap n0 (Nat.le_trans g_au (Nat.le_of_lt V_u1.lt)) ⟨by decide, rfl⟩ (by decide) rfl rfl F_u1 F_v1 V_u1 V_v1) hZ (hw _ (List.mem_of_getElem? (i := 29) rfl)) (hw _ (List.mem_of_getElem? (i := 2) rfl)) (by decide) (by decide)) q47a q47c (g := (mkF m 108 #[.val (.int p0), .val (.int p1), .val (.int p2), .val (.int p3), .val (.int p4), .val (.ref b34), .val (.int (1 : Int32)), .val (.int (1 : Int32)), .val (.int p1), .val (.int p0), .val (.int p3), .val (.int p2)] [(.int p1), (.int (0 : Int32)), (.ref b34)])) rfl (by rw [hml]; rfl) (Steps.refl _) (argsL := [(.int (0 : Int32)), (.int p1)]) (rest := []) (lenOf pd_2 rfl) rfl (by show 2 * 0 + _ ≤ _; exact Nat.le_of_eq rfl) (hb hby at_108) (fun _ _ => ⟨rfl, rfl, (by decide : 5 + 0 ≤ _), (by decide : 263 + 0 ≤ _)⟩)
      dsimp only [Pt.U, Pt.locs, Pt.cells, Pt.slots] at X47 l47 y47 z47 st47 hQ47
      subst l47 y47 z47
      obtain ⟨rfl, N47q, eh47⟩ := hQ47
      have N47 := Fr.app N37 N47q
      obtain ⟨cq48, kq48, q48a, q48b, q48c⟩ := isOf hZ eh47 E_1
      obtain ⟨_, _, ⟨T48, L48, k48, n48⟩, -, X48, ⟨Lc48, hQ48, l48, y48, z48⟩, st48⟩ := X47.virtualBack hx (y := (⟨"com/example/knitwork/knitwork/bibliometric/ScoredPairs", "other", "(II)I"⟩ : MethodName)) (z := (⟨"com/example/knitwork/knitwork/bibliometric/ScoredPairs", "other", "(II)I"⟩ : MethodName)) hown (mvT hZ (hw _ (List.mem_of_getElem? (i := 25) rfl))) (mvT hZ (hw _ (List.mem_of_getElem? (i := 26) rfl))) (notFace_of_selects (args := #[]) (mvT hZ (hw _ (List.mem_of_getElem? (i := 28) rfl)))) (mvT hZ (hw _ (List.mem_of_getElem? (i := 28) rfl))) (mvT hZ (hw _ (List.mem_of_getElem? (i := 27) rfl))) (by decide) (backOf (W := 0) (own_other l Z a0 hw [] b34 (1 : Int32) p3 p2 p3 1 au av ku kv (upd (upd (fun _ => Value.int 0) 0 (.int p0)) 1 (.int p2)) (upd (upd (fun _ => Value.int 0) 0 (.int p1)) 1 (.int p3)) T37.heap n0 (Nat.le_trans g_au (Nat.le_of_lt V_u1.lt)) ⟨by decide, rfl⟩ (by decide) rfl rfl F_u1 F_v1 V_u1 V_v1) hZ (hw _ (List.mem_of_getElem? (i := 29) rfl)) (hw _ (List.mem_of_getElem? (i := 2) rfl)) (by decide) (by decide)) q48a q48c (g := (mkF m 121 #[.val (.int p0), .val (.int p1), .val (.int p2), .val (.int p3), .val (.int p4), .val (.ref b34), .val (.int (1 : Int32)), .val (.int (1 : Int32)), .val (.int p1), .val (.int p0), .val (.int p3), .val (.int p2)] [(.int p3), (.int (1 : Int32)), (.ref b34)])) rfl (by rw [hml]; rfl) (Steps.refl _) (argsL := [(.int (1 : Int32)), (.int p3)]) (rest := []) (lenOf pd_2 rfl) rfl (by show 2 * 0 + _ ≤ _; exact Nat.le_of_eq rfl) (hb hby at_121) (fun _ _ => ⟨rfl, eh47, (by decide : 5 + 0 ≤ _), (by decide : 263 + 0 ≤ _)⟩)
      dsimp only [Pt.U, Pt.locs, Pt.cells, Pt.slots] at X48 l48 y48 z48 st48 hQ48
      subst l48 y48 z48
      obtain ⟨rfl, N48q, eh48⟩ := hQ48
      have N48 := Fr.app N47 N48q
      obtain ⟨fs, hr, hrun, hended, hW, hsame⟩ := X48.leave (v := some (.int (1 : Int32))) (fun h => by rw [Bd.returns] at h; cases h)
      refine ⟨_, _, pre0 _ ?_, hrun, hended, _, _, rfl, ?_, ⟨_, rfl⟩, hW, hsame.mono (by decide) (by decide)⟩
      · show Steps p.tables e below (s₁.setTop (mkF m 0 #[.val (.int p0), .val (.int p1), .val (.int p2), .val (.int p3), .val (.int p4), .unset, .unset, .unset, .unset, .unset, .unset, .unset] [])) _
        refine st34 _ ?_
        show Steps p.tables e below (T34.setTop (mkF m 3 #[.val (.int p0), .val (.int p1), .val (.int p2), .val (.int p3), .val (.int p4), .unset, .unset, .unset, .unset, .unset, .unset, .unset] [(.ref b34)])) _
        refine XS.dup X34.here hx rfl (hb hby at_3) rfl rfl ?_
        show Steps p.tables e below (T34.setTop (mkF m 4 #[.val (.int p0), .val (.int p1), .val (.int p2), .val (.int p3), .val (.int p4), .unset, .unset, .unset, .unset, .unset, .unset, .unset] [(.ref b34), (.ref b34)])) _
        refine st35.trans ?_
        show Steps p.tables e below (T35.setTop (mkF m 7 #[.val (.int p0), .val (.int p1), .val (.int p2), .val (.int p3), .val (.int p4), .unset, .unset, .unset, .unset, .unset, .unset, .unset] [(.ref b34)])) _
        refine XS.astore X35.here hx rfl (hb hby at_7) rfl rfl (l' := #[.val (.int p0), .val (.int p1), .val (.int p2), .val (.int p3), .val (.int p4), .val (.ref b34), .unset, .unset, .unset, .unset, .unset, .unset]) rfl ?_
        show Steps p.tables e below (T35.setTop (mkF m 9 #[.val (.int p0), .val (.int p1), .val (.int p2), .val (.int p3), .val (.int p4), .val (.ref b34), .unset, .unset, .unset, .unset, .unset, .unset] [])) _
        refine XS.aload X35.here hx rfl (hb hby at_9) rfl rfl ?_
        show Steps p.tables e below (T35.setTop (mkF m 11 #[.val (.int p0), .val (.int p1), .val (.int p2), .val (.int p3), .val (.int p4), .val (.ref b34), .unset, .unset, .unset, .unset, .unset, .unset] [(.ref b34)])) _
        refine XS.iloadN X35.here hx rfl (hb hby at_11) rfl ?_
        show Steps p.tables e below (T35.setTop (mkF m 12 #[.val (.int p0), .val (.int p1), .val (.int p2), .val (.int p3), .val (.int p4), .val (.ref b34), .unset, .unset, .unset, .unset, .unset, .unset] [(.int p0), (.ref b34)])) _
        refine XS.iloadN X35.here hx rfl (hb hby at_12) rfl ?_
        show Steps p.tables e below (T35.setTop (mkF m 13 #[.val (.int p0), .val (.int p1), .val (.int p2), .val (.int p3), .val (.int p4), .val (.ref b34), .unset, .unset, .unset, .unset, .unset, .unset] [(.int p1), (.int p0), (.ref b34)])) _
        refine XS.iconst X35.here hx rfl (hb hby at_13) ?_
        show Steps p.tables e below (T35.setTop (mkF m 14 #[.val (.int p0), .val (.int p1), .val (.int p2), .val (.int p3), .val (.int p4), .val (.ref b34), .unset, .unset, .unset, .unset, .unset, .unset] [(.int (0 : Int32)), (.int p1), (.int p0), (.ref b34)])) _
        refine XS.iconst X35.here hx rfl (hb hby at_14) ?_
        show Steps p.tables e below (T35.setTop (mkF m 15 #[.val (.int p0), .val (.int p1), .val (.int p2), .val (.int p3), .val (.int p4), .val (.ref b34), .unset, .unset, .unset, .unset, .unset, .unset] [(.int (1 : Int32)), (.int (0 : Int32)), (.int p1), (.int p0), (.ref b34)])) _
        refine st36.trans ?_
        show Steps p.tables e below (T36.setTop (mkF m 18 #[.val (.int p0), .val (.int p1), .val (.int p2), .val (.int p3), .val (.int p4), .val (.ref b34), .unset, .unset, .unset, .unset, .unset, .unset] [])) _
        refine XS.aload X36.here hx rfl (hb hby at_18) rfl rfl ?_
        show Steps p.tables e below (T36.setTop (mkF m 20 #[.val (.int p0), .val (.int p1), .val (.int p2), .val (.int p3), .val (.int p4), .val (.ref b34), .unset, .unset, .unset, .unset, .unset, .unset] [(.ref b34)])) _
        refine XS.iloadN X36.here hx rfl (hb hby at_20) rfl ?_
        show Steps p.tables e below (T36.setTop (mkF m 21 #[.val (.int p0), .val (.int p1), .val (.int p2), .val (.int p3), .val (.int p4), .val (.ref b34), .unset, .unset, .unset, .unset, .unset, .unset] [(.int p2), (.ref b34)])) _
        refine XS.iloadN X36.here hx rfl (hb hby at_21) rfl ?_
        show Steps p.tables e below (T36.setTop (mkF m 22 #[.val (.int p0), .val (.int p1), .val (.int p2), .val (.int p3), .val (.int p4), .val (.ref b34), .unset, .unset, .unset, .unset, .unset, .unset] [(.int p3), (.int p2), (.ref b34)])) _
        refine XS.iconst X36.here hx rfl (hb hby at_22) ?_
        show Steps p.tables e below (T36.setTop (mkF m 23 #[.val (.int p0), .val (.int p1), .val (.int p2), .val (.int p3), .val (.int p4), .val (.ref b34), .unset, .unset, .unset, .unset, .unset, .unset] [(.int (1 : Int32)), (.int p3), (.int p2), (.ref b34)])) _
        refine XS.iconst X36.here hx rfl (hb hby at_23) ?_
        show Steps p.tables e below (T36.setTop (mkF m 24 #[.val (.int p0), .val (.int p1), .val (.int p2), .val (.int p3), .val (.int p4), .val (.ref b34), .unset, .unset, .unset, .unset, .unset, .unset] [(.int (2 : Int32)), (.int (1 : Int32)), (.int p3), (.int p2), (.ref b34)])) _
        refine st37.trans ?_
        show Steps p.tables e below (T37.setTop (mkF m 27 #[.val (.int p0), .val (.int p1), .val (.int p2), .val (.int p3), .val (.int p4), .val (.ref b34), .unset, .unset, .unset, .unset, .unset, .unset] [])) _
        refine XS.iload X37.here hx rfl (hb hby at_27) rfl ?_
        show Steps p.tables e below (T37.setTop (mkF m 29 #[.val (.int p0), .val (.int p1), .val (.int p2), .val (.int p3), .val (.int p4), .val (.ref b34), .unset, .unset, .unset, .unset, .unset, .unset] [(.int p4)])) _
        refine XS.iconst X37.here hx rfl (hb hby at_29) ?_
        show Steps p.tables e below (T37.setTop (mkF m 30 #[.val (.int p0), .val (.int p1), .val (.int p2), .val (.int p3), .val (.int p4), .val (.ref b34), .unset, .unset, .unset, .unset, .unset, .unset] [(.int (1 : Int32)), (.int p4)])) _
        refine XS.iand X37.here hx rfl (hb hby at_30) rfl ?_
        show Steps p.tables e below (T37.setTop (mkF m 31 #[.val (.int p0), .val (.int p1), .val (.int p2), .val (.int p3), .val (.int p4), .val (.ref b34), .unset, .unset, .unset, .unset, .unset, .unset] [(.int (p4 &&& (1 : Int32)))])) _
        refine XS.ifNo X37.here hx rfl (hb hby at_31) rfl (XT.i0_eq_f hs0) ?_
        show Steps p.tables e below (T37.setTop (mkF m 34 #[.val (.int p0), .val (.int p1), .val (.int p2), .val (.int p3), .val (.int p4), .val (.ref b34), .unset, .unset, .unset, .unset, .unset, .unset] [])) _
        refine XS.iconst X37.here hx rfl (hb hby at_34) ?_
        show Steps p.tables e below (T37.setTop (mkF m 35 #[.val (.int p0), .val (.int p1), .val (.int p2), .val (.int p3), .val (.int p4), .val (.ref b34), .unset, .unset, .unset, .unset, .unset, .unset] [(.int (1 : Int32))])) _
        refine XS.goto X37.here hx rfl (pc0 := 35) (pc' := 39) rfl (hb hby at_35) (by decide) (by decide) ?_
        show Steps p.tables e below (T37.setTop (mkF m 39 #[.val (.int p0), .val (.int p1), .val (.int p2), .val (.int p3), .val (.int p4), .val (.ref b34), .unset, .unset, .unset, .unset, .unset, .unset] [(.int (1 : Int32))])) _
        refine XS.istore X37.here hx rfl (hb hby at_39) rfl (l' := #[.val (.int p0), .val (.int p1), .val (.int p2), .val (.int p3), .val (.int p4), .val (.ref b34), .val (.int (1 : Int32)), .unset, .unset, .unset, .unset, .unset]) rfl ?_
        show Steps p.tables e below (T37.setTop (mkF m 41 #[.val (.int p0), .val (.int p1), .val (.int p2), .val (.int p3), .val (.int p4), .val (.ref b34), .val (.int (1 : Int32)), .unset, .unset, .unset, .unset, .unset] [])) _
        refine XS.iload X37.here hx rfl (hb hby at_41) rfl ?_
        show Steps p.tables e below (T37.setTop (mkF m 43 #[.val (.int p0), .val (.int p1), .val (.int p2), .val (.int p3), .val (.int p4), .val (.ref b34), .val (.int (1 : Int32)), .unset, .unset, .unset, .unset, .unset] [(.int p4)])) _
        refine XS.iconst X37.here hx rfl (hb hby at_43) ?_
        show Steps p.tables e below (T37.setTop (mkF m 44 #[.val (.int p0), .val (.int p1), .val (.int p2), .val (.int p3), .val (.int p4), .val (.ref b34), .val (.int (1 : Int32)), .unset, .unset, .unset, .unset, .unset] [(.int (2 : Int32)), (.int p4)])) _
        refine XS.iand X37.here hx rfl (hb hby at_44) rfl ?_
        show Steps p.tables e below (T37.setTop (mkF m 45 #[.val (.int p0), .val (.int p1), .val (.int p2), .val (.int p3), .val (.int p4), .val (.ref b34), .val (.int (1 : Int32)), .unset, .unset, .unset, .unset, .unset] [(.int (p4 &&& (2 : Int32)))])) _
        refine XS.ifNo X37.here hx rfl (hb hby at_45) rfl (XT.i0_eq_f hs1) ?_
        show Steps p.tables e below (T37.setTop (mkF m 48 #[.val (.int p0), .val (.int p1), .val (.int p2), .val (.int p3), .val (.int p4), .val (.ref b34), .val (.int (1 : Int32)), .unset, .unset, .unset, .unset, .unset] [])) _
        refine XS.iconst X37.here hx rfl (hb hby at_48) ?_
        show Steps p.tables e below (T37.setTop (mkF m 49 #[.val (.int p0), .val (.int p1), .val (.int p2), .val (.int p3), .val (.int p4), .val (.ref b34), .val (.int (1 : Int32)), .unset, .unset, .unset, .unset, .unset] [(.int (1 : Int32))])) _
        refine XS.goto X37.here hx rfl (pc0 := 49) (pc' := 53) rfl (hb hby at_49) (by decide) (by decide) ?_
        show Steps p.tables e below (T37.setTop (mkF m 53 #[.val (.int p0), .val (.int p1), .val (.int p2), .val (.int p3), .val (.int p4), .val (.ref b34), .val (.int (1 : Int32)), .unset, .unset, .unset, .unset, .unset] [(.int (1 : Int32))])) _
        refine XS.istore X37.here hx rfl (hb hby at_53) rfl (l' := #[.val (.int p0), .val (.int p1), .val (.int p2), .val (.int p3), .val (.int p4), .val (.ref b34), .val (.int (1 : Int32)), .val (.int (1 : Int32)), .unset, .unset, .unset, .unset]) rfl ?_
        show Steps p.tables e below (T37.setTop (mkF m 55 #[.val (.int p0), .val (.int p1), .val (.int p2), .val (.int p3), .val (.int p4), .val (.ref b34), .val (.int (1 : Int32)), .val (.int (1 : Int32)), .unset, .unset, .unset, .unset] [])) _
        refine XS.iload X37.here hx rfl (hb hby at_55) rfl ?_
        show Steps p.tables e below (T37.setTop (mkF m 57 #[.val (.int p0), .val (.int p1), .val (.int p2), .val (.int p3), .val (.int p4), .val (.ref b34), .val (.int (1 : Int32)), .val (.int (1 : Int32)), .unset, .unset, .unset, .unset] [(.int (1 : Int32))])) _
        refine XS.ifNo X37.here hx rfl (hb hby at_57) rfl (XT.i0_eq_f (by decide)) ?_
        show Steps p.tables e below (T37.setTop (mkF m 60 #[.val (.int p0), .val (.int p1), .val (.int p2), .val (.int p3), .val (.int p4), .val (.ref b34), .val (.int (1 : Int32)), .val (.int (1 : Int32)), .unset, .unset, .unset, .unset] [])) _
        refine XS.iloadN X37.here hx rfl (hb hby at_60) rfl ?_
        show Steps p.tables e below (T37.setTop (mkF m 61 #[.val (.int p0), .val (.int p1), .val (.int p2), .val (.int p3), .val (.int p4), .val (.ref b34), .val (.int (1 : Int32)), .val (.int (1 : Int32)), .unset, .unset, .unset, .unset] [(.int p1)])) _
        refine XS.goto X37.here hx rfl (pc0 := 61) (pc' := 65) rfl (hb hby at_61) (by decide) (by decide) ?_
        show Steps p.tables e below (T37.setTop (mkF m 65 #[.val (.int p0), .val (.int p1), .val (.int p2), .val (.int p3), .val (.int p4), .val (.ref b34), .val (.int (1 : Int32)), .val (.int (1 : Int32)), .unset, .unset, .unset, .unset] [(.int p1)])) _
        refine XS.istore X37.here hx rfl (hb hby at_65) rfl (l' := #[.val (.int p0), .val (.int p1), .val (.int p2), .val (.int p3), .val (.int p4), .val (.ref b34), .val (.int (1 : Int32)), .val (.int (1 : Int32)), .val (.int p1), .unset, .unset, .unset]) rfl ?_
        show Steps p.tables e below (T37.setTop (mkF m 67 #[.val (.int p0), .val (.int p1), .val (.int p2), .val (.int p3), .val (.int p4), .val (.ref b34), .val (.int (1 : Int32)), .val (.int (1 : Int32)), .val (.int p1), .unset, .unset, .unset] [])) _
        refine XS.iload X37.here hx rfl (hb hby at_67) rfl ?_
        show Steps p.tables e below (T37.setTop (mkF m 69 #[.val (.int p0), .val (.int p1), .val (.int p2), .val (.int p3), .val (.int p4), .val (.ref b34), .val (.int (1 : Int32)), .val (.int (1 : Int32)), .val (.int p1), .unset, .unset, .unset] [(.int (1 : Int32))])) _
        refine XS.ifNo X37.here hx rfl (hb hby at_69) rfl (XT.i0_eq_f (by decide)) ?_
        show Steps p.tables e below (T37.setTop (mkF m 72 #[.val (.int p0), .val (.int p1), .val (.int p2), .val (.int p3), .val (.int p4), .val (.ref b34), .val (.int (1 : Int32)), .val (.int (1 : Int32)), .val (.int p1), .unset, .unset, .unset] [])) _
        refine XS.iloadN X37.here hx rfl (hb hby at_72) rfl ?_
        show Steps p.tables e below (T37.setTop (mkF m 73 #[.val (.int p0), .val (.int p1), .val (.int p2), .val (.int p3), .val (.int p4), .val (.ref b34), .val (.int (1 : Int32)), .val (.int (1 : Int32)), .val (.int p1), .unset, .unset, .unset] [(.int p0)])) _
        refine XS.goto X37.here hx rfl (pc0 := 73) (pc' := 77) rfl (hb hby at_73) (by decide) (by decide) ?_
        show Steps p.tables e below (T37.setTop (mkF m 77 #[.val (.int p0), .val (.int p1), .val (.int p2), .val (.int p3), .val (.int p4), .val (.ref b34), .val (.int (1 : Int32)), .val (.int (1 : Int32)), .val (.int p1), .unset, .unset, .unset] [(.int p0)])) _
        refine XS.istore X37.here hx rfl (hb hby at_77) rfl (l' := #[.val (.int p0), .val (.int p1), .val (.int p2), .val (.int p3), .val (.int p4), .val (.ref b34), .val (.int (1 : Int32)), .val (.int (1 : Int32)), .val (.int p1), .val (.int p0), .unset, .unset]) rfl ?_
        show Steps p.tables e below (T37.setTop (mkF m 79 #[.val (.int p0), .val (.int p1), .val (.int p2), .val (.int p3), .val (.int p4), .val (.ref b34), .val (.int (1 : Int32)), .val (.int (1 : Int32)), .val (.int p1), .val (.int p0), .unset, .unset] [])) _
        refine XS.iload X37.here hx rfl (hb hby at_79) rfl ?_
        show Steps p.tables e below (T37.setTop (mkF m 81 #[.val (.int p0), .val (.int p1), .val (.int p2), .val (.int p3), .val (.int p4), .val (.ref b34), .val (.int (1 : Int32)), .val (.int (1 : Int32)), .val (.int p1), .val (.int p0), .unset, .unset] [(.int (1 : Int32))])) _
        refine XS.ifNo X37.here hx rfl (hb hby at_81) rfl (XT.i0_eq_f (by decide)) ?_
        show Steps p.tables e below (T37.setTop (mkF m 84 #[.val (.int p0), .val (.int p1), .val (.int p2), .val (.int p3), .val (.int p4), .val (.ref b34), .val (.int (1 : Int32)), .val (.int (1 : Int32)), .val (.int p1), .val (.int p0), .unset, .unset] [])) _
        refine XS.iloadN X37.here hx rfl (hb hby at_84) rfl ?_
        show Steps p.tables e below (T37.setTop (mkF m 85 #[.val (.int p0), .val (.int p1), .val (.int p2), .val (.int p3), .val (.int p4), .val (.ref b34), .val (.int (1 : Int32)), .val (.int (1 : Int32)), .val (.int p1), .val (.int p0), .unset, .unset] [(.int p3)])) _
        refine XS.goto X37.here hx rfl (pc0 := 85) (pc' := 89) rfl (hb hby at_85) (by decide) (by decide) ?_
        show Steps p.tables e below (T37.setTop (mkF m 89 #[.val (.int p0), .val (.int p1), .val (.int p2), .val (.int p3), .val (.int p4), .val (.ref b34), .val (.int (1 : Int32)), .val (.int (1 : Int32)), .val (.int p1), .val (.int p0), .unset, .unset] [(.int p3)])) _
        refine XS.istore X37.here hx rfl (hb hby at_89) rfl (l' := #[.val (.int p0), .val (.int p1), .val (.int p2), .val (.int p3), .val (.int p4), .val (.ref b34), .val (.int (1 : Int32)), .val (.int (1 : Int32)), .val (.int p1), .val (.int p0), .val (.int p3), .unset]) rfl ?_
        show Steps p.tables e below (T37.setTop (mkF m 91 #[.val (.int p0), .val (.int p1), .val (.int p2), .val (.int p3), .val (.int p4), .val (.ref b34), .val (.int (1 : Int32)), .val (.int (1 : Int32)), .val (.int p1), .val (.int p0), .val (.int p3), .unset] [])) _
        refine XS.iload X37.here hx rfl (hb hby at_91) rfl ?_
        show Steps p.tables e below (T37.setTop (mkF m 93 #[.val (.int p0), .val (.int p1), .val (.int p2), .val (.int p3), .val (.int p4), .val (.ref b34), .val (.int (1 : Int32)), .val (.int (1 : Int32)), .val (.int p1), .val (.int p0), .val (.int p3), .unset] [(.int (1 : Int32))])) _
        refine XS.ifNo X37.here hx rfl (hb hby at_93) rfl (XT.i0_eq_f (by decide)) ?_
        show Steps p.tables e below (T37.setTop (mkF m 96 #[.val (.int p0), .val (.int p1), .val (.int p2), .val (.int p3), .val (.int p4), .val (.ref b34), .val (.int (1 : Int32)), .val (.int (1 : Int32)), .val (.int p1), .val (.int p0), .val (.int p3), .unset] [])) _
        refine XS.iloadN X37.here hx rfl (hb hby at_96) rfl ?_
        show Steps p.tables e below (T37.setTop (mkF m 97 #[.val (.int p0), .val (.int p1), .val (.int p2), .val (.int p3), .val (.int p4), .val (.ref b34), .val (.int (1 : Int32)), .val (.int (1 : Int32)), .val (.int p1), .val (.int p0), .val (.int p3), .unset] [(.int p2)])) _
        refine XS.goto X37.here hx rfl (pc0 := 97) (pc' := 101) rfl (hb hby at_97) (by decide) (by decide) ?_
        show Steps p.tables e below (T37.setTop (mkF m 101 #[.val (.int p0), .val (.int p1), .val (.int p2), .val (.int p3), .val (.int p4), .val (.ref b34), .val (.int (1 : Int32)), .val (.int (1 : Int32)), .val (.int p1), .val (.int p0), .val (.int p3), .unset] [(.int p2)])) _
        refine XS.istore X37.here hx rfl (hb hby at_101) rfl (l' := #[.val (.int p0), .val (.int p1), .val (.int p2), .val (.int p3), .val (.int p4), .val (.ref b34), .val (.int (1 : Int32)), .val (.int (1 : Int32)), .val (.int p1), .val (.int p0), .val (.int p3), .val (.int p2)]) rfl ?_
        show Steps p.tables e below (T37.setTop (mkF m 103 #[.val (.int p0), .val (.int p1), .val (.int p2), .val (.int p3), .val (.int p4), .val (.ref b34), .val (.int (1 : Int32)), .val (.int (1 : Int32)), .val (.int p1), .val (.int p0), .val (.int p3), .val (.int p2)] [])) _
        refine XS.aload X37.here hx rfl (hb hby at_103) rfl rfl ?_
        show Steps p.tables e below (T37.setTop (mkF m 105 #[.val (.int p0), .val (.int p1), .val (.int p2), .val (.int p3), .val (.int p4), .val (.ref b34), .val (.int (1 : Int32)), .val (.int (1 : Int32)), .val (.int p1), .val (.int p0), .val (.int p3), .val (.int p2)] [(.ref b34)])) _
        refine XS.iconst X37.here hx rfl (hb hby at_105) ?_
        show Steps p.tables e below (T37.setTop (mkF m 106 #[.val (.int p0), .val (.int p1), .val (.int p2), .val (.int p3), .val (.int p4), .val (.ref b34), .val (.int (1 : Int32)), .val (.int (1 : Int32)), .val (.int p1), .val (.int p0), .val (.int p3), .val (.int p2)] [(.int (0 : Int32)), (.ref b34)])) _
        refine XS.iload X37.here hx rfl (hb hby at_106) rfl ?_
        show Steps p.tables e below (T37.setTop (mkF m 108 #[.val (.int p0), .val (.int p1), .val (.int p2), .val (.int p3), .val (.int p4), .val (.ref b34), .val (.int (1 : Int32)), .val (.int (1 : Int32)), .val (.int p1), .val (.int p0), .val (.int p3), .val (.int p2)] [(.int p1), (.int (0 : Int32)), (.ref b34)])) _
        refine st47.trans ?_
        show Steps p.tables e below (T47.setTop (mkF m 111 #[.val (.int p0), .val (.int p1), .val (.int p2), .val (.int p3), .val (.int p4), .val (.ref b34), .val (.int (1 : Int32)), .val (.int (1 : Int32)), .val (.int p1), .val (.int p0), .val (.int p3), .val (.int p2)] [(.int (if p0 = p1 then p1 else p0))])) _
        refine XS.iload X47.here hx rfl (hb hby at_111) rfl ?_
        show Steps p.tables e below (T47.setTop (mkF m 113 #[.val (.int p0), .val (.int p1), .val (.int p2), .val (.int p3), .val (.int p4), .val (.ref b34), .val (.int (1 : Int32)), .val (.int (1 : Int32)), .val (.int p1), .val (.int p0), .val (.int p3), .val (.int p2)] [(.int p0), (.int (if p0 = p1 then p1 else p0))])) _
        refine XS.icmpNo X47.here hx rfl (hb hby at_113) rfl (XT.ii_ne_f (own_sw p0 p1)) ?_
        show Steps p.tables e below (T47.setTop (mkF m 116 #[.val (.int p0), .val (.int p1), .val (.int p2), .val (.int p3), .val (.int p4), .val (.ref b34), .val (.int (1 : Int32)), .val (.int (1 : Int32)), .val (.int p1), .val (.int p0), .val (.int p3), .val (.int p2)] [])) _
        refine XS.aload X47.here hx rfl (hb hby at_116) rfl rfl ?_
        show Steps p.tables e below (T47.setTop (mkF m 118 #[.val (.int p0), .val (.int p1), .val (.int p2), .val (.int p3), .val (.int p4), .val (.ref b34), .val (.int (1 : Int32)), .val (.int (1 : Int32)), .val (.int p1), .val (.int p0), .val (.int p3), .val (.int p2)] [(.ref b34)])) _
        refine XS.iconst X47.here hx rfl (hb hby at_118) ?_
        show Steps p.tables e below (T47.setTop (mkF m 119 #[.val (.int p0), .val (.int p1), .val (.int p2), .val (.int p3), .val (.int p4), .val (.ref b34), .val (.int (1 : Int32)), .val (.int (1 : Int32)), .val (.int p1), .val (.int p0), .val (.int p3), .val (.int p2)] [(.int (1 : Int32)), (.ref b34)])) _
        refine XS.iload X47.here hx rfl (hb hby at_119) rfl ?_
        show Steps p.tables e below (T47.setTop (mkF m 121 #[.val (.int p0), .val (.int p1), .val (.int p2), .val (.int p3), .val (.int p4), .val (.ref b34), .val (.int (1 : Int32)), .val (.int (1 : Int32)), .val (.int p1), .val (.int p0), .val (.int p3), .val (.int p2)] [(.int p3), (.int (1 : Int32)), (.ref b34)])) _
        refine st48.trans ?_
        show Steps p.tables e below (T48.setTop (mkF m 124 #[.val (.int p0), .val (.int p1), .val (.int p2), .val (.int p3), .val (.int p4), .val (.ref b34), .val (.int (1 : Int32)), .val (.int (1 : Int32)), .val (.int p1), .val (.int p0), .val (.int p3), .val (.int p2)] [(.int (if p2 = p3 then p3 else p2))])) _
        refine XS.iload X48.here hx rfl (hb hby at_124) rfl ?_
        show Steps p.tables e below (T48.setTop (mkF m 126 #[.val (.int p0), .val (.int p1), .val (.int p2), .val (.int p3), .val (.int p4), .val (.ref b34), .val (.int (1 : Int32)), .val (.int (1 : Int32)), .val (.int p1), .val (.int p0), .val (.int p3), .val (.int p2)] [(.int p2), (.int (if p2 = p3 then p3 else p2))])) _
        refine XS.icmpNo X48.here hx rfl (hb hby at_126) rfl (XT.ii_ne_f (own_sw p2 p3)) ?_
        show Steps p.tables e below (T48.setTop (mkF m 129 #[.val (.int p0), .val (.int p1), .val (.int p2), .val (.int p3), .val (.int p4), .val (.ref b34), .val (.int (1 : Int32)), .val (.int (1 : Int32)), .val (.int p1), .val (.int p0), .val (.int p3), .val (.int p2)] [])) _
        refine XS.iconst X48.here hx rfl (hb hby at_129) ?_
        show Steps p.tables e below (T48.setTop (mkF m 130 #[.val (.int p0), .val (.int p1), .val (.int p2), .val (.int p3), .val (.int p4), .val (.ref b34), .val (.int (1 : Int32)), .val (.int (1 : Int32)), .val (.int p1), .val (.int p0), .val (.int p3), .val (.int p2)] [(.int (1 : Int32))])) _
        refine XS.goto X48.here hx rfl (pc0 := 130) (pc' := 134) rfl (hb hby at_130) (by decide) (by decide) ?_
        show Steps p.tables e below (T48.setTop (mkF m 134 #[.val (.int p0), .val (.int p1), .val (.int p2), .val (.int p3), .val (.int p4), .val (.ref b34), .val (.int (1 : Int32)), .val (.int (1 : Int32)), .val (.int p1), .val (.int p0), .val (.int p3), .val (.int p2)] [(.int (1 : Int32))])) _
        exact retN X48 hx (t := .boolean) Bd.returns (by simp) (hb hby at_134) hr
      · show Q_own_law Z p0 p1 p2 p3 p4  h0 n0 _ T48.heap _
        rw [eh48]
        exact ⟨rfl, N48⟩
set_option maxRecDepth 65536 in
set_option maxHeartbeats 40000000 in
theorem comes_1 {Post : Tables → Env → Array Value → State → Outcome → State → Prop} (hpost : ∀ tb e args s v u, (limb_1_1.after args s (.returned v) u = true ∧ limb_1_2.after args s (.returned v) u = true ∧ True) → FrameEnd s (.returned v) u (Jvm.fieldLocs frame_1_writes args s ++ Jvm.arrayLocs frame_1_arrays args s ++ Jvm.staticLocs frame_1_statics s) 24 640 → Post tb e args s (.returned v) u) :
    ArmFor flags0 classFile x code maxLocals ret World_1 tables_1 room_1 Calls_1 rest_1 Pre_1 Post := by
  intro l hfl _ _ p e ha hc hk s m args below hf hA hF happ hP
  obtain ⟨hcalls, hrest, hpre⟩ := hP
  obtain ⟨-, -, -, hnamed, -, -, -, hat⟩ := (Spec.applies_iff hf).mp happ
  obtain ⟨hg, hn⟩ := and_e (Cond.before_iff.mp (show (Jvm.Cond.and given_1 narrow_1).before args s = true from hpre))
  obtain ⟨hcount, hq0⟩ := and_e hg
  obtain ⟨ha0, hq1⟩ := and_e hq0
  obtain ⟨ha1, hq2⟩ := and_e hq1
  obtain ⟨ha2, hq3⟩ := and_e hq2
  obtain ⟨ha3, hq4⟩ := and_e hq3
  have ha4 := hq4
  obtain ⟨w0, w1, w2, w3, w4, rfl⟩ : ∃ w0 w1 w2 w3 w4 : Value, args = #[w0, w1, w2, w3, w4] := by
    have hs : args.size = 5 := by simpa [Cond.value, given_1] using hcount
    obtain ⟨L⟩ := args
    match L, hs with
    | [w0, w1, w2, w3, w4], _ => exact ⟨w0, w1, w2, w3, w4, rfl⟩
  have hw := fun d (hd : d ∈ tables_1) => atoms_spec (ws := Jvm.Cond.code x code maxLocals ret :: tables_1) hat d (List.mem_cons_of_mem _ hd)
  have hfit : Fit s := fun {y c} hc i hi => by
    obtain ⟨ha, rfl⟩ := Array.getElem?_eq_some_iff.mp hc
    have q := List.all_eq_true.mp ((Array.all_eq_true_iff_forall_mem.mp hF) _ (Array.getElem_mem ha)) i (List.mem_range.mpr hi)
    simpa [Array.getElem?_eq_getElem hi] using q
  obtain ⟨i0, ei0⟩ := is_v ha0
  obtain rfl : w0 = (.int i0) := Option.some.inj ei0
  obtain ⟨i1, ei1⟩ := is_v ha1
  obtain rfl : w1 = (.int i1) := Option.some.inj ei1
  obtain ⟨i2, ei2⟩ := is_v ha2
  obtain rfl : w2 = (.int i2) := Option.some.inj ei2
  obtain ⟨i3, ei3⟩ := is_v ha3
  obtain rfl : w3 = (.int i3) := Option.some.inj ei3
  obtain ⟨i4, ei4⟩ := is_v ha4
  obtain rfl : w4 = (.int i4) := Option.some.inj ei4
  obtain ⟨n, o, h1, h2, h3, _, L, rfl, ⟨rfl, N⟩, hq⟩ := own_law l s _ hw tables_1 i0 i1 i2 i3 i4 s.heap s.heap.size (Nat.le_refl _) p e ha hc hk s m _ below hf ((Spec.applies_iff_loose hf).mp happ).1 ⟨rfl, State.Warmed39.refl s, rfl⟩ trivial
  refine ⟨n, _, h1, h2, h3, hpost _ _ _ _ _ _ ⟨Cond.after_iff.mpr rfl, Cond.after_iff.mpr (eq_i res_at (Term.int_eval (1)) rfl), trivial⟩ ⟨hq.1, hq.2.1, (hq.2.2.sift fun y hy => Or.inr (N y hy)).mono (by decide) (by decide)⟩⟩
theorem main_1_1 : Claimed_1_1 := comes_1 fun _ _ _ _ _ _ h hF => ⟨h.1, hF⟩
theorem main_1_2 : Claimed_1_2 := comes_1 fun _ _ _ _ _ _ h hF => ⟨h.2.1, hF⟩
end Jvm.Pilot.@@N@@
namespace Jvm.Pilot.@@N@@
open Jvm Jvm.ClassFile Sem Op Lib Jvm.Free Jvm.Stand Jvm.Pilot.@@N@@.Jvm.D
/-! MADE BY PROGRAM (witnessworld.py) out of the Statement's table words and the real class files: 9 classes; the members and pool entries that the words name. The judged class is class 1, her method 1. -/
namespace start1
open Jvm.ClassFile
def u (s : String) : CpInfo := .utf8 (stringToUtf16 s)
/-- a pool by its gaps: so many unusable entries, then the entry; so many at the end -/
def gap : Nat → List CpInfo → List CpInfo
  | 0, r => r
  | n + 1, r => .unusable :: gap n r
def poolList (es : List (Nat × CpInfo)) (last : Nat) : List CpInfo := es.foldr (fun e r => gap e.1 (e.2 :: r)) (gap last [])
def pool (es : List (Nat × CpInfo)) (last : Nat) : Array CpInfo := ⟨poolList es last⟩
def fileOf (pool : Array CpInfo) (this : Nat) (attrs : Array Attribute := #[]) (ms : Array MethodInfo := #[]) (fl : Nat := 33) (sup : Nat := 0) (ifs : Array Nat := #[]) (fds : Array FieldInfo := #[]) : ClassFile where
  minorVersion := 0
  majorVersion := 65
  constantPool := pool
  accessFlags := fl
  thisClass := this
  superClass := sup
  interfaces := ifs
  fields := fds
  methods := ms
  attributes := attrs
def plain (name : String) (sup : Option ClassId) : Class where
  name := name
  kind := .ordinary
  loader := none
  accessFlags := 33
  super := sup
  interfaces := #[]
  cf := none
  fields := #[]
  methods := #[]
  instanceTypes := #[]
  staticTypes := #[]
  resolved := #[]
  callSites := []
  init := .initialized
  statics := none
  mirror := none

def pool0 : Array CpInfo := pool [(5, u "<init>"), (0, u "()V"), (1, .class_ 10), (1, u "java/lang/Object")] 113

def k0c0 : Code := { maxStack := 0, maxLocals := 1, code := object_method_1_code, exceptionTable := #[], attributes := #[] }
def k0m0 : Method := { name := "<init>", desc := "()V", sig := { parameters := [], returnType := none }, accessFlags := 1, code := some k0c0 }
/-- java/lang/Object -/
def k0 : Class := { plain "java/lang/Object" none with
  accessFlags := 33
  interfaces := #[]
  cf := some (fileOf pool0 8 #[] #[{ accessFlags := 1, nameIndex := 5, descriptorIndex := 6, attributes := #[] }] 33 0 #[] #[])
  fields := #[]
  methods := #[k0m0]
  instanceTypes := #[]
  staticTypes := #[]
  resolved := Array.replicate 124 none
  statics := none }

def pool1 : Array CpInfo := pool [(2, .class_ 4), (0, .nameAndType 5 6), (0, u "java/lang/Object"), (0, u "<init>"), (0, u "()V"), (0, .class_ 8), (0, u "com/example/knitwork/knitwork/bibliometric/ScoredPairs"), (0, .methodref 7 3), (0, .methodref 7 11), (0, .nameAndType 12 13), (0, u "add"), (0, u "(IIII)V"), (0, .methodref 7 15), (0, .nameAndType 16 17), (0, u "other"), (0, u "(II)I"), (0, .class_ 19), (0, u "com/example/knitwork/knitwork/bibliometric/ScoredPairsOtherPinLaw"), (2, u "law"), (0, u "(IIIII)Z")] 3

def k1m0 : Method := { name := "<init>", desc := "()V", sig := { parameters := [], returnType := none }, accessFlags := 1, code := none }
def k1c1 : Code := { maxStack := 5, maxLocals := 12, code := code, exceptionTable := #[], attributes := #[] }
def k1m1 : Method := { name := "law", desc := "(IIIII)Z", sig := { parameters := [.int, .int, .int, .int, .int], returnType := some .boolean }, accessFlags := 9, code := some k1c1 }
/-- com/example/knitwork/knitwork/bibliometric/ScoredPairsOtherPinLaw -/
def k1 : Class := { plain "com/example/knitwork/knitwork/bibliometric/ScoredPairsOtherPinLaw" (some 0) with
  accessFlags := 49
  interfaces := #[]
  cf := some (fileOf pool1 18 #[] #[{ accessFlags := 1, nameIndex := 5, descriptorIndex := 6, attributes := #[] }, { accessFlags := 9, nameIndex := 22, descriptorIndex := 23, attributes := #[] }] 49 2 #[] #[])
  fields := #[]
  methods := #[k1m0, k1m1]
  instanceTypes := #[]
  staticTypes := #[]
  resolved := Array.replicate 27 none
  statics := none }

def pool2 : Array CpInfo := pool [(1, .methodref 2 3), (0, .class_ 4), (0, .nameAndType 5 6), (0, u "java/lang/Object"), (0, u "<init>"), (0, u "()V"), (0, .fieldref 8 9), (0, .class_ 10), (0, .nameAndType 11 12), (0, u "com/example/knitwork/knitwork/bibliometric/ScoredPairs"), (0, u "u"), (0, u "[I"), (0, .fieldref 8 14), (0, .nameAndType 15 12), (0, u "v"), (0, .fieldref 8 17), (0, .nameAndType 18 12), (0, u "shared"), (0, .fieldref 8 20), (0, .nameAndType 21 12), (0, u "outOf"), (0, .fieldref 8 23), (0, .nameAndType 24 25), (0, u "count"), (0, u "I"), (2, u "start"), (17, u "byNode"), (7, u "(II)I"), (2, u "other"), (4, u "add"), (1, .integer 2147483639), (0, .long 2147483639), (1, .long 2), (41, u "(IIII)V")] 22

def k2c0 : Code := { maxStack := 2, maxLocals := 1, code := prog_25_method_1_code, exceptionTable := #[], attributes := #[] }
def k2m0 : Method := { name := "<init>", desc := "()V", sig := { parameters := [], returnType := none }, accessFlags := 0, code := some k2c0 }
def k2c1 : Code := { maxStack := 2, maxLocals := 3, code := prog_25_method_5_code, exceptionTable := #[], attributes := #[] }
def k2m1 : Method := { name := "other", desc := "(II)I", sig := { parameters := [.int, .int], returnType := some .int }, accessFlags := 0, code := some k2c1 }
def k2c2 : Code := { maxStack := 4, maxLocals := 6, code := prog_25_method_12_code, exceptionTable := #[], attributes := #[] }
def k2m2 : Method := { name := "add", desc := "(IIII)V", sig := { parameters := [.int, .int, .int, .int], returnType := none }, accessFlags := 0, code := some k2c2 }
/-- com/example/knitwork/knitwork/bibliometric/ScoredPairs -/
def k2 : Class := { plain "com/example/knitwork/knitwork/bibliometric/ScoredPairs" (some 0) with
  accessFlags := 48
  interfaces := #[]
  cf := some (fileOf pool2 8 #[] #[{ accessFlags := 0, nameIndex := 5, descriptorIndex := 6, attributes := #[] }, { accessFlags := 0, nameIndex := 57, descriptorIndex := 54, attributes := #[] }, { accessFlags := 0, nameIndex := 62, descriptorIndex := 109, attributes := #[] }] 48 2 #[] #[{ accessFlags := 2, nameIndex := 11, descriptorIndex := 12, attributes := #[] }, { accessFlags := 2, nameIndex := 15, descriptorIndex := 12, attributes := #[] }, { accessFlags := 2, nameIndex := 18, descriptorIndex := 12, attributes := #[] }, { accessFlags := 2, nameIndex := 21, descriptorIndex := 12, attributes := #[] }, { accessFlags := 2, nameIndex := 24, descriptorIndex := 25, attributes := #[] }, { accessFlags := 2, nameIndex := 28, descriptorIndex := 12, attributes := #[] }, { accessFlags := 2, nameIndex := 46, descriptorIndex := 12, attributes := #[] }])
  fields := #[{ name := "u", type := (.array .int), accessFlags := 2, slot := 0, constantValue := 0 }, { name := "v", type := (.array .int), accessFlags := 2, slot := 1, constantValue := 0 }, { name := "shared", type := (.array .int), accessFlags := 2, slot := 2, constantValue := 0 }, { name := "outOf", type := (.array .int), accessFlags := 2, slot := 3, constantValue := 0 }, { name := "count", type := .int, accessFlags := 2, slot := 4, constantValue := 0 }, { name := "start", type := (.array .int), accessFlags := 2, slot := 5, constantValue := 0 }, { name := "byNode", type := (.array .int), accessFlags := 2, slot := 6, constantValue := 0 }]
  methods := #[k2m0, k2m1, k2m2]
  instanceTypes := #[(.array .int), (.array .int), (.array .int), (.array .int), .int, (.array .int), (.array .int)]
  staticTypes := #[]
  resolved := Array.replicate 132 none
  statics := none }

def pool3 : Array CpInfo := pool [(1, u "java/lang/Cloneable"), (0, .class_ 1), (0, u "java/lang/Object"), (0, .class_ 3)] 3

/-- java/lang/Cloneable -/
def k3 : Class := { plain "java/lang/Cloneable" (some 0) with
  accessFlags := 1537
  interfaces := #[]
  cf := some (fileOf pool3 2 #[] #[] 1537 4 #[] #[])
  fields := #[]
  methods := #[]
  instanceTypes := #[]
  staticTypes := #[]
  resolved := Array.replicate 8 none
  statics := none }

def pool4 : Array CpInfo := pool [(1, u "java/io/Serializable"), (0, .class_ 1), (0, u "java/lang/Object"), (0, .class_ 3)] 3

/-- java/io/Serializable -/
def k4 : Class := { plain "java/io/Serializable" (some 0) with
  accessFlags := 1537
  interfaces := #[]
  cf := some (fileOf pool4 2 #[] #[] 1537 4 #[] #[])
  fields := #[]
  methods := #[]
  instanceTypes := #[]
  staticTypes := #[]
  resolved := Array.replicate 8 none
  statics := none }

/-- the primitive byte -/
def k5 : Class := { plain "byte" none with kind := .primitive 'B', accessFlags := 0x411 }
/-- [B -/
def k6 : Class := { plain "[B" (some 0) with kind := .array 5 .byte, interfaces := #[3, 4], accessFlags := 1041 }

/-- the primitive int -/
def k7 : Class := { plain "int" none with kind := .primitive 'I', accessFlags := 0x411 }
/-- [I -/
def k8 : Class := { plain "[I" (some 0) with kind := .array 7 .int, interfaces := #[3, 4], accessFlags := 1041 }

def heap : Heap := #[]
def classes : Array Class := #[k0, k1, k2, k3, k4, k5, k6, k7, k8]
def interned : List (Array UInt16 × Addr) := []
def slotsUsed : Nat := 0
def theMethod : MethodId := ⟨1, 1⟩
def args0 : Array Value := #[.int 1, .int 2, .int 3, .int 4, .int 1]
def aboutOver (below : List Frame) : State where
  vm := { classes := classes, interned := interned.toArray }
  heap := heap
  slotsUsed := slotsUsed
  threads := #[{ frames := .invoking theMethod args0 :: below }]
def below0 : List Frame := [.native { method := ⟨0, 0⟩, args := #[] }]
def about1 : State := aboutOver below0
def p0 : Program := .bare "" "" ""
def e0 : Env := launch0.env 0 0 0
theorem w_frames : about1.frames = Frame.invoking theMethod args0 :: below0 := rfl
set_option maxRecDepth 65536 in
theorem w_args : argsFit about1.vm theMethod args0 = true := by decide +kernel
set_option maxRecDepth 65536 in
theorem w_heap : heapFits about1 = true := by decide +kernel
set_option maxRecDepth 65536 in
theorem w_runnable : about1.curStatus? = some .runnable := by decide +kernel
set_option maxRecDepth 65536 in
theorem w_alone : about1.alone = true := by decide +kernel
set_option maxRecDepth 65536 in
theorem w_named : about1.methodNamed? x = some theMethod := by decide +kernel
set_option maxRecDepth 65536 in
theorem w_hears : about1.hears theMethod below0 = true := by decide +kernel
set_option maxRecDepth 65536 in
theorem w_ripe : about1.ripe theMethod args0 below0 = true := by decide +kernel
theorem w_running : about1.status = .running := rfl
set_option maxRecDepth 65536 in
theorem w_room : about1.hasRoom e0.platform room_1 = true :=
  launch0.hasRoom_least _ room_1 (by decide +kernel) (by decide +kernel) (by decide +kernel) (by decide +kernel) (by decide +kernel) (by decide +kernel)
theorem allAtoms_all (ts : List Jvm.Cond) (a : Array Jvm.Value) (st : Jvm.State) : (allAtoms ts).before a st = ts.all (fun c => c.before a st) := by
  induction ts with
  | nil => rfl
  | cons c t ih =>
    show (Jvm.Cond.and c (allAtoms t)).before a st = _
    rw [Jvm.Cond.before_and, ih, List.all_cons]
def words1 : List Jvm.Cond := Jvm.Cond.code x code maxLocals ret :: tables_1
/-- a 'code' word, met by the world's own term for the bytes: nothing is compared byte by byte -/
theorem code_word {y : MethodName} {bytes : ByteArray} {mx : Nat} {rt : Option FieldType} {a : Array Value} {s : State} {m : MethodId} {meth : Method} {c : Code} (h1 : s.methodNamed? y = some m) (h2 : s.vm.method? m = some meth) (h3 : meth.code = some c) (h4 : c.code = bytes)
    (h5 : (c.maxLocals == mx && c.exceptionTable.isEmpty && decide (c.maxStack ≤ mostOperands) && decide (meth.sig.returnType = rt) && !meth.locks && decide (parseMethodDescriptor y.desc = some meth.sig)) = true) : (Jvm.Cond.code y bytes mx rt).before a s = true := by
  simp only [Bool.and_eq_true, beq_iff_eq, Bool.not_eq_true', decide_eq_true_eq] at h5
  obtain ⟨⟨⟨⟨⟨g1, g2⟩, g3⟩, g4⟩, g5⟩, g6⟩ := h5
  simp [Cond.before, Cond.holds, Cond.value, h1, h2, h3, h4, g1, g2, g3, g4, g5, g6]
def isCode : Jvm.Cond → Bool
  | .code _ _ _ _ => true
  | _ => false
theorem all_split {L : List Jvm.Cond} {P : Jvm.Cond → Bool} (h1 : L.all (fun c => isCode c || P c) = true) (h2 : ∀ c ∈ L.filter isCode, P c = true) : L.all P = true := by
  refine List.all_eq_true.mpr fun c hc => ?_
  have h := List.all_eq_true.mp h1 c hc
  rcases Bool.eq_false_or_eq_true (isCode c) with hi | hi
  · exact h2 c (List.mem_filter.mpr ⟨hc, hi⟩)
  · simpa [hi] using h
set_option maxRecDepth 65536 in
theorem w_c0 : (Jvm.Cond.code x code maxLocals ret).before args0 about1 = true := code_word (m := ⟨1, 1⟩) (meth := k1m1) (c := k1c1) (by decide +kernel) rfl rfl rfl (by decide +kernel)
set_option maxRecDepth 65536 in
theorem w_c1 : (Jvm.Cond.code ({ cls := "com/example/knitwork/knitwork/bibliometric/ScoredPairs", name := "<init>", desc := "()V" } : Jvm.MethodName) prog_25_method_1_code (1 : Nat) (Option.none : Option Jvm.ClassFile.FieldType)).before args0 about1 = true := code_word (m := ⟨2, 0⟩) (meth := k2m0) (c := k2c0) (by decide +kernel) rfl rfl rfl (by decide +kernel)
set_option maxRecDepth 65536 in
theorem w_c2 : (Jvm.Cond.code ({ cls := "java/lang/Object", name := "<init>", desc := "()V" } : Jvm.MethodName) object_method_1_code (1 : Nat) (Option.none : Option Jvm.ClassFile.FieldType)).before args0 about1 = true := code_word (m := ⟨0, 0⟩) (meth := k0m0) (c := k0c0) (by decide +kernel) rfl rfl rfl (by decide +kernel)
set_option maxRecDepth 65536 in
theorem w_c3 : (Jvm.Cond.code ({ cls := "com/example/knitwork/knitwork/bibliometric/ScoredPairs", name := "add", desc := "(IIII)V" } : Jvm.MethodName) prog_25_method_12_code (6 : Nat) (Option.none : Option Jvm.ClassFile.FieldType)).before args0 about1 = true := code_word (m := ⟨2, 2⟩) (meth := k2m2) (c := k2c2) (by decide +kernel) rfl rfl rfl (by decide +kernel)
set_option maxRecDepth 65536 in
theorem w_c4 : (Jvm.Cond.code ({ cls := "com/example/knitwork/knitwork/bibliometric/ScoredPairs", name := "other", desc := "(II)I" } : Jvm.MethodName) prog_25_method_5_code (3 : Nat) (Option.some Jvm.ClassFile.FieldType.int)).before args0 about1 = true := code_word (m := ⟨2, 1⟩) (meth := k2m1) (c := k2c1) (by decide +kernel) rfl rfl rfl (by decide +kernel)
def codes1 : List Jvm.Cond := [Jvm.Cond.code x code maxLocals ret, Jvm.Cond.code ({ cls := "com/example/knitwork/knitwork/bibliometric/ScoredPairs", name := "<init>", desc := "()V" } : Jvm.MethodName) prog_25_method_1_code (1 : Nat) (Option.none : Option Jvm.ClassFile.FieldType), Jvm.Cond.code ({ cls := "java/lang/Object", name := "<init>", desc := "()V" } : Jvm.MethodName) object_method_1_code (1 : Nat) (Option.none : Option Jvm.ClassFile.FieldType), Jvm.Cond.code ({ cls := "com/example/knitwork/knitwork/bibliometric/ScoredPairs", name := "add", desc := "(IIII)V" } : Jvm.MethodName) prog_25_method_12_code (6 : Nat) (Option.none : Option Jvm.ClassFile.FieldType), Jvm.Cond.code ({ cls := "com/example/knitwork/knitwork/bibliometric/ScoredPairs", name := "other", desc := "(II)I" } : Jvm.MethodName) prog_25_method_5_code (3 : Nat) (Option.some Jvm.ClassFile.FieldType.int)]
set_option maxRecDepth 65536 in
theorem codes_eq : words1.filter isCode = codes1 := rfl
theorem w_codes : ∀ c ∈ words1.filter isCode, c.before args0 about1 = true := by
  rw [codes_eq]
  intro c hc
  simp only [codes1, List.mem_cons, List.not_mem_nil, or_false] at hc
  rcases hc with rfl | rfl | rfl | rfl | rfl
  · exact w_c0
  · exact w_c1
  · exact w_c2
  · exact w_c3
  · exact w_c4
set_option maxRecDepth 65536 in
theorem w_t1 : (words1.take 24).all (fun c => isCode c || c.before args0 about1) = true := by decide +kernel
set_option maxRecDepth 65536 in
theorem w_t2 : (words1.drop 24).all (fun c => isCode c || c.before args0 about1) = true := by decide +kernel
theorem w_tables : (allAtoms (Jvm.Cond.code x code maxLocals ret :: tables_1)).before args0 about1 = true := by
  rw [allAtoms_all]
  show words1.all (fun c => c.before args0 about1) = true
  refine all_split ?_ w_codes
  rw [← List.take_append_drop 24 words1, List.all_append, w_t1, w_t2]
  rfl
set_option maxRecDepth 65536 in
theorem w_case : (Jvm.Cond.and given_1 narrow_1).before args0 about1 = true := by decide +kernel
theorem w_applies : (headSpec (Jvm.Cond.code x code maxLocals ret :: tables_1) room_1).applies x e0.platform about1 = true :=
  (Spec.applies_iff w_frames).mpr ⟨w_running, w_runnable, w_alone, w_named, w_hears, w_ripe, w_room, w_tables⟩
theorem atStart : AtStart classFile x code maxLocals ret World_1 tables_1 room_1 Calls_1 rest_1 Pre_1 launch0 p0 e0 about1 theMethod args0 below0 :=
  ⟨lists_1, trivial, launch0.admits_env _ _ _, launch0.least_env, fairChoices_fair.cas, fairChoices_fair.clock, w_frames, w_args, w_heap, w_applies, trivial, trivial, w_case⟩
end start1
theorem witness_1 : WitnessClaimed_1 := ⟨start1.p0, start1.e0, start1.about1, start1.theMethod, start1.args0, start1.below0, start1.atStart⟩
end Jvm.Pilot.@@N@@
