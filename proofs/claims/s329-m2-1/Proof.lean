import JvmDerived
import JvmDerived.Pilot.@@N@@Statement
import JvmDerived.Pilot.@@N@@Code
set_option linter.unusedVariables false
set_option linter.unusedSimpArgs false
namespace Jvm.RoadKit
open Sem ClassFile Op Lib Jvm.Stand Jvm.Free Jvm.LawKit
section New
variable {p : Program} {l : Launch} {e : Env} {R : Room} {s : State} {m : MethodId} {args : Array Value} {below : List Frame} {meth : Method} {c : Code} {T : State} {locs : List Loc} {cells slots : Nat}
theorem retI (X : Stand p l e R s m args below meth c T locs cells slots) (hx : p.tables.exec = Jvm.exec) {pc : Nat} {Ls : Array Slot} {z : Int32} {rest : List Value} (hret : meth.sig.returnType = some .int) (hd : decode c.code pc = .ok (.ireturn, 1)) {fs : List Frame}
    (hl : ∀ (f : JFrame) (acts : List Action), f.method = m → f.locked = none → f.entered = [] → (doReturn e (T.setTop f) acts (some (.int z))).1 = T.setFrames fs) : Steps p.tables e below (T.setTop (mkF m pc Ls (.int z :: rest))) (T.setFrames fs) := by
  have hm' : T.vm.method? m = some meth := X.method'
  have hn : narrow .int (.int z) = .int z := rfl
  show Steps p.tables e below (T.setTop { method := m, pc := pc, locals := Ls, stack := _ :: rest, locked := none }) _
  jvm_step X.here [X.here.top, hx, hd, hm', hret, hn]
  first | (intro acts; rw [hl _ acts rfl rfl rfl]) | rw [hl _ _ rfl rfl rfl]
  exact Steps.refl _
end New
end Jvm.RoadKit
namespace Jvm.Pilot.@@N@@
open Jvm Jvm.ClassFile Sem Op Lib Jvm.Free Jvm.Stand Jvm.LawKit Jvm.RoadKit Bundle Jvm.Pilot.@@N@@.Jvm.D
/-- an array of n places, the j-th holds f j -/
def Arf (Z : State) (h : Heap) (a : Addr) (k : ClassId) (ty : FieldType) (n : Nat) (f : Nat → Value) : Prop := ∃ c : Cell, Arr Z h a c ty ∧ c.cls = k ∧ c.slots.size = n ∧ n < 2 ^ 31 ∧ (∀ j, j < n → c.slots[j]? = some (f j)) ∧ ∀ j, j < n → fits ty (f j) = true
def upd (f : Nat → Value) (i : Nat) (v : Value) : Nat → Value := fun j => if j = i then v else f j
section Arfs
variable {Z : State} {h h' : Heap} {a b : Addr} {k : ClassId} {ty : FieldType} {n i : Nat} {f : Nat → Value} {v : Value} {sl : Nat} {ws : List Addr} {c : Cell} {j : Int32}
theorem Arf.lt (F : Arf Z h a k ty n f) : a < h.size := by obtain ⟨c, A, -⟩ := F; exact A.lt
theorem Arf.ext (F : Arf Z h a k ty n f) (E : Ext h h') : Arf Z h' a k ty n f := by obtain ⟨c, A, r⟩ := F; exact ⟨c, A.ext E, r⟩
theorem Arf.other (F : Arf Z h b k ty n f) (W : Wr h h' a sl v) (q : b ≠ a) : Arf Z h' b k ty n f := by obtain ⟨c, A, r⟩ := F; exact ⟨c, A.other W q, r⟩
theorem Arf.keep (F : Arf Z h a k ty n f) (K : Keep h h' ws) (q : a ∉ ws) : Arf Z h' a k ty n f := by obtain ⟨c, A, r⟩ := F; exact ⟨c, ⟨K.2.1 a c A.1 q, A.2⟩, r⟩
theorem Arf.new {z : Int32} (A : Arr Z h a (newA k ty z) ty) (q : ¬ z < 0) (hz : z.toNatClampNeg = n) : Arf Z h a k ty n (fun _ => defaultValue ty) := ⟨_, A, rfl, by rw [sz_new, hz], by rw [← hz]; exact (back32 q).2, fun i hi => by
  rw [← hz] at hi; simp [newA, hi], fun _ _ => by cases ty <;> rfl⟩
theorem Arf.eq {g : Nat → Value} (F : Arf Z h a k ty n f) (e : ∀ j, j < n → f j = g j) : Arf Z h a k ty n g := by obtain ⟨c, A, r1, r2, r3, H, G⟩ := F; exact ⟨c, A, r1, r2, r3, fun j hj => by rw [← e j hj]; exact H j hj, fun j hj => by rw [← e j hj]; exact G j hj⟩
theorem own_inb (S : c.slots.size = n) (ix : ¬ j < 0 ∧ j.toNatClampNeg = i) (hi : i < n) : ¬ (j < 0 ∨ c.slots.size ≤ j.toNatClampNeg) := by rw [S, ix.2]; exact fun q => q.elim ix.1 (Nat.not_le.mpr hi)
theorem own_hat (H : ∀ j, j < n → c.slots[j]? = some (f j)) (ix : ¬ j < 0 ∧ j.toNatClampNeg = i) (hi : i < n) (hv : f i = v) : c.slots[j.toNatClampNeg]? = some v := by rw [ix.2, H _ hi, hv]
theorem own_set (A : Arr Z h a c ty) (q : c.cls = k) (S : c.slots.size = n) (B : n < 2 ^ 31) (H : ∀ j, j < n → c.slots[j]? = some (f j)) (G : ∀ j, j < n → fits ty (f j) = true) (hv : fits ty v = true) (ix : ¬ j < 0 ∧ j.toNatClampNeg = i) (W : Wr h h' a j.toNatClampNeg v) : Arf Z h' a k ty n (upd f i v) := by
  refine ⟨_, A.same W, q, by rw [sz_set]; exact S, B, fun x hx => ?_, fun x hx => ?_⟩
  · rw [ix.2]
    by_cases u : x = i
    · subst u; simp [Cell.setSlot, S, hx, upd]
    · simp only [Cell.setSlot, upd, if_neg u]
      rw [Array.getElem?_setIfInBounds_ne (Ne.symm u)]; exact H x hx
  · unfold upd
    split
    · exact hv
    · exact G x hx
theorem own_ix {k : Nat} (hk : k < 2 ^ 31) : ¬ k.toInt32 < 0 ∧ k.toInt32.toNatClampNeg = k := by
  have e := len_toInt hk
  refine ⟨?_, ?_⟩
  · rw [Int32.lt_iff_toInt_lt, e]; show ¬ (k : Int) < 0; omega
  · simp only [Int32.toNatClampNeg, e]; rfl
end Arfs
section Cp
variable {p : Program} {l : Launch} {e : Env} {R : Room} {s : State} {m : MethodId} {args : Array Value} {below : List Frame} {meth : Method} {c : Code} {T : State} {locs : List Loc} {cells slots : Nat} {Z : State} {h h' : Heap} {a b : Addr} {k k' : ClassId} {ty : FieldType} {n n1 n2 i1 i2 i3 : Nat} {f f' : Nat → Value}
theorem Arf.arv (F : Arf Z h a k ty n f) (d : Value) : Arv Z h a k ty n.toInt32 ((List.range n).map f) d := by
  obtain ⟨c, A, r1, r2, r3, H, G⟩ := F
  have gd : ∀ j, j < n → ((List.range n).map f).getD j d = f j := fun j hj => by simp [List.getD_eq_getElem?_getD, hj]
  exact ⟨c, A, r1, by rw [r2, (own_ix r3).2], (own_ix r3).1, fun j hj => by rw [gd j (r2 ▸ hj)]; exact H j (r2 ▸ hj), fun j hj => by rw [gd j (r2 ▸ hj)]; exact G j (r2 ▸ hj)⟩
theorem Arf.of_arv {z : Int32} {vs : List Value} {d : Value} (F : Arv Z h a k ty z vs d) : Arf Z h a k ty z.toNatClampNeg (fun j => vs.getD j d) := by
  obtain ⟨c, A, r1, r2, r3, H, G⟩ := F
  exact ⟨c, A, r1, r2, (back32 r3).2, fun j hj => H j (r2 ▸ hj), fun j hj => G j (r2 ▸ hj)⟩
theorem own_cp (X : Stand p l e R s m args below meth c T locs cells slots) (hx : p.tables.exec = Jvm.exec) (hZ : Z.Warmed39 s.vm) {a0 : Array Value} {own : String} {index : Nat} (hown : s.vm.findClass own = some m.cls)
    (w1 : (Jvm.Cond.methodLink own index Jvm.Stand.acN).before a0 Z = true) (w2 : (Jvm.Cond.native Jvm.Stand.acN).before a0 Z = true) (w3 : (Jvm.Cond.static Jvm.Stand.acN).before a0 Z = true) (w4 : (Jvm.Cond.initialized "java/lang/System").before a0 Z = true) (eT : T.heap = h)
    {sp dp nn : Int32} (A : Arf Z h a k ty n1 f) (B : Arf Z h b k' ty n2 f') (hr : refKind ty = false) (x1 : ¬ sp < 0 ∧ sp.toNatClampNeg = i1) (x2 : ¬ dp < 0 ∧ dp.toNatClampNeg = i2) (x3 : ¬ nn < 0 ∧ nn.toNatClampNeg = i3) (h4 : i1 + i3 ≤ n1) (h5 : i2 + i3 ≤ n2) {n0 : Nat} (N : Fr n0 locs) (ge : n0 ≤ b)
    {g : JFrame} (hg : g.method = m) (hsize : g.locals.size = c.maxLocals) {rest : List Value} (hs : g.stack = .int nn :: .int dp :: .ref b :: .int sp :: .ref a :: rest) (hd : decode c.code g.pc = .ok (.invokestatic index, 3))
    (hf : 1 ≤ R.frames) {W : Nat} (hW : 2 * g.monitorRoom + (rest.map fun v => v.category).sum ≤ W) (hlo : W + (nativeFrameWords "java/lang/System" "arraycopy" 5 + 11) ≤ R.locals) :
    ∃ T' h' L, Stand p l e R s m args below meth c T' L cells slots ∧ T'.heap = h' ∧ Fr n0 L ∧ Keep h h' [b] ∧ Arf Z h' b k' ty n2 (fun j => if i2 ≤ j ∧ j < i2 + i3 then f (i1 + (j - i2)) else f' j) ∧
      ∀ target, Steps p.tables e below (T'.setTop { g with pc := g.pc + 3, stack := rest }) target → Steps p.tables e below (T.setTop g) target := by
  have b1 : n1 < 2 ^ 31 := by obtain ⟨_, _, _, _, q, _⟩ := A; exact q
  have b2 : n2 < 2 ^ 31 := by obtain ⟨_, _, _, _, q, _⟩ := B; exact q
  obtain ⟨T', h', L, X', e', N', K', V', st⟩ := cpA X hx hZ hown w1 w2 w3 w4 eT (A.arv .null) (B.arv .null) (Or.inl ⟨rfl, hr⟩) x1.1 x2.1 x3.1 (by rw [x1.2, x3.2, (own_ix b1).2]; exact h4) (by rw [x2.2, x3.2, (own_ix b2).2]; exact h5) rfl (by rw [x2.2, x3.2, List.length_map, List.length_range]; exact h5) N ge hg hsize hs hd hf hW hlo
  have V2 := Arf.of_arv V'
  rw [(own_ix b2).2] at V2
  refine ⟨T', h', L, X', e', N', K', V2.eq fun j hj => ?_, st⟩
  rw [x1.2, x2.2, x3.2]
  have lt1 : (((List.range n2).map f').take i2).length = i2 := by rw [List.length_take, List.length_map, List.length_range]; omega
  simp only [List.getD_eq_getElem?_getD]
  by_cases c1 : j < i2
  · rw [if_neg (by omega), List.append_assoc, List.getElem?_append_left (by omega), List.getElem?_take_of_lt c1]
    simp [hj]
  · by_cases c2 : j < i2 + i3
    · rw [if_pos ⟨by omega, c2⟩, List.getElem?_append_left (by rw [List.length_append, lt1, List.length_map, List.length_range]; omega), List.getElem?_append_right (by omega), lt1]
      have q1 : j - i2 < i3 := by omega
      have q2 : i1 + (j - i2) < n1 := by omega
      simp [q1, q2]
    · rw [if_neg (by omega), List.getElem?_append_right (by rw [List.length_append, lt1, List.length_map, List.length_range]; omega), List.length_append, lt1, List.length_map, List.length_range, List.getElem?_drop]
      have q : i2 + i3 + (j - (i2 + i3)) = j := by omega
      rw [q]; simp [hj]
end Cp
theorem pd_0 : parseMethodDescriptor "(IIZ)V" = some ⟨[.int, .int, .boolean], none⟩ := by decide +kernel
theorem pd_1 : parseMethodDescriptor "(I)V" = some ⟨[.int], none⟩ := by decide +kernel
theorem pd_2 : parseMethodDescriptor "([I)V" = some ⟨[(.array .int)], none⟩ := by decide +kernel
theorem pd_3 : parseMethodDescriptor "(II)I" = some ⟨[.int, .int], some .int⟩ := by decide +kernel
theorem d2_0 : decode prog_58_method_2_code 0 = .ok (.aload_n 0, 1) := by decide +kernel
theorem d2_1 : decode prog_58_method_2_code 1 = .ok (.invokespecial 9, 3) := by decide +kernel
theorem d2_4 : decode prog_58_method_2_code 4 = .ok (.aload_n 0, 1) := by decide +kernel
theorem d2_5 : decode prog_58_method_2_code 5 = .ok (.iload_n 1, 1) := by decide +kernel
theorem d2_6 : decode prog_58_method_2_code 6 = .ok (.putfield 14, 3) := by decide +kernel
theorem d2_9 : decode prog_58_method_2_code 9 = .ok (.aload_n 0, 1) := by decide +kernel
theorem d2_10 : decode prog_58_method_2_code 10 = .ok (.iload_n 3, 1) := by decide +kernel
theorem d2_11 : decode prog_58_method_2_code 11 = .ok (.putfield 18, 3) := by decide +kernel
theorem d2_14 : decode prog_58_method_2_code 14 = .ok (.aload_n 0, 1) := by decide +kernel
theorem d2_15 : decode prog_58_method_2_code 15 = .ok (.iload_n 1, 1) := by decide +kernel
theorem d2_16 : decode prog_58_method_2_code 16 = .ok (.iload_n 2, 1) := by decide +kernel
theorem d2_17 : decode prog_58_method_2_code 17 = .ok (.imul, 1) := by decide +kernel
theorem d2_18 : decode prog_58_method_2_code 18 = .ok (.newarray .int, 2) := by decide +kernel
theorem d2_20 : decode prog_58_method_2_code 20 = .ok (.putfield 22, 3) := by decide +kernel
theorem d2_23 : decode prog_58_method_2_code 23 = .ok (.return_, 1) := by decide +kernel
theorem pn_own_i3 : plainName "com/example/factwell/factwell/pql/Rows" = true := by first | (simp [plainName, overriddenIn]; done) | decide +kernel
theorem ef_own_i3 (m : MethodId) (x0 : Addr) (x1 : Int32) (x2 : Int32) (x3 : Int32) : entryFrame m #[(.ref x0), (.int x1), (.int x2), (.int x3)] 4 = mkF m 0 #[.val (.ref x0), .val (.int x1), .val (.int x2), .val (.int x3)] [] := by first | (simp [entryFrame, mkF, argsToLocals, Value.category]; done) | rfl
def Q_own_i3 (Z : State) (a1 : Addr) (p1 : Int32) (p2 : Int32) (p3 : Int32) (n : Nat) (h0 : Heap) (n0 : Nat) (v : Option Value) (h : Heap) (L : List Loc) : Prop := v = none ∧ Fr n0 L ∧ ∃ (ac : Addr) (kc : ClassId), (n0 ≤ ac ∧ a1 < ac ∧ h0.size ≤ ac) ∧ Keep h0 h [a1] ∧ Exa Z h a1 "com/example/factwell/factwell/pql/Rows" ∧ Fld Z h a1 "com/example/factwell/factwell/pql/Rows" "width" "I" (.int p1) ∧ Fld Z h a1 "com/example/factwell/factwell/pql/Rows" "cells" "[I" (.ref ac) ∧ Fld Z h a1 "com/example/factwell/factwell/pql/Rows" "count" "I" (.int (0 : Int32)) ∧ Arf Z h ac kc .int n (fun _ => Value.int 0)
set_option maxRecDepth 65536 in
set_option maxHeartbeats 40000000 in
theorem own_i3 (l : Launch) (Z : State) (a0 : Array Value) (hw : ∀ d ∈ tables_1, d.before a0 Z = true) (ws : List Jvm.Cond) (a1 : Addr) (p1 : Int32) (p2 : Int32) (p3 : Int32) (n : Nat) (h0 : Heap) (n0 : Nat) (Z0 : n0 ≤ h0.size) (hneg : ¬ (p1 * p2) < 0) (hcap : (p1 * p2).toNatClampNeg ≤ 24) (hz : (p1 * p2).toNatClampNeg = n) (E_ : Exa Z h0 a1 "com/example/factwell/factwell/pql/Rows") (F_w : Fld Z h0 a1 "com/example/factwell/factwell/pql/Rows" "width" "I" (.int (0 : Int32))) (F_m : Fld Z h0 a1 "com/example/factwell/factwell/pql/Rows" "mayRepeat" "Z" (.int (0 : Int32))) (F_c : Fld Z h0 a1 "com/example/factwell/factwell/pql/Rows" "cells" "[I" .null) (F_n : Fld Z h0 a1 "com/example/factwell/factwell/pql/Rows" "count" "I" (.int (0 : Int32))) (g_a1 : n0 ≤ a1) :
    MetFree l (⟨"com/example/factwell/factwell/pql/Rows", "<init>", "(IIZ)V"⟩ : MethodName) (head1 (Jvm.Cond.code (⟨"com/example/factwell/factwell/pql/Rows", "<init>", "(IIZ)V"⟩ : MethodName) prog_58_method_2_code 4 none :: ws) ({ frames := 1, cells := 1, slots := 24, locals := 12 } : Room)) (fun a U => a = #[(.ref a1), (.int p1), (.int p2), (.int p3)] ∧ Z.Warmed39 U.vm ∧ U.heap = h0) (fun _ _ _ _ _ => True) (fun _ U o U' => ∃ v L, o = .returned v ∧ Q_own_i3 Z a1 p1 p2 p3 n h0 n0 v U'.heap L ∧ FrameEnd U o U' L ({ frames := 1, cells := 1, slots := 24, locals := 12 } : Room).cells ({ frames := 1, cells := 1, slots := 24, locals := 12 } : Room).slots) := by
  refine MetFree.of_bodySF (plainFor_of_name pn_own_i3) hisR ?_
  intro p e s m args below meth c s₁ Bd hml0 hP hK
  obtain ⟨rfl, hZ, hh⟩ := hP
  have hx := Bd.exec
  have hby := Bd.bytes
  have hml : c.maxLocals = 4 := hml0
  have hown : s.vm.findClass "com/example/factwell/factwell/pql/Rows" = some m.cls := findClass_of_methodNamed Bd.named
  have hnm := (name_of_methodNamed Bd.named Bd.method).1
  have X0 : Stand p l e ({ frames := 1, cells := 1, slots := 24, locals := 12 } : Room) s m #[(.ref a1), (.int p1), (.int p2), (.int p3)] below meth c s₁ [] 0 0 := Stand.of_body Bd
  have e0 : s₁.heap = h0 := by rw [← hh, Bd.state]; rfl
  have N0 := Fr.nil n0
  have pre0 : ∀ t, Steps p.tables e below (s₁.setTop (mkF m 0 #[.val (.ref a1), .val (.int p1), .val (.int p2), .val (.int p3)] [])) t → Steps p.tables e below (s₁.setTop (entryFrame m #[(.ref a1), (.int p1), (.int p2), (.int p3)] 4)) t := fun t k => castTop (ef_own_i3 m (a1) (p1) (p2) (p3)) k
  obtain ⟨T1, X1, e1, st1⟩ := initO X0 hx hZ hown (hw _ (List.mem_of_getElem? (i := 10) rfl)) (hw _ (List.mem_of_getElem? (i := 11) rfl)) (hw _ (List.mem_of_getElem? (i := 12) rfl)) e0 (g := (mkF m 1 #[.val (.ref a1), .val (.int p1), .val (.int p2), .val (.int p3)] [(.ref a1)])) rfl (by rw [hml]; rfl) rfl (hb hby d2_1) (by decide) (W := 0) (by show 2 * 0 + _ ≤ _; exact Nat.le_of_eq rfl) (by decide)
  obtain ⟨T2, h2, X2, e2, W2, st2⟩ := putF X1 hx hZ hown (host := "") (Or.inl (hw _ (List.mem_of_getElem? (i := 13) rfl))) Via.refl e1 F_w E_ (Or.inr ⟨(hw _ (List.mem_of_getElem? (i := 14) rfl)), rfl, hnm⟩) (hw _ (List.mem_of_getElem? (i := 2) rfl)) (ty := .int) (by decide) rfl rfl (g := (mkF m 6 #[.val (.ref a1), .val (.int p1), .val (.int p2), .val (.int p3)] [(.int p1), (.ref a1)])) rfl rfl (hb hby d2_6)
  have Fw2 := F_w.same W2
  have N2 := Fr.snoc X2 N0 g_a1
  have K2 : Keep h0 h2 [a1] := (Keep.refl h0 [a1]).wr W2 (Or.inl (List.mem_of_getElem? (i := 0) rfl))
  obtain ⟨T3, h3, X3, e3, W3, st3⟩ := putFN X2 hx hZ hown (hw _ (List.mem_of_getElem? (i := 15) rfl)) Via.refl e2 (F_m.other W2 (Or.inr (slot_ne (Or.inr (hw _ (List.mem_of_getElem? (i := 16) rfl))) (Or.inr (hw _ (List.mem_of_getElem? (i := 14) rfl))) (by decide) (t := .boolean) (t' := .int) (by decide) (by decide)))) (E_.wr W2) (Or.inr ⟨(hw _ (List.mem_of_getElem? (i := 16) rfl)), rfl, hnm⟩) (hw _ (List.mem_of_getElem? (i := 2) rfl)) (ty := .boolean) (v' := (.int (p3 &&& 1))) (by decide) rfl (fits_nar_bool _) (g := (mkF m 11 #[.val (.ref a1), .val (.int p1), .val (.int p2), .val (.int p3)] [(.int p3), (.ref a1)])) rfl rfl (hb hby d2_11)
  have Fw3 := (F_m.other W2 (Or.inr (slot_ne (Or.inr (hw _ (List.mem_of_getElem? (i := 16) rfl))) (Or.inr (hw _ (List.mem_of_getElem? (i := 14) rfl))) (by decide) (t := .boolean) (t' := .int) (by decide) (by decide)))).same W3
  have N3 := Fr.snoc X3 N2 g_a1
  have K3 : Keep h0 h3 [a1] := K2.wr W3 (Or.inl (List.mem_of_getElem? (i := 0) rfl))
  obtain ⟨T4, h4, k4, X4, e4, E4, A4, st4⟩ := newP X3 hx hZ (hw _ (List.mem_of_getElem? (i := 0) rfl)) e3 (g := (mkF m 18 #[.val (.ref a1), .val (.int p1), .val (.int p2), .val (.int p3)] [(.int (p1 * p2)), (.ref a1)])) rfl (hb hby d2_18) rfl hneg (cap := 24) hcap (by decide) (by decide) (by decide)
  obtain ⟨b4, g4⟩ : ∃ z, z = h3.size := ⟨_, rfl⟩
  rw [← g4] at A4 st4
  have g_b4 : n0 ≤ b4 := Nat.le_trans (Nat.le_trans (Nat.le_trans Z0 (Keep.of_wr W2).1) (Keep.of_wr W3).1) (Nat.le_of_eq g4.symm)
  have sz_b4 : h0.size ≤ b4 := (Nat.le_trans K3.1 (Nat.le_of_eq g4.symm))
  have lt_a1_b4 : a1 < b4 := Nat.lt_of_lt_of_eq ((E_.wr W2).wr W3).lt g4.symm
  have V4 := Arf.new (n := n) A4 hneg hz
  have K4 : Keep h0 h4 [a1] := K3.ext E4
  obtain ⟨T5, h5, X5, e5, W5, st5⟩ := putF X4 hx hZ hown (host := "") (Or.inl (hw _ (List.mem_of_getElem? (i := 17) rfl))) Via.refl e4 (((F_c.other W2 (Or.inr (slot_ne (Or.inl (hw _ (List.mem_of_getElem? (i := 18) rfl))) (Or.inr (hw _ (List.mem_of_getElem? (i := 14) rfl))) (by decide) (t := (.array .int)) (t' := .int) (by decide) (by decide)))).other W3 (Or.inr (slot_ne (Or.inl (hw _ (List.mem_of_getElem? (i := 18) rfl))) (Or.inr (hw _ (List.mem_of_getElem? (i := 16) rfl))) (by decide) (t := (.array .int)) (t' := .boolean) (by decide) (by decide)))).ext E4) (((E_.wr W2).wr W3).ext E4) (Or.inl (hw _ (List.mem_of_getElem? (i := 18) rfl))) (hw _ (List.mem_of_getElem? (i := 2) rfl)) (ty := (.array .int)) (by decide) rfl rfl (g := (mkF m 20 #[.val (.ref a1), .val (.int p1), .val (.int p2), .val (.int p3)] [(.ref b4), (.ref a1)])) rfl rfl (hb hby d2_20)
  have Fw5 := (((F_c.other W2 (Or.inr (slot_ne (Or.inl (hw _ (List.mem_of_getElem? (i := 18) rfl))) (Or.inr (hw _ (List.mem_of_getElem? (i := 14) rfl))) (by decide) (t := (.array .int)) (t' := .int) (by decide) (by decide)))).other W3 (Or.inr (slot_ne (Or.inl (hw _ (List.mem_of_getElem? (i := 18) rfl))) (Or.inr (hw _ (List.mem_of_getElem? (i := 16) rfl))) (by decide) (t := (.array .int)) (t' := .boolean) (by decide) (by decide)))).ext E4).same W5
  have N5 := Fr.snoc X5 N3 g_a1
  have K5 : Keep h0 h5 [a1] := K4.wr W5 (Or.inl (List.mem_of_getElem? (i := 0) rfl))
  obtain ⟨fs, hr, hrun, hended, hW, hsame⟩ := X5.leave (v := none) (fun _ => rfl)
  refine ⟨_, _, pre0 _ ?_, hrun, hended, _, _, rfl, ?_, ⟨_, rfl⟩, hW, hsame.mono (by decide) (by decide)⟩
  · show Steps p.tables e below (s₁.setTop (mkF m 0 #[.val (.ref a1), .val (.int p1), .val (.int p2), .val (.int p3)] [])) _
    refine XS.aloadN X0.here hx rfl (hb hby d2_0) rfl rfl ?_
    show Steps p.tables e below (s₁.setTop (mkF m 1 #[.val (.ref a1), .val (.int p1), .val (.int p2), .val (.int p3)] [(.ref a1)])) _
    refine st1 _ ?_
    show Steps p.tables e below (T1.setTop (mkF m 4 #[.val (.ref a1), .val (.int p1), .val (.int p2), .val (.int p3)] [])) _
    refine XS.aloadN X1.here hx rfl (hb hby d2_4) rfl rfl ?_
    show Steps p.tables e below (T1.setTop (mkF m 5 #[.val (.ref a1), .val (.int p1), .val (.int p2), .val (.int p3)] [(.ref a1)])) _
    refine XS.iloadN X1.here hx rfl (hb hby d2_5) rfl ?_
    show Steps p.tables e below (T1.setTop (mkF m 6 #[.val (.ref a1), .val (.int p1), .val (.int p2), .val (.int p3)] [(.int p1), (.ref a1)])) _
    refine st2 _ ?_
    show Steps p.tables e below (T2.setTop (mkF m 9 #[.val (.ref a1), .val (.int p1), .val (.int p2), .val (.int p3)] [])) _
    refine XS.aloadN X2.here hx rfl (hb hby d2_9) rfl rfl ?_
    show Steps p.tables e below (T2.setTop (mkF m 10 #[.val (.ref a1), .val (.int p1), .val (.int p2), .val (.int p3)] [(.ref a1)])) _
    refine XS.iloadN X2.here hx rfl (hb hby d2_10) rfl ?_
    show Steps p.tables e below (T2.setTop (mkF m 11 #[.val (.ref a1), .val (.int p1), .val (.int p2), .val (.int p3)] [(.int p3), (.ref a1)])) _
    refine st3 _ ?_
    show Steps p.tables e below (T3.setTop (mkF m 14 #[.val (.ref a1), .val (.int p1), .val (.int p2), .val (.int p3)] [])) _
    refine XS.aloadN X3.here hx rfl (hb hby d2_14) rfl rfl ?_
    show Steps p.tables e below (T3.setTop (mkF m 15 #[.val (.ref a1), .val (.int p1), .val (.int p2), .val (.int p3)] [(.ref a1)])) _
    refine XS.iloadN X3.here hx rfl (hb hby d2_15) rfl ?_
    show Steps p.tables e below (T3.setTop (mkF m 16 #[.val (.ref a1), .val (.int p1), .val (.int p2), .val (.int p3)] [(.int p1), (.ref a1)])) _
    refine XS.iloadN X3.here hx rfl (hb hby d2_16) rfl ?_
    show Steps p.tables e below (T3.setTop (mkF m 17 #[.val (.ref a1), .val (.int p1), .val (.int p2), .val (.int p3)] [(.int p2), (.int p1), (.ref a1)])) _
    refine XS.imul X3.here hx rfl (hb hby d2_17) rfl ?_
    show Steps p.tables e below (T3.setTop (mkF m 18 #[.val (.ref a1), .val (.int p1), .val (.int p2), .val (.int p3)] [(.int (p1 * p2)), (.ref a1)])) _
    refine st4 _ ?_
    show Steps p.tables e below (T4.setTop (mkF m 20 #[.val (.ref a1), .val (.int p1), .val (.int p2), .val (.int p3)] [(.ref b4), (.ref a1)])) _
    refine st5 _ ?_
    show Steps p.tables e below (T5.setTop (mkF m 23 #[.val (.ref a1), .val (.int p1), .val (.int p2), .val (.int p3)] [])) _
    exact X5.returnOut hx Bd.returns (hb hby d2_23) hr
  · show Q_own_i3 Z a1 p1 p2 p3 n h0 n0 _ T5.heap _
    rw [e5]
    exact ⟨rfl, N5, b4, k4, ⟨g_b4, lt_a1_b4, sz_b4⟩, K5, ((((E_.wr W2).wr W3).ext E4).wr W5), (((Fw2.other W3 (Or.inr (slot_ne (Or.inr (hw _ (List.mem_of_getElem? (i := 14) rfl))) (Or.inr (hw _ (List.mem_of_getElem? (i := 16) rfl))) (by decide) (t := .int) (t' := .boolean) (by decide) (by decide)))).ext E4).other W5 (Or.inr (slot_ne (Or.inr (hw _ (List.mem_of_getElem? (i := 14) rfl))) (Or.inl (hw _ (List.mem_of_getElem? (i := 18) rfl))) (by decide) (t := .int) (t' := (.array .int)) (by decide) (by decide)))), Fw5, ((((F_n.other W2 (Or.inr (slot_ne (Or.inl (hw _ (List.mem_of_getElem? (i := 25) rfl))) (Or.inr (hw _ (List.mem_of_getElem? (i := 14) rfl))) (by decide) (t := .int) (t' := .int) (by decide) (by decide)))).other W3 (Or.inr (slot_ne (Or.inl (hw _ (List.mem_of_getElem? (i := 25) rfl))) (Or.inr (hw _ (List.mem_of_getElem? (i := 16) rfl))) (by decide) (t := .int) (t' := .boolean) (by decide) (by decide)))).ext E4).other W5 (Or.inr (slot_ne (Or.inl (hw _ (List.mem_of_getElem? (i := 25) rfl))) (Or.inl (hw _ (List.mem_of_getElem? (i := 18) rfl))) (by decide) (t := .int) (t' := (.array .int)) (by decide) (by decide)))), (V4.other W5 (Ne.symm (Nat.ne_of_lt lt_a1_b4)))⟩
theorem d1_0 : decode prog_58_method_1_code 0 = .ok (.aload_n 0, 1) := by decide +kernel
theorem d1_1 : decode prog_58_method_1_code 1 = .ok (.iload_n 1, 1) := by decide +kernel
theorem d1_2 : decode prog_58_method_1_code 2 = .ok (.bipush 8, 2) := by decide +kernel
theorem d1_4 : decode prog_58_method_1_code 4 = .ok (.iconst 1, 1) := by decide +kernel
theorem d1_5 : decode prog_58_method_1_code 5 = .ok (.invokespecial 5, 3) := by decide +kernel
theorem d1_8 : decode prog_58_method_1_code 8 = .ok (.return_, 1) := by decide +kernel
theorem pn_own_i1 : plainName "com/example/factwell/factwell/pql/Rows" = true := by first | (simp [plainName, overriddenIn]; done) | decide +kernel
theorem ef_own_i1 (m : MethodId) (x0 : Addr) (x1 : Int32) : entryFrame m #[(.ref x0), (.int x1)] 2 = mkF m 0 #[.val (.ref x0), .val (.int x1)] [] := by first | (simp [entryFrame, mkF, argsToLocals, Value.category]; done) | rfl
def Q_own_i1 (Z : State) (a1 : Addr) (p1 : Int32) (n : Nat) (h0 : Heap) (n0 : Nat) (v : Option Value) (h : Heap) (L : List Loc) : Prop := v = none ∧ Fr n0 L ∧ ∃ (ac : Addr) (kc : ClassId), (n0 ≤ ac ∧ a1 < ac ∧ h0.size ≤ ac) ∧ Keep h0 h [a1] ∧ Exa Z h a1 "com/example/factwell/factwell/pql/Rows" ∧ Fld Z h a1 "com/example/factwell/factwell/pql/Rows" "width" "I" (.int p1) ∧ Fld Z h a1 "com/example/factwell/factwell/pql/Rows" "cells" "[I" (.ref ac) ∧ Fld Z h a1 "com/example/factwell/factwell/pql/Rows" "count" "I" (.int (0 : Int32)) ∧ Arf Z h ac kc .int n (fun _ => Value.int 0)
set_option maxRecDepth 65536 in
set_option maxHeartbeats 40000000 in
theorem own_i1 (l : Launch) (Z : State) (a0 : Array Value) (hw : ∀ d ∈ tables_1, d.before a0 Z = true) (ws : List Jvm.Cond) (a1 : Addr) (p1 : Int32) (n : Nat) (h0 : Heap) (n0 : Nat) (Z0 : n0 ≤ h0.size) (hneg : ¬ (p1 * (8 : Int32)) < 0) (hcap : (p1 * (8 : Int32)).toNatClampNeg ≤ 24) (hz : (p1 * (8 : Int32)).toNatClampNeg = n) (E_ : Exa Z h0 a1 "com/example/factwell/factwell/pql/Rows") (F_w : Fld Z h0 a1 "com/example/factwell/factwell/pql/Rows" "width" "I" (.int (0 : Int32))) (F_m : Fld Z h0 a1 "com/example/factwell/factwell/pql/Rows" "mayRepeat" "Z" (.int (0 : Int32))) (F_c : Fld Z h0 a1 "com/example/factwell/factwell/pql/Rows" "cells" "[I" .null) (F_n : Fld Z h0 a1 "com/example/factwell/factwell/pql/Rows" "count" "I" (.int (0 : Int32))) (g_a1 : n0 ≤ a1) :
    MetFree l (⟨"com/example/factwell/factwell/pql/Rows", "<init>", "(I)V"⟩ : MethodName) (head1 (Jvm.Cond.code (⟨"com/example/factwell/factwell/pql/Rows", "<init>", "(I)V"⟩ : MethodName) prog_58_method_1_code 2 none :: ws) ({ frames := 2, cells := 1, slots := 24, locals := 27 } : Room)) (fun a U => a = #[(.ref a1), (.int p1)] ∧ Z.Warmed39 U.vm ∧ U.heap = h0) (fun _ _ _ _ _ => True) (fun _ U o U' => ∃ v L, o = .returned v ∧ Q_own_i1 Z a1 p1 n h0 n0 v U'.heap L ∧ FrameEnd U o U' L ({ frames := 2, cells := 1, slots := 24, locals := 27 } : Room).cells ({ frames := 2, cells := 1, slots := 24, locals := 27 } : Room).slots) := by
  refine MetFree.of_bodySF (plainFor_of_name pn_own_i1) hisR ?_
  intro p e s m args below meth c s₁ Bd hml0 hP hK
  obtain ⟨rfl, hZ, hh⟩ := hP
  have hx := Bd.exec
  have hby := Bd.bytes
  have hml : c.maxLocals = 2 := hml0
  have hown : s.vm.findClass "com/example/factwell/factwell/pql/Rows" = some m.cls := findClass_of_methodNamed Bd.named
  have hnm := (name_of_methodNamed Bd.named Bd.method).1
  have X0 : Stand p l e ({ frames := 2, cells := 1, slots := 24, locals := 27 } : Room) s m #[(.ref a1), (.int p1)] below meth c s₁ [] 0 0 := Stand.of_body Bd
  have e0 : s₁.heap = h0 := by rw [← hh, Bd.state]; rfl
  have N0 := Fr.nil n0
  have pre0 : ∀ t, Steps p.tables e below (s₁.setTop (mkF m 0 #[.val (.ref a1), .val (.int p1)] [])) t → Steps p.tables e below (s₁.setTop (entryFrame m #[(.ref a1), (.int p1)] 2)) t := fun t k => castTop (ef_own_i1 m (a1) (p1)) k
  obtain ⟨_, _, ⟨T6, L6, k6, n6⟩, -, X6, ⟨Lc6, hQ6, l6, y6, z6⟩, st6⟩ := X0.specialBack hx (y := (⟨"com/example/factwell/factwell/pql/Rows", "<init>", "(IIZ)V"⟩ : MethodName)) rfl hown (mvT hZ (hw _ (List.mem_of_getElem? (i := 7) rfl))) (mvT hZ (hw _ (List.mem_of_getElem? (i := 8) rfl))) (mvT hZ (hw _ (List.mem_of_getElem? (i := 9) rfl))) (by decide) (backOf (W := 0) (own_i3 l Z a0 hw [] a1 p1 (8 : Int32) (1 : Int32) n h0 n0 Z0 hneg hcap hz E_ F_w F_m F_c F_n g_a1) hZ (hw _ (List.mem_of_getElem? (i := 9) rfl)) (hw _ (List.mem_of_getElem? (i := 3) rfl)) (by decide) (by decide)) (g := (mkF m 5 #[.val (.ref a1), .val (.int p1)] [(.int (1 : Int32)), (.int (8 : Int32)), (.int p1), (.ref a1)])) rfl (by rw [hml]; rfl) (Steps.refl _) (a := a1) (argsL := [(.int p1), (.int (8 : Int32)), (.int (1 : Int32))]) (rest := []) (lenOf pd_0 rfl) rfl (by show 2 * 0 + _ ≤ _; exact Nat.le_of_eq rfl) (hb hby d1_5) (fun _ _ => ⟨rfl, e0, (by decide : 0 + 1 ≤ _), (by decide : 0 + 24 ≤ _)⟩)
  dsimp only [Pt.U, Pt.locs, Pt.cells, Pt.slots] at X6 l6 y6 z6 st6 hQ6
  subst l6 y6 z6
  obtain ⟨rfl, N6q, R6⟩ := hQ6
  have N6 := Fr.app N0 N6q
  obtain ⟨fs, hr, hrun, hended, hW, hsame⟩ := X6.leave (v := none) (fun _ => rfl)
  refine ⟨_, _, pre0 _ ?_, hrun, hended, _, _, rfl, ?_, ⟨_, rfl⟩, hW, hsame.mono (by decide) (by decide)⟩
  · show Steps p.tables e below (s₁.setTop (mkF m 0 #[.val (.ref a1), .val (.int p1)] [])) _
    refine XS.aloadN X0.here hx rfl (hb hby d1_0) rfl rfl ?_
    show Steps p.tables e below (s₁.setTop (mkF m 1 #[.val (.ref a1), .val (.int p1)] [(.ref a1)])) _
    refine XS.iloadN X0.here hx rfl (hb hby d1_1) rfl ?_
    show Steps p.tables e below (s₁.setTop (mkF m 2 #[.val (.ref a1), .val (.int p1)] [(.int p1), (.ref a1)])) _
    refine XS.bipush X0.here hx rfl (hb hby d1_2) ?_
    show Steps p.tables e below (s₁.setTop (mkF m 4 #[.val (.ref a1), .val (.int p1)] [(.int (8 : Int32)), (.int p1), (.ref a1)])) _
    refine XS.iconst X0.here hx rfl (hb hby d1_4) ?_
    show Steps p.tables e below (s₁.setTop (mkF m 5 #[.val (.ref a1), .val (.int p1)] [(.int (1 : Int32)), (.int (8 : Int32)), (.int p1), (.ref a1)])) _
    refine st6.trans ?_
    show Steps p.tables e below (T6.setTop (mkF m 8 #[.val (.ref a1), .val (.int p1)] [])) _
    exact X6.returnOut hx Bd.returns (hb hby d1_8) hr
  · show Q_own_i1 Z a1 p1 n h0 n0 _ T6.heap _
    exact ⟨rfl, N6, R6⟩
theorem d4_0 : decode prog_58_method_6_code 0 = .ok (.aload_n 0, 1) := by decide +kernel
theorem d4_1 : decode prog_58_method_6_code 1 = .ok (.getfield 26, 3) := by decide +kernel
theorem d4_4 : decode prog_58_method_6_code 4 = .ok (.iconst 1, 1) := by decide +kernel
theorem d4_5 : decode prog_58_method_6_code 5 = .ok (.iadd, 1) := by decide +kernel
theorem d4_6 : decode prog_58_method_6_code 6 = .ok (.i2l, 1) := by decide +kernel
theorem d4_7 : decode prog_58_method_6_code 7 = .ok (.aload_n 0, 1) := by decide +kernel
theorem d4_8 : decode prog_58_method_6_code 8 = .ok (.getfield 14, 3) := by decide +kernel
theorem d4_11 : decode prog_58_method_6_code 11 = .ok (.i2l, 1) := by decide +kernel
theorem d4_12 : decode prog_58_method_6_code 12 = .ok (.lmul, 1) := by decide +kernel
theorem d4_13 : decode prog_58_method_6_code 13 = .ok (.aload_n 0, 1) := by decide +kernel
theorem d4_14 : decode prog_58_method_6_code 14 = .ok (.getfield 22, 3) := by decide +kernel
theorem d4_17 : decode prog_58_method_6_code 17 = .ok (.arraylength, 1) := by decide +kernel
theorem d4_18 : decode prog_58_method_6_code 18 = .ok (.i2l, 1) := by decide +kernel
theorem d4_19 : decode prog_58_method_6_code 19 = .ok (.lcmp, 1) := by decide +kernel
theorem d4_20 : decode prog_58_method_6_code 20 = .ok (.ifCond .le 7, 3) := by decide +kernel
theorem d4_27 : decode prog_58_method_6_code 27 = .ok (.aload_n 1, 1) := by decide +kernel
theorem d4_28 : decode prog_58_method_6_code 28 = .ok (.iconst 0, 1) := by decide +kernel
theorem d4_29 : decode prog_58_method_6_code 29 = .ok (.aload_n 0, 1) := by decide +kernel
theorem d4_30 : decode prog_58_method_6_code 30 = .ok (.getfield 22, 3) := by decide +kernel
theorem d4_33 : decode prog_58_method_6_code 33 = .ok (.aload_n 0, 1) := by decide +kernel
theorem d4_34 : decode prog_58_method_6_code 34 = .ok (.getfield 26, 3) := by decide +kernel
theorem d4_37 : decode prog_58_method_6_code 37 = .ok (.aload_n 0, 1) := by decide +kernel
theorem d4_38 : decode prog_58_method_6_code 38 = .ok (.getfield 14, 3) := by decide +kernel
theorem d4_41 : decode prog_58_method_6_code 41 = .ok (.imul, 1) := by decide +kernel
theorem d4_42 : decode prog_58_method_6_code 42 = .ok (.aload_n 0, 1) := by decide +kernel
theorem d4_43 : decode prog_58_method_6_code 43 = .ok (.getfield 14, 3) := by decide +kernel
theorem d4_46 : decode prog_58_method_6_code 46 = .ok (.invokestatic 32, 3) := by decide +kernel
theorem d4_49 : decode prog_58_method_6_code 49 = .ok (.aload_n 0, 1) := by decide +kernel
theorem d4_50 : decode prog_58_method_6_code 50 = .ok (.dup, 1) := by decide +kernel
theorem d4_51 : decode prog_58_method_6_code 51 = .ok (.getfield 26, 3) := by decide +kernel
theorem d4_54 : decode prog_58_method_6_code 54 = .ok (.iconst 1, 1) := by decide +kernel
theorem d4_55 : decode prog_58_method_6_code 55 = .ok (.iadd, 1) := by decide +kernel
theorem d4_56 : decode prog_58_method_6_code 56 = .ok (.putfield 26, 3) := by decide +kernel
theorem d4_59 : decode prog_58_method_6_code 59 = .ok (.return_, 1) := by decide +kernel
theorem pn_own_add : plainName "com/example/factwell/factwell/pql/Rows" = true := by first | (simp [plainName, overriddenIn]; done) | decide +kernel
theorem own_room : ∀ (k : Fin 3) (w : Fin 4), ¬ ((8 * w.val).toInt32.toInt64 < ((k.val.toInt32 + (1 : Int32)).toInt64 * w.val.toInt32.toInt64)) := by decide +kernel
theorem own_at : ∀ (k : Fin 3) (w : Fin 4), ¬ (k.val.toInt32 * w.val.toInt32) < 0 ∧ (k.val.toInt32 * w.val.toInt32).toNatClampNeg = k.val * w.val := by decide +kernel
theorem own_wix (w : Fin 4) : ¬ w.val.toInt32 < 0 ∧ w.val.toInt32.toNatClampNeg = w.val := own_ix (by have := w.isLt; omega)
theorem own_fit : ∀ (k : Fin 3) (w : Fin 4), k.val * w.val + w.val ≤ 8 * w.val := by decide +kernel
theorem ef_own_add (m : MethodId) (x0 : Addr) (x1 : Addr) : entryFrame m #[(.ref x0), (.ref x1)] 2 = mkF m 0 #[.val (.ref x0), .val (.ref x1)] [] := by first | (simp [entryFrame, mkF, argsToLocals, Value.category]; done) | rfl
def Q_own_add (Z : State) (a1 : Addr) (a2 : Addr) (k : Fin 3) (w : Fin 4) (ac : Addr) (kc : ClassId) (ka : ClassId) (fc : Nat → Value) (fa : Nat → Value) (h0 : Heap) (n0 : Nat) (v : Option Value) (h : Heap) (L : List Loc) : Prop := v = none ∧ Fr n0 L ∧ Keep h0 h [a1, ac] ∧ Exa Z h a1 "com/example/factwell/factwell/pql/Rows" ∧ Fld Z h a1 "com/example/factwell/factwell/pql/Rows" "width" "I" (.int w.val.toInt32) ∧ Fld Z h a1 "com/example/factwell/factwell/pql/Rows" "cells" "[I" (.ref ac) ∧ Fld Z h a1 "com/example/factwell/factwell/pql/Rows" "count" "I" (.int (k.val.toInt32 + (1 : Int32))) ∧ Arf Z h ac kc .int (8 * w.val) (fun j => if (k.val * w.val) ≤ j ∧ j < (k.val * w.val) + w.val then fa (0 + (j - (k.val * w.val))) else fc j)
set_option maxRecDepth 65536 in
set_option maxHeartbeats 40000000 in
theorem own_add (l : Launch) (Z : State) (a0 : Array Value) (hw : ∀ d ∈ tables_1, d.before a0 Z = true) (ws : List Jvm.Cond) (a1 : Addr) (a2 : Addr) (k : Fin 3) (w : Fin 4) (ac : Addr) (kc : ClassId) (ka : ClassId) (fc : Nat → Value) (fa : Nat → Value) (h0 : Heap) (n0 : Nat) (Z0 : n0 ≤ h0.size) (g_a1 : n0 ≤ a1) (g_ac : n0 ≤ ac) (l1 : a1 < ac) (ne_a : a2 ≠ ac) (ne_b : a2 ≠ a1) (E_ : Exa Z h0 a1 "com/example/factwell/factwell/pql/Rows") (F_w : Fld Z h0 a1 "com/example/factwell/factwell/pql/Rows" "width" "I" (.int w.val.toInt32)) (F_c : Fld Z h0 a1 "com/example/factwell/factwell/pql/Rows" "cells" "[I" (.ref ac)) (F_n : Fld Z h0 a1 "com/example/factwell/factwell/pql/Rows" "count" "I" (.int k.val.toInt32)) (V_c : Arf Z h0 ac kc .int (8 * w.val) fc) (V_a : Arf Z h0 a2 ka .int 3 fa) :
    MetFree l (⟨"com/example/factwell/factwell/pql/Rows", "add", "([I)V"⟩ : MethodName) (head1 (Jvm.Cond.code (⟨"com/example/factwell/factwell/pql/Rows", "add", "([I)V"⟩ : MethodName) prog_58_method_6_code 2 none :: ws) ({ frames := 1, cells := 0, slots := 0, locals := 40 } : Room)) (fun a U => a = #[(.ref a1), (.ref a2)] ∧ Z.Warmed39 U.vm ∧ U.heap = h0) (fun _ _ _ _ _ => True) (fun _ U o U' => ∃ v L, o = .returned v ∧ Q_own_add Z a1 a2 k w ac kc ka fc fa h0 n0 v U'.heap L ∧ FrameEnd U o U' L ({ frames := 1, cells := 0, slots := 0, locals := 40 } : Room).cells ({ frames := 1, cells := 0, slots := 0, locals := 40 } : Room).slots) := by
  refine MetFree.of_bodySF (plainFor_of_name pn_own_add) hisR ?_
  intro p e s m args below meth c s₁ Bd hml0 hP hK
  obtain ⟨rfl, hZ, hh⟩ := hP
  have hx := Bd.exec
  have hby := Bd.bytes
  have hml : c.maxLocals = 2 := hml0
  have hown : s.vm.findClass "com/example/factwell/factwell/pql/Rows" = some m.cls := findClass_of_methodNamed Bd.named
  have hnm := (name_of_methodNamed Bd.named Bd.method).1
  have X0 : Stand p l e ({ frames := 1, cells := 0, slots := 0, locals := 40 } : Room) s m #[(.ref a1), (.ref a2)] below meth c s₁ [] 0 0 := Stand.of_body Bd
  have e0 : s₁.heap = h0 := by rw [← hh, Bd.state]; rfl
  have N0 := Fr.nil n0
  have pre0 : ∀ t, Steps p.tables e below (s₁.setTop (mkF m 0 #[.val (.ref a1), .val (.ref a2)] [])) t → Steps p.tables e below (s₁.setTop (entryFrame m #[(.ref a1), (.ref a2)] 2)) t := fun t k => castTop (ef_own_add m (a1) (a2)) k
  obtain ⟨T7, X7, e7, st7⟩ := getF X0 hx hZ hown (host := "") (Or.inl (hw _ (List.mem_of_getElem? (i := 24) rfl))) Via.refl e0 F_n (g := (mkF m 1 #[.val (.ref a1), .val (.ref a2)] [(.ref a1)])) rfl rfl (hb hby d4_1)
  obtain ⟨T8, X8, e8, st8⟩ := getF X7 hx hZ hown (host := "") (Or.inl (hw _ (List.mem_of_getElem? (i := 13) rfl))) Via.refl e7 F_w (g := (mkF m 8 #[.val (.ref a1), .val (.ref a2)] [(.ref a1), (.long (k.val.toInt32 + (1 : Int32)).toInt64)])) rfl rfl (hb hby d4_8)
  obtain ⟨T9, X9, e9, st9⟩ := getF X8 hx hZ hown (host := "") (Or.inl (hw _ (List.mem_of_getElem? (i := 17) rfl))) Via.refl e8 F_c (g := (mkF m 14 #[.val (.ref a1), .val (.ref a2)] [(.ref a1), (.long ((k.val.toInt32 + (1 : Int32)).toInt64 * w.val.toInt32.toInt64))])) rfl rfl (hb hby d4_14)
  obtain ⟨cl10, Ar10, qk10, S10, B10, H10, G10⟩ := id V_c
  obtain ⟨T11, X11, e11, st11⟩ := getF X9 hx hZ hown (host := "") (Or.inl (hw _ (List.mem_of_getElem? (i := 17) rfl))) Via.refl e9 F_c (g := (mkF m 30 #[.val (.ref a1), .val (.ref a2)] [(.ref a1), (.int (0 : Int32)), (.ref a2)])) rfl rfl (hb hby d4_30)
  obtain ⟨T12, X12, e12, st12⟩ := getF X11 hx hZ hown (host := "") (Or.inl (hw _ (List.mem_of_getElem? (i := 24) rfl))) Via.refl e11 F_n (g := (mkF m 34 #[.val (.ref a1), .val (.ref a2)] [(.ref a1), (.ref ac), (.int (0 : Int32)), (.ref a2)])) rfl rfl (hb hby d4_34)
  obtain ⟨T13, X13, e13, st13⟩ := getF X12 hx hZ hown (host := "") (Or.inl (hw _ (List.mem_of_getElem? (i := 13) rfl))) Via.refl e12 F_w (g := (mkF m 38 #[.val (.ref a1), .val (.ref a2)] [(.ref a1), (.int k.val.toInt32), (.ref ac), (.int (0 : Int32)), (.ref a2)])) rfl rfl (hb hby d4_38)
  obtain ⟨T14, X14, e14, st14⟩ := getF X13 hx hZ hown (host := "") (Or.inl (hw _ (List.mem_of_getElem? (i := 13) rfl))) Via.refl e13 F_w (g := (mkF m 43 #[.val (.ref a1), .val (.ref a2)] [(.ref a1), (.int (k.val.toInt32 * w.val.toInt32)), (.ref ac), (.int (0 : Int32)), (.ref a2)])) rfl rfl (hb hby d4_43)
  obtain ⟨T15, h15, L15, X15, e15, N15, Kc15, V15, st15⟩ := own_cp X14 hx hZ hown (hw _ (List.mem_of_getElem? (i := 26) rfl)) (hw _ (List.mem_of_getElem? (i := 29) rfl)) (hw _ (List.mem_of_getElem? (i := 27) rfl)) (hw _ (List.mem_of_getElem? (i := 28) rfl)) e14 V_a V_c (i1 := 0) (i2 := k.val * w.val) (i3 := w.val) rfl ⟨by decide, rfl⟩ (own_at k w) (own_wix w) (by have := w.isLt; omega) (own_fit k w) N0 g_ac (g := (mkF m 46 #[.val (.ref a1), .val (.ref a2)] [(.int w.val.toInt32), (.int (k.val.toInt32 * w.val.toInt32)), (.ref ac), (.int (0 : Int32)), (.ref a2)])) rfl (by rw [hml]; rfl) rfl (hb hby d4_46) (by decide) (W := 0) (by show 2 * 0 + _ ≤ _; exact Nat.le_of_eq rfl) (by decide)
  have K15 : Keep h0 h15 [a1, ac] := (Keep.refl h0 [a1, ac]).trans Kc15 (allS (Or.inl (List.mem_of_getElem? (i := 1) rfl)) all0)
  obtain ⟨T16, X16, e16, st16⟩ := getF X15 hx hZ hown (host := "") (Or.inl (hw _ (List.mem_of_getElem? (i := 24) rfl))) Via.refl e15 (F_n.keep Kc15 (ninS (Nat.ne_of_lt l1) nin0)) (g := (mkF m 51 #[.val (.ref a1), .val (.ref a2)] [(.ref a1), (.ref a1)])) rfl rfl (hb hby d4_51)
  obtain ⟨T17, h17, X17, e17, W17, st17⟩ := putF X16 hx hZ hown (host := "") (Or.inl (hw _ (List.mem_of_getElem? (i := 24) rfl))) Via.refl e16 (F_n.keep Kc15 (ninS (Nat.ne_of_lt l1) nin0)) (E_.keep Kc15) (Or.inl (hw _ (List.mem_of_getElem? (i := 25) rfl))) (hw _ (List.mem_of_getElem? (i := 2) rfl)) (ty := .int) (by decide) rfl rfl (g := (mkF m 56 #[.val (.ref a1), .val (.ref a2)] [(.int (k.val.toInt32 + (1 : Int32))), (.ref a1)])) rfl rfl (hb hby d4_56)
  have Fw17 := (F_n.keep Kc15 (ninS (Nat.ne_of_lt l1) nin0)).same W17
  have N17 := Fr.snoc X17 N15 g_a1
  have K17 : Keep h0 h17 [a1, ac] := K15.wr W17 (Or.inl (List.mem_of_getElem? (i := 0) rfl))
  obtain ⟨fs, hr, hrun, hended, hW, hsame⟩ := X17.leave (v := none) (fun _ => rfl)
  refine ⟨_, _, pre0 _ ?_, hrun, hended, _, _, rfl, ?_, ⟨_, rfl⟩, hW, hsame.mono (by decide) (by decide)⟩
  · show Steps p.tables e below (s₁.setTop (mkF m 0 #[.val (.ref a1), .val (.ref a2)] [])) _
    refine XS.aloadN X0.here hx rfl (hb hby d4_0) rfl rfl ?_
    show Steps p.tables e below (s₁.setTop (mkF m 1 #[.val (.ref a1), .val (.ref a2)] [(.ref a1)])) _
    refine st7 _ ?_
    show Steps p.tables e below (T7.setTop (mkF m 4 #[.val (.ref a1), .val (.ref a2)] [(.int k.val.toInt32)])) _
    refine XS.iconst X7.here hx rfl (hb hby d4_4) ?_
    show Steps p.tables e below (T7.setTop (mkF m 5 #[.val (.ref a1), .val (.ref a2)] [(.int (1 : Int32)), (.int k.val.toInt32)])) _
    refine XS.iadd X7.here hx rfl (hb hby d4_5) rfl ?_
    show Steps p.tables e below (T7.setTop (mkF m 6 #[.val (.ref a1), .val (.ref a2)] [(.int (k.val.toInt32 + (1 : Int32)))])) _
    refine XT.i2l X7.here hx rfl (hb hby d4_6) rfl ?_
    show Steps p.tables e below (T7.setTop (mkF m 7 #[.val (.ref a1), .val (.ref a2)] [(.long (k.val.toInt32 + (1 : Int32)).toInt64)])) _
    refine XS.aloadN X7.here hx rfl (hb hby d4_7) rfl rfl ?_
    show Steps p.tables e below (T7.setTop (mkF m 8 #[.val (.ref a1), .val (.ref a2)] [(.ref a1), (.long (k.val.toInt32 + (1 : Int32)).toInt64)])) _
    refine st8 _ ?_
    show Steps p.tables e below (T8.setTop (mkF m 11 #[.val (.ref a1), .val (.ref a2)] [(.int w.val.toInt32), (.long (k.val.toInt32 + (1 : Int32)).toInt64)])) _
    refine XT.i2l X8.here hx rfl (hb hby d4_11) rfl ?_
    show Steps p.tables e below (T8.setTop (mkF m 12 #[.val (.ref a1), .val (.ref a2)] [(.long w.val.toInt32.toInt64), (.long (k.val.toInt32 + (1 : Int32)).toInt64)])) _
    refine XT.lmul X8.here hx rfl (hb hby d4_12) rfl ?_
    show Steps p.tables e below (T8.setTop (mkF m 13 #[.val (.ref a1), .val (.ref a2)] [(.long ((k.val.toInt32 + (1 : Int32)).toInt64 * w.val.toInt32.toInt64))])) _
    refine XS.aloadN X8.here hx rfl (hb hby d4_13) rfl rfl ?_
    show Steps p.tables e below (T8.setTop (mkF m 14 #[.val (.ref a1), .val (.ref a2)] [(.ref a1), (.long ((k.val.toInt32 + (1 : Int32)).toInt64 * w.val.toInt32.toInt64))])) _
    refine st9 _ ?_
    show Steps p.tables e below (T9.setTop (mkF m 17 #[.val (.ref a1), .val (.ref a2)] [(.ref ac), (.long ((k.val.toInt32 + (1 : Int32)).toInt64 * w.val.toInt32.toInt64))])) _
    refine X9.arraylength hx (by rw [e9]; exact Ar10.1) (State.isArrayOf_alike hZ.alike Ar10.2.1) (g := (mkF m 17 #[.val (.ref a1), .val (.ref a2)] [(.ref ac), (.long ((k.val.toInt32 + (1 : Int32)).toInt64 * w.val.toInt32.toInt64))])) rfl rfl (hb hby d4_17) _ ?_
    rw [S10]
    show Steps p.tables e below (T9.setTop (mkF m 18 #[.val (.ref a1), .val (.ref a2)] [(.int ((8 * w.val)).toInt32), (.long ((k.val.toInt32 + (1 : Int32)).toInt64 * w.val.toInt32.toInt64))])) _
    refine XT.i2l X9.here hx rfl (hb hby d4_18) rfl ?_
    show Steps p.tables e below (T9.setTop (mkF m 19 #[.val (.ref a1), .val (.ref a2)] [(.long ((8 * w.val)).toInt32.toInt64), (.long ((k.val.toInt32 + (1 : Int32)).toInt64 * w.val.toInt32.toInt64))])) _
    refine XT.lcmp X9.here hx rfl (hb hby d4_19) rfl ?_
    show Steps p.tables e below (T9.setTop (mkF m 20 #[.val (.ref a1), .val (.ref a2)] [(.int (XT.cmpL ((k.val.toInt32 + (1 : Int32)).toInt64 * w.val.toInt32.toInt64) ((8 * w.val)).toInt32.toInt64))])) _
    refine XS.ifYes X9.here hx rfl (pc0 := 20) (pc' := 27) rfl (hb hby d4_20) rfl (XT.ll_le_t (own_room k w)) (by decide) (by decide) ?_
    show Steps p.tables e below (T9.setTop (mkF m 27 #[.val (.ref a1), .val (.ref a2)] [])) _
    refine XS.aloadN X9.here hx rfl (hb hby d4_27) rfl rfl ?_
    show Steps p.tables e below (T9.setTop (mkF m 28 #[.val (.ref a1), .val (.ref a2)] [(.ref a2)])) _
    refine XS.iconst X9.here hx rfl (hb hby d4_28) ?_
    show Steps p.tables e below (T9.setTop (mkF m 29 #[.val (.ref a1), .val (.ref a2)] [(.int (0 : Int32)), (.ref a2)])) _
    refine XS.aloadN X9.here hx rfl (hb hby d4_29) rfl rfl ?_
    show Steps p.tables e below (T9.setTop (mkF m 30 #[.val (.ref a1), .val (.ref a2)] [(.ref a1), (.int (0 : Int32)), (.ref a2)])) _
    refine st11 _ ?_
    show Steps p.tables e below (T11.setTop (mkF m 33 #[.val (.ref a1), .val (.ref a2)] [(.ref ac), (.int (0 : Int32)), (.ref a2)])) _
    refine XS.aloadN X11.here hx rfl (hb hby d4_33) rfl rfl ?_
    show Steps p.tables e below (T11.setTop (mkF m 34 #[.val (.ref a1), .val (.ref a2)] [(.ref a1), (.ref ac), (.int (0 : Int32)), (.ref a2)])) _
    refine st12 _ ?_
    show Steps p.tables e below (T12.setTop (mkF m 37 #[.val (.ref a1), .val (.ref a2)] [(.int k.val.toInt32), (.ref ac), (.int (0 : Int32)), (.ref a2)])) _
    refine XS.aloadN X12.here hx rfl (hb hby d4_37) rfl rfl ?_
    show Steps p.tables e below (T12.setTop (mkF m 38 #[.val (.ref a1), .val (.ref a2)] [(.ref a1), (.int k.val.toInt32), (.ref ac), (.int (0 : Int32)), (.ref a2)])) _
    refine st13 _ ?_
    show Steps p.tables e below (T13.setTop (mkF m 41 #[.val (.ref a1), .val (.ref a2)] [(.int w.val.toInt32), (.int k.val.toInt32), (.ref ac), (.int (0 : Int32)), (.ref a2)])) _
    refine XS.imul X13.here hx rfl (hb hby d4_41) rfl ?_
    show Steps p.tables e below (T13.setTop (mkF m 42 #[.val (.ref a1), .val (.ref a2)] [(.int (k.val.toInt32 * w.val.toInt32)), (.ref ac), (.int (0 : Int32)), (.ref a2)])) _
    refine XS.aloadN X13.here hx rfl (hb hby d4_42) rfl rfl ?_
    show Steps p.tables e below (T13.setTop (mkF m 43 #[.val (.ref a1), .val (.ref a2)] [(.ref a1), (.int (k.val.toInt32 * w.val.toInt32)), (.ref ac), (.int (0 : Int32)), (.ref a2)])) _
    refine st14 _ ?_
    show Steps p.tables e below (T14.setTop (mkF m 46 #[.val (.ref a1), .val (.ref a2)] [(.int w.val.toInt32), (.int (k.val.toInt32 * w.val.toInt32)), (.ref ac), (.int (0 : Int32)), (.ref a2)])) _
    refine st15 _ ?_
    show Steps p.tables e below (T15.setTop (mkF m 49 #[.val (.ref a1), .val (.ref a2)] [])) _
    refine XS.aloadN X15.here hx rfl (hb hby d4_49) rfl rfl ?_
    show Steps p.tables e below (T15.setTop (mkF m 50 #[.val (.ref a1), .val (.ref a2)] [(.ref a1)])) _
    refine XS.dup X15.here hx rfl (hb hby d4_50) rfl rfl ?_
    show Steps p.tables e below (T15.setTop (mkF m 51 #[.val (.ref a1), .val (.ref a2)] [(.ref a1), (.ref a1)])) _
    refine st16 _ ?_
    show Steps p.tables e below (T16.setTop (mkF m 54 #[.val (.ref a1), .val (.ref a2)] [(.int k.val.toInt32), (.ref a1)])) _
    refine XS.iconst X16.here hx rfl (hb hby d4_54) ?_
    show Steps p.tables e below (T16.setTop (mkF m 55 #[.val (.ref a1), .val (.ref a2)] [(.int (1 : Int32)), (.int k.val.toInt32), (.ref a1)])) _
    refine XS.iadd X16.here hx rfl (hb hby d4_55) rfl ?_
    show Steps p.tables e below (T16.setTop (mkF m 56 #[.val (.ref a1), .val (.ref a2)] [(.int (k.val.toInt32 + (1 : Int32))), (.ref a1)])) _
    refine st17 _ ?_
    show Steps p.tables e below (T17.setTop (mkF m 59 #[.val (.ref a1), .val (.ref a2)] [])) _
    exact X17.returnOut hx Bd.returns (hb hby d4_59) hr
  · show Q_own_add Z a1 a2 k w ac kc ka fc fa h0 n0 _ T17.heap _
    rw [e17]
    exact ⟨rfl, N17, K17, ((E_.keep Kc15).wr W17), ((F_w.keep Kc15 (ninS (Nat.ne_of_lt l1) nin0)).other W17 (Or.inr (slot_ne (Or.inr (hw _ (List.mem_of_getElem? (i := 14) rfl))) (Or.inl (hw _ (List.mem_of_getElem? (i := 25) rfl))) (by decide) (t := .int) (t' := .int) (by decide) (by decide)))), ((F_c.keep Kc15 (ninS (Nat.ne_of_lt l1) nin0)).other W17 (Or.inr (slot_ne (Or.inl (hw _ (List.mem_of_getElem? (i := 18) rfl))) (Or.inl (hw _ (List.mem_of_getElem? (i := 25) rfl))) (by decide) (t := (.array .int)) (t' := .int) (by decide) (by decide)))), Fw17, (V15.other W17 (Ne.symm (Nat.ne_of_lt l1)))⟩
theorem d5_0 : decode prog_58_method_5_code 0 = .ok (.aload_n 0, 1) := by decide +kernel
theorem d5_1 : decode prog_58_method_5_code 1 = .ok (.getfield 22, 3) := by decide +kernel
theorem d5_4 : decode prog_58_method_5_code 4 = .ok (.iload_n 1, 1) := by decide +kernel
theorem d5_5 : decode prog_58_method_5_code 5 = .ok (.aload_n 0, 1) := by decide +kernel
theorem d5_6 : decode prog_58_method_5_code 6 = .ok (.getfield 14, 3) := by decide +kernel
theorem d5_9 : decode prog_58_method_5_code 9 = .ok (.imul, 1) := by decide +kernel
theorem d5_10 : decode prog_58_method_5_code 10 = .ok (.iload_n 2, 1) := by decide +kernel
theorem d5_11 : decode prog_58_method_5_code 11 = .ok (.iadd, 1) := by decide +kernel
theorem d5_12 : decode prog_58_method_5_code 12 = .ok (.iaload, 1) := by decide +kernel
theorem d5_13 : decode prog_58_method_5_code 13 = .ok (.ireturn, 1) := by decide +kernel
theorem pn_own_get : plainName "com/example/factwell/factwell/pql/Rows" = true := by first | (simp [plainName, overriddenIn]; done) | decide +kernel
theorem ef_own_get (m : MethodId) (x0 : Addr) (x1 : Int32) (x2 : Int32) : entryFrame m #[(.ref x0), (.int x1), (.int x2)] 3 = mkF m 0 #[.val (.ref x0), .val (.int x1), .val (.int x2)] [] := by first | (simp [entryFrame, mkF, argsToLocals, Value.category]; done) | rfl
def Q_own_get (Z : State) (a1 : Addr) (p1 : Int32) (p2 : Int32) (x : Int32) (i : Nat) (w : Fin 4) (ac : Addr) (kc : ClassId) (fc : Nat → Value) (h0 : Heap) (n0 : Nat) (v : Option Value) (h : Heap) (L : List Loc) : Prop := v = some (.int x) ∧ Fr n0 L ∧ h = h0
set_option maxRecDepth 65536 in
set_option maxHeartbeats 40000000 in
theorem own_get (l : Launch) (Z : State) (a0 : Array Value) (hw : ∀ d ∈ tables_1, d.before a0 Z = true) (ws : List Jvm.Cond) (a1 : Addr) (p1 : Int32) (p2 : Int32) (x : Int32) (i : Nat) (w : Fin 4) (ac : Addr) (kc : ClassId) (fc : Nat → Value) (h0 : Heap) (n0 : Nat) (Z0 : n0 ≤ h0.size) (hix : ¬ ((p1 * w.val.toInt32) + p2) < 0 ∧ ((p1 * w.val.toInt32) + p2).toNatClampNeg = i) (hi : i < 8 * w.val) (hv_ : fc i = .int x) (F_w : Fld Z h0 a1 "com/example/factwell/factwell/pql/Rows" "width" "I" (.int w.val.toInt32)) (F_c : Fld Z h0 a1 "com/example/factwell/factwell/pql/Rows" "cells" "[I" (.ref ac)) (V_c : Arf Z h0 ac kc .int (8 * w.val) fc) :
    MetFree l (⟨"com/example/factwell/factwell/pql/Rows", "get", "(II)I"⟩ : MethodName) (head1 (Jvm.Cond.code (⟨"com/example/factwell/factwell/pql/Rows", "get", "(II)I"⟩ : MethodName) prog_58_method_5_code 3 (some .int) :: ws) ({ frames := 0, cells := 0, slots := 0, locals := 0 } : Room)) (fun a U => a = #[(.ref a1), (.int p1), (.int p2)] ∧ Z.Warmed39 U.vm ∧ U.heap = h0) (fun _ _ _ _ _ => True) (fun _ U o U' => ∃ v L, o = .returned v ∧ Q_own_get Z a1 p1 p2 x i w ac kc fc h0 n0 v U'.heap L ∧ FrameEnd U o U' L ({ frames := 0, cells := 0, slots := 0, locals := 0 } : Room).cells ({ frames := 0, cells := 0, slots := 0, locals := 0 } : Room).slots) := by
  refine MetFree.of_bodySF (plainFor_of_name pn_own_get) hisR ?_
  intro p e s m args below meth c s₁ Bd hml0 hP hK
  obtain ⟨rfl, hZ, hh⟩ := hP
  have hx := Bd.exec
  have hby := Bd.bytes
  have hml : c.maxLocals = 3 := hml0
  have hown : s.vm.findClass "com/example/factwell/factwell/pql/Rows" = some m.cls := findClass_of_methodNamed Bd.named
  have hnm := (name_of_methodNamed Bd.named Bd.method).1
  have X0 : Stand p l e ({ frames := 0, cells := 0, slots := 0, locals := 0 } : Room) s m #[(.ref a1), (.int p1), (.int p2)] below meth c s₁ [] 0 0 := Stand.of_body Bd
  have e0 : s₁.heap = h0 := by rw [← hh, Bd.state]; rfl
  have N0 := Fr.nil n0
  have pre0 : ∀ t, Steps p.tables e below (s₁.setTop (mkF m 0 #[.val (.ref a1), .val (.int p1), .val (.int p2)] [])) t → Steps p.tables e below (s₁.setTop (entryFrame m #[(.ref a1), (.int p1), (.int p2)] 3)) t := fun t k => castTop (ef_own_get m (a1) (p1) (p2)) k
  obtain ⟨T18, X18, e18, st18⟩ := getF X0 hx hZ hown (host := "") (Or.inl (hw _ (List.mem_of_getElem? (i := 17) rfl))) Via.refl e0 F_c (g := (mkF m 1 #[.val (.ref a1), .val (.int p1), .val (.int p2)] [(.ref a1)])) rfl rfl (hb hby d5_1)
  obtain ⟨T19, X19, e19, st19⟩ := getF X18 hx hZ hown (host := "") (Or.inl (hw _ (List.mem_of_getElem? (i := 13) rfl))) Via.refl e18 F_w (g := (mkF m 6 #[.val (.ref a1), .val (.int p1), .val (.int p2)] [(.ref a1), (.int p1), (.ref ac)])) rfl rfl (hb hby d5_6)
  obtain ⟨cl20, Ar20, qk20, S20, B20, H20, G20⟩ := id V_c
  have hin20 : ¬ (((p1 * w.val.toInt32) + p2) < 0 ∨ cl20.slots.size ≤ (((p1 * w.val.toInt32) + p2)).toNatClampNeg) := own_inb S20 hix hi
  have hat20 : cl20.slots[(((p1 * w.val.toInt32) + p2)).toNatClampNeg]? = some (.int x) := own_hat H20 hix hi hv_
  obtain ⟨fs, hr, hrun, hended, hW, hsame⟩ := X19.leave (v := some (.int x)) (fun h => by rw [Bd.returns] at h; cases h)
  refine ⟨_, _, pre0 _ ?_, hrun, hended, _, _, rfl, ?_, ⟨_, rfl⟩, hW, hsame.mono (by decide) (by decide)⟩
  · show Steps p.tables e below (s₁.setTop (mkF m 0 #[.val (.ref a1), .val (.int p1), .val (.int p2)] [])) _
    refine XS.aloadN X0.here hx rfl (hb hby d5_0) rfl rfl ?_
    show Steps p.tables e below (s₁.setTop (mkF m 1 #[.val (.ref a1), .val (.int p1), .val (.int p2)] [(.ref a1)])) _
    refine st18 _ ?_
    show Steps p.tables e below (T18.setTop (mkF m 4 #[.val (.ref a1), .val (.int p1), .val (.int p2)] [(.ref ac)])) _
    refine XS.iloadN X18.here hx rfl (hb hby d5_4) rfl ?_
    show Steps p.tables e below (T18.setTop (mkF m 5 #[.val (.ref a1), .val (.int p1), .val (.int p2)] [(.int p1), (.ref ac)])) _
    refine XS.aloadN X18.here hx rfl (hb hby d5_5) rfl rfl ?_
    show Steps p.tables e below (T18.setTop (mkF m 6 #[.val (.ref a1), .val (.int p1), .val (.int p2)] [(.ref a1), (.int p1), (.ref ac)])) _
    refine st19 _ ?_
    show Steps p.tables e below (T19.setTop (mkF m 9 #[.val (.ref a1), .val (.int p1), .val (.int p2)] [(.int w.val.toInt32), (.int p1), (.ref ac)])) _
    refine XS.imul X19.here hx rfl (hb hby d5_9) rfl ?_
    show Steps p.tables e below (T19.setTop (mkF m 10 #[.val (.ref a1), .val (.int p1), .val (.int p2)] [(.int (p1 * w.val.toInt32)), (.ref ac)])) _
    refine XS.iloadN X19.here hx rfl (hb hby d5_10) rfl ?_
    show Steps p.tables e below (T19.setTop (mkF m 11 #[.val (.ref a1), .val (.int p1), .val (.int p2)] [(.int p2), (.int (p1 * w.val.toInt32)), (.ref ac)])) _
    refine XS.iadd X19.here hx rfl (hb hby d5_11) rfl ?_
    show Steps p.tables e below (T19.setTop (mkF m 12 #[.val (.ref a1), .val (.int p1), .val (.int p2)] [(.int ((p1 * w.val.toInt32) + p2)), (.ref ac)])) _
    refine X19.iaload hx (j := ((p1 * w.val.toInt32) + p2)) (v := (.int x)) (by rw [e19]; exact Ar20.1) (State.isArrayOf_alike hZ.alike Ar20.2.1) Ar20.2.2 hin20 hat20 (g := (mkF m 12 #[.val (.ref a1), .val (.int p1), .val (.int p2)] [(.int ((p1 * w.val.toInt32) + p2)), (.ref ac)])) rfl rfl (hb hby d5_12) _ ?_
    show Steps p.tables e below (T19.setTop (mkF m 13 #[.val (.ref a1), .val (.int p1), .val (.int p2)] [(.int x)])) _
    exact retI X19 hx Bd.returns (hb hby d5_13) hr
  · show Q_own_get Z a1 p1 p2 x i w ac kc fc h0 n0 _ T19.heap _
    rw [e19]
    exact ⟨rfl, N0, rfl⟩
def own_x (f : Nat → Value) (c : Nat) : Int32 := match f c with | .int x => x | _ => 0
theorem own_gix : ∀ (r : Fin 3) (w : Fin 4) (cc : Fin 3), ¬ ((r.val.toInt32 * w.val.toInt32) + cc.val.toInt32) < 0 ∧ ((r.val.toInt32 * w.val.toInt32) + cc.val.toInt32).toNatClampNeg = r.val * w.val + cc.val := by decide +kernel
theorem own_cix (cc : Fin 3) : ¬ cc.val.toInt32 < 0 ∧ cc.val.toInt32.toNatClampNeg = cc.val := own_ix (by have := cc.isLt; omega)
theorem own_three {f : Nat → Value} {x y z : Int32} (h0 : f 0 = .int x) (h1 : f 1 = .int y) (h2 : f 2 = .int z) (cc : Fin 3) : f cc.val = .int (own_x f cc.val) := by
  match cc with
  | ⟨0, _⟩ => simp only [own_x, h0]
  | ⟨1, _⟩ => simp only [own_x, h1]
  | ⟨2, _⟩ => simp only [own_x, h2]
theorem own_neg : ∀ w : Fin 4, ¬ (w.val.toInt32 * (8 : Int32)) < 0 := by decide +kernel
theorem own_cap : ∀ w : Fin 4, (w.val.toInt32 * (8 : Int32)).toNatClampNeg ≤ 24 := by decide +kernel
theorem own_z : ∀ w : Fin 4, (w.val.toInt32 * (8 : Int32)).toNatClampNeg = 8 * w.val := by decide +kernel
theorem own_wne : ∀ w : Fin 4, 1 ≤ w.val → w.val.toInt32 ≠ 0 := by decide +kernel
theorem own_lt (r : Nat) (w : Fin 4) (cc : Fin 3) (h : cc.val < w.val) (hr : r < 3) : r * w.val + cc.val < 8 * w.val := by
  have : r * w.val ≤ 2 * w.val := Nat.mul_le_mul_right _ (by omega)
  omega
theorem pn_own_law_1_0 : plainName "com/example/factwell/factwell/pql/RowsGetPinLaw" = true := by first | (simp [plainName, overriddenIn]; done) | decide +kernel
theorem ef_own_law_1_0 (m : MethodId) (x0 : Int32) (x1 : Int32) (x2 : Int32) (x3 : Int32) (x4 : Int32) (x5 : Int32) : entryFrame m #[(.int x0), (.int x1), (.int x2), (.int x3), (.int x4), (.int x5)] maxLocals = mkF m 0 #[.val (.int x0), .val (.int x1), .val (.int x2), .val (.int x3), .val (.int x4), .val (.int x5), .unset, .unset, .unset, .unset, .unset, .unset, .unset, .unset, .unset] [] := by first | (simp [entryFrame, mkF, argsToLocals, Value.category, maxLocals]; done) | rfl
def Q_own_law_1_0 (Z : State) (p0 : Int32) (p1 : Int32) (p2 : Int32) (p3 : Int32) (p4 : Int32) (p5 : Int32) (w : Fin 4) (cc : Fin 3) (h0 : Heap) (n0 : Nat) (v : Option Value) (h : Heap) (L : List Loc) : Prop := v = some (.int 1) ∧ Fr n0 L
set_option maxRecDepth 65536 in
set_option maxHeartbeats 40000000 in
theorem own_law_1_0 (l : Launch) (Z : State) (a0 : Array Value) (hw : ∀ d ∈ tables_1, d.before a0 Z = true) (ws : List Jvm.Cond) (p0 : Int32) (p1 : Int32) (p2 : Int32) (p3 : Int32) (p4 : Int32) (p5 : Int32) (w : Fin 4) (cc : Fin 3) (h0 : Heap) (n0 : Nat) (Z0 : n0 ≤ h0.size) (hW_ : ((1 : Int32) + ((p5 &&& (15 : Int32)) % (3 : Int32))) = w.val.toInt32) (hN_ : ((1 : Int32) + (((XT.ushr p5 (4 : Int32)) &&& (15 : Int32)) % (3 : Int32))) = (1 : Int32)) (hR_ : (((XT.ushr p5 (8 : Int32)) &&& (15 : Int32)) % (1 : Int32)) = (0 : Int32)) (hC_ : (((XT.ushr p5 (12 : Int32)) &&& (15 : Int32)) % w.val.toInt32) = cc.val.toInt32) (hw1 : 1 ≤ w.val) (hcw : cc.val < w.val) :
    MetFree l x (head1 (Jvm.Cond.code x code maxLocals ret :: ws) room_1) (fun a U => a = #[(.int p0), (.int p1), (.int p2), (.int p3), (.int p4), (.int p5)] ∧ Z.Warmed39 U.vm ∧ U.heap = h0) (fun _ _ _ _ _ => True) (fun _ U o U' => ∃ v L, o = .returned v ∧ Q_own_law_1_0 Z p0 p1 p2 p3 p4 p5 w cc h0 n0 v U'.heap L ∧ FrameEnd U o U' L 24 192) := by
  refine MetFree.of_bodySF (plainFor_of_name pn_own_law_1_0) hisR ?_
  intro p e s m args below meth c s₁ Bd hml0 hP hK
  obtain ⟨rfl, hZ, hh⟩ := hP
  have hx := Bd.exec
  have hby := Bd.bytes
  have hml : c.maxLocals = 15 := hml0
  have hown : s.vm.findClass "com/example/factwell/factwell/pql/RowsGetPinLaw" = some m.cls := findClass_of_methodNamed Bd.named
  have hnm := (name_of_methodNamed Bd.named Bd.method).1
  have X0 : Stand p l e room_1 s m #[(.int p0), (.int p1), (.int p2), (.int p3), (.int p4), (.int p5)] below meth c s₁ [] 0 0 := Stand.of_body Bd
  have e0 : s₁.heap = h0 := by rw [← hh, Bd.state]; rfl
  have N0 := Fr.nil n0
  have pre0 : ∀ t, Steps p.tables e below (s₁.setTop (mkF m 0 #[.val (.int p0), .val (.int p1), .val (.int p2), .val (.int p3), .val (.int p4), .val (.int p5), .unset, .unset, .unset, .unset, .unset, .unset, .unset, .unset, .unset] [])) t → Steps p.tables e below (s₁.setTop (entryFrame m #[(.int p0), (.int p1), (.int p2), (.int p3), (.int p4), (.int p5)] maxLocals)) t := fun t k => castTop (ef_own_law_1_0 m (p0) (p1) (p2) (p3) (p4) (p5)) k
  obtain ⟨T21, h21, k21, X21, e21, E21, A21, st21⟩ := newP X0 hx hZ (hw _ (List.mem_of_getElem? (i := 0) rfl)) e0 (g := (mkF m 51 #[.val (.int p0), .val (.int p1), .val (.int p2), .val (.int p3), .val (.int p4), .val (.int p5), .val (.int w.val.toInt32), .val (.int (1 : Int32)), .val (.int (0 : Int32)), .val (.int cc.val.toInt32), .unset, .unset, .unset, .unset, .unset] [(.int (3 : Int32))])) rfl (hb hby at_51) rfl (by decide) (cap := 3) (by decide) (by decide) (by decide) (by decide)
  obtain ⟨b21, g21⟩ : ∃ z, z = h0.size := ⟨_, rfl⟩
  rw [← g21] at A21 st21
  have g_b21 : n0 ≤ b21 := Nat.le_trans Z0 (Nat.le_of_eq g21.symm)
  have V21 := Arf.new (n := 3) A21 (by decide) rfl
  obtain ⟨cl22, Ar22, qk22, S22, B22, H22, G22⟩ := id V21
  have hin22 : ¬ ((0 : Int32) < 0 ∨ cl22.slots.size ≤ ((0 : Int32)).toNatClampNeg) := own_inb S22 ⟨by decide, rfl⟩ (by decide)
  obtain ⟨T22, h22, X22, e22, W22, st22⟩ := stI X21 hx hZ e21 Ar22 (j := (0 : Int32)) hin22 (g := (mkF m 56 #[.val (.int p0), .val (.int p1), .val (.int p2), .val (.int p3), .val (.int p4), .val (.int p5), .val (.int w.val.toInt32), .val (.int (1 : Int32)), .val (.int (0 : Int32)), .val (.int cc.val.toInt32), .unset, .unset, .unset, .unset, .unset] [(.int p0), (.int (0 : Int32)), (.ref b21), (.ref b21)])) rfl rfl (hb hby at_56)
  have V22 := own_set Ar22 qk22 S22 B22 H22 G22 rfl ⟨by decide, rfl⟩ W22
  have N22 := Fr.snoc X22 N0 g_b21
  obtain ⟨cl23, Ar23, qk23, S23, B23, H23, G23⟩ := id V22
  have hin23 : ¬ ((1 : Int32) < 0 ∨ cl23.slots.size ≤ ((1 : Int32)).toNatClampNeg) := own_inb S23 ⟨by decide, rfl⟩ (by decide)
  obtain ⟨T23, h23, X23, e23, W23, st23⟩ := stI X22 hx hZ e22 Ar23 (j := (1 : Int32)) hin23 (g := (mkF m 60 #[.val (.int p0), .val (.int p1), .val (.int p2), .val (.int p3), .val (.int p4), .val (.int p5), .val (.int w.val.toInt32), .val (.int (1 : Int32)), .val (.int (0 : Int32)), .val (.int cc.val.toInt32), .unset, .unset, .unset, .unset, .unset] [(.int p1), (.int (1 : Int32)), (.ref b21), (.ref b21)])) rfl rfl (hb hby at_60)
  have V23 := own_set Ar23 qk23 S23 B23 H23 G23 rfl ⟨by decide, rfl⟩ W23
  have N23 := Fr.snoc X23 N22 g_b21
  obtain ⟨cl24, Ar24, qk24, S24, B24, H24, G24⟩ := id V23
  have hin24 : ¬ ((2 : Int32) < 0 ∨ cl24.slots.size ≤ ((2 : Int32)).toNatClampNeg) := own_inb S24 ⟨by decide, rfl⟩ (by decide)
  obtain ⟨T24, h24, X24, e24, W24, st24⟩ := stI X23 hx hZ e23 Ar24 (j := (2 : Int32)) hin24 (g := (mkF m 64 #[.val (.int p0), .val (.int p1), .val (.int p2), .val (.int p3), .val (.int p4), .val (.int p5), .val (.int w.val.toInt32), .val (.int (1 : Int32)), .val (.int (0 : Int32)), .val (.int cc.val.toInt32), .unset, .unset, .unset, .unset, .unset] [(.int p2), (.int (2 : Int32)), (.ref b21), (.ref b21)])) rfl rfl (hb hby at_64)
  have V24 := own_set Ar24 qk24 S24 B24 H24 G24 rfl ⟨by decide, rfl⟩ W24
  have N24 := Fr.snoc X24 N23 g_b21
  obtain ⟨T25, h25, k25, X25, e25, E25, A25, st25⟩ := newP X24 hx hZ (hw _ (List.mem_of_getElem? (i := 0) rfl)) e24 (g := (mkF m 68 #[.val (.int p0), .val (.int p1), .val (.int p2), .val (.int p3), .val (.int p4), .val (.int p5), .val (.int w.val.toInt32), .val (.int (1 : Int32)), .val (.int (0 : Int32)), .val (.int cc.val.toInt32), .val (.ref b21), .unset, .unset, .unset, .unset] [(.int (3 : Int32))])) rfl (hb hby at_68) rfl (by decide) (cap := 3) (by decide) (by decide) (by decide) (by decide)
  obtain ⟨b25, g25⟩ : ∃ z, z = h24.size := ⟨_, rfl⟩
  rw [← g25] at A25 st25
  have g_b25 : n0 ≤ b25 := Nat.le_trans (Nat.le_trans (Nat.le_trans (Nat.le_trans (Nat.le_trans Z0 E21.1) (Keep.of_wr W22).1) (Keep.of_wr W23).1) (Keep.of_wr W24).1) (Nat.le_of_eq g25.symm)
  have lt_b21_b25 : b21 < b25 := Nat.lt_of_lt_of_eq V24.lt g25.symm
  have V25 := Arf.new (n := 3) A25 (by decide) rfl
  obtain ⟨cl26, Ar26, qk26, S26, B26, H26, G26⟩ := id V25
  have hin26 : ¬ ((0 : Int32) < 0 ∨ cl26.slots.size ≤ ((0 : Int32)).toNatClampNeg) := own_inb S26 ⟨by decide, rfl⟩ (by decide)
  obtain ⟨T26, h26, X26, e26, W26, st26⟩ := stI X25 hx hZ e25 Ar26 (j := (0 : Int32)) hin26 (g := (mkF m 73 #[.val (.int p0), .val (.int p1), .val (.int p2), .val (.int p3), .val (.int p4), .val (.int p5), .val (.int w.val.toInt32), .val (.int (1 : Int32)), .val (.int (0 : Int32)), .val (.int cc.val.toInt32), .val (.ref b21), .unset, .unset, .unset, .unset] [(.int p3), (.int (0 : Int32)), (.ref b25), (.ref b25)])) rfl rfl (hb hby at_73)
  have V26 := own_set Ar26 qk26 S26 B26 H26 G26 rfl ⟨by decide, rfl⟩ W26
  have N26 := Fr.snoc X26 N24 g_b25
  obtain ⟨cl27, Ar27, qk27, S27, B27, H27, G27⟩ := id V26
  have hin27 : ¬ ((1 : Int32) < 0 ∨ cl27.slots.size ≤ ((1 : Int32)).toNatClampNeg) := own_inb S27 ⟨by decide, rfl⟩ (by decide)
  obtain ⟨T27, h27, X27, e27, W27, st27⟩ := stI X26 hx hZ e26 Ar27 (j := (1 : Int32)) hin27 (g := (mkF m 78 #[.val (.int p0), .val (.int p1), .val (.int p2), .val (.int p3), .val (.int p4), .val (.int p5), .val (.int w.val.toInt32), .val (.int (1 : Int32)), .val (.int (0 : Int32)), .val (.int cc.val.toInt32), .val (.ref b21), .unset, .unset, .unset, .unset] [(.int p4), (.int (1 : Int32)), (.ref b25), (.ref b25)])) rfl rfl (hb hby at_78)
  have V27 := own_set Ar27 qk27 S27 B27 H27 G27 rfl ⟨by decide, rfl⟩ W27
  have N27 := Fr.snoc X27 N26 g_b25
  obtain ⟨cl28, Ar28, qk28, S28, B28, H28, G28⟩ := id V27
  have hin28 : ¬ ((2 : Int32) < 0 ∨ cl28.slots.size ≤ ((2 : Int32)).toNatClampNeg) := own_inb S28 ⟨by decide, rfl⟩ (by decide)
  obtain ⟨T28, h28, X28, e28, W28, st28⟩ := stI X27 hx hZ e27 Ar28 (j := (2 : Int32)) hin28 (g := (mkF m 84 #[.val (.int p0), .val (.int p1), .val (.int p2), .val (.int p3), .val (.int p4), .val (.int p5), .val (.int w.val.toInt32), .val (.int (1 : Int32)), .val (.int (0 : Int32)), .val (.int cc.val.toInt32), .val (.ref b21), .unset, .unset, .unset, .unset] [(.int (p0 ^^^ (-1 : Int32))), (.int (2 : Int32)), (.ref b25), (.ref b25)])) rfl rfl (hb hby at_84)
  have V28 := own_set Ar28 qk28 S28 B28 H28 G28 rfl ⟨by decide, rfl⟩ W28
  have N28 := Fr.snoc X28 N27 g_b25
  obtain ⟨T29, h29, k29, X29, e29, E29, A29, st29⟩ := newP X28 hx hZ (hw _ (List.mem_of_getElem? (i := 0) rfl)) e28 (g := (mkF m 88 #[.val (.int p0), .val (.int p1), .val (.int p2), .val (.int p3), .val (.int p4), .val (.int p5), .val (.int w.val.toInt32), .val (.int (1 : Int32)), .val (.int (0 : Int32)), .val (.int cc.val.toInt32), .val (.ref b21), .val (.ref b25), .unset, .unset, .unset] [(.int (3 : Int32))])) rfl (hb hby at_88) rfl (by decide) (cap := 3) (by decide) (by decide) (by decide) (by decide)
  obtain ⟨b29, g29⟩ : ∃ z, z = h28.size := ⟨_, rfl⟩
  rw [← g29] at A29 st29
  have g_b29 : n0 ≤ b29 := Nat.le_trans (Nat.le_trans (Nat.le_trans (Nat.le_trans (Nat.le_trans (Nat.le_trans (Nat.le_trans (Nat.le_trans (Nat.le_trans Z0 E21.1) (Keep.of_wr W22).1) (Keep.of_wr W23).1) (Keep.of_wr W24).1) E25.1) (Keep.of_wr W26).1) (Keep.of_wr W27).1) (Keep.of_wr W28).1) (Nat.le_of_eq g29.symm)
  have lt_b21_b29 : b21 < b29 := Nat.lt_of_lt_of_eq ((((V24.ext E25).other W26 (Nat.ne_of_lt lt_b21_b25)).other W27 (Nat.ne_of_lt lt_b21_b25)).other W28 (Nat.ne_of_lt lt_b21_b25)).lt g29.symm
  have lt_b25_b29 : b25 < b29 := Nat.lt_of_lt_of_eq V28.lt g29.symm
  have V29 := Arf.new (n := 3) A29 (by decide) rfl
  obtain ⟨cl30, Ar30, qk30, S30, B30, H30, G30⟩ := id V29
  have hin30 : ¬ ((0 : Int32) < 0 ∨ cl30.slots.size ≤ ((0 : Int32)).toNatClampNeg) := own_inb S30 ⟨by decide, rfl⟩ (by decide)
  obtain ⟨T30, h30, X30, e30, W30, st30⟩ := stI X29 hx hZ e29 Ar30 (j := (0 : Int32)) hin30 (g := (mkF m 95 #[.val (.int p0), .val (.int p1), .val (.int p2), .val (.int p3), .val (.int p4), .val (.int p5), .val (.int w.val.toInt32), .val (.int (1 : Int32)), .val (.int (0 : Int32)), .val (.int cc.val.toInt32), .val (.ref b21), .val (.ref b25), .unset, .unset, .unset] [(.int (p1 ^^^ (-1 : Int32))), (.int (0 : Int32)), (.ref b29), (.ref b29)])) rfl rfl (hb hby at_95)
  have V30 := own_set Ar30 qk30 S30 B30 H30 G30 rfl ⟨by decide, rfl⟩ W30
  have N30 := Fr.snoc X30 N28 g_b29
  obtain ⟨cl31, Ar31, qk31, S31, B31, H31, G31⟩ := id V30
  have hin31 : ¬ ((1 : Int32) < 0 ∨ cl31.slots.size ≤ ((1 : Int32)).toNatClampNeg) := own_inb S31 ⟨by decide, rfl⟩ (by decide)
  obtain ⟨T31, h31, X31, e31, W31, st31⟩ := stI X30 hx hZ e30 Ar31 (j := (1 : Int32)) hin31 (g := (mkF m 101 #[.val (.int p0), .val (.int p1), .val (.int p2), .val (.int p3), .val (.int p4), .val (.int p5), .val (.int w.val.toInt32), .val (.int (1 : Int32)), .val (.int (0 : Int32)), .val (.int cc.val.toInt32), .val (.ref b21), .val (.ref b25), .unset, .unset, .unset] [(.int (p2 ^^^ (-1 : Int32))), (.int (1 : Int32)), (.ref b29), (.ref b29)])) rfl rfl (hb hby at_101)
  have V31 := own_set Ar31 qk31 S31 B31 H31 G31 rfl ⟨by decide, rfl⟩ W31
  have N31 := Fr.snoc X31 N30 g_b29
  obtain ⟨cl32, Ar32, qk32, S32, B32, H32, G32⟩ := id V31
  have hin32 : ¬ ((2 : Int32) < 0 ∨ cl32.slots.size ≤ ((2 : Int32)).toNatClampNeg) := own_inb S32 ⟨by decide, rfl⟩ (by decide)
  obtain ⟨T32, h32, X32, e32, W32, st32⟩ := stI X31 hx hZ e31 Ar32 (j := (2 : Int32)) hin32 (g := (mkF m 107 #[.val (.int p0), .val (.int p1), .val (.int p2), .val (.int p3), .val (.int p4), .val (.int p5), .val (.int w.val.toInt32), .val (.int (1 : Int32)), .val (.int (0 : Int32)), .val (.int cc.val.toInt32), .val (.ref b21), .val (.ref b25), .unset, .unset, .unset] [(.int (p3 ^^^ (-1 : Int32))), (.int (2 : Int32)), (.ref b29), (.ref b29)])) rfl rfl (hb hby at_107)
  have V32 := own_set Ar32 qk32 S32 B32 H32 G32 rfl ⟨by decide, rfl⟩ W32
  have N32 := Fr.snoc X32 N31 g_b29
  obtain ⟨T33, h33, X33, e33, E33, A33, D33, -, st33⟩ := newO X32 hx hZ hown (hw _ (List.mem_of_getElem? (i := 1) rfl)) (hw _ (List.mem_of_getElem? (i := 2) rfl)) (hw _ (List.mem_of_getElem? (i := 3) rfl)) e32 (g := (mkF m 110 #[.val (.int p0), .val (.int p1), .val (.int p2), .val (.int p3), .val (.int p4), .val (.int p5), .val (.int w.val.toInt32), .val (.int (1 : Int32)), .val (.int (0 : Int32)), .val (.int cc.val.toInt32), .val (.ref b21), .val (.ref b25), .val (.ref b29), .unset, .unset] [])) rfl (hb hby at_110) (by decide) (by decide)
  obtain ⟨b33, g33⟩ : ∃ z, z = h32.size := ⟨_, rfl⟩
  rw [← g33] at A33 D33 st33
  have g_b33 : n0 ≤ b33 := Nat.le_trans (Nat.le_trans (Nat.le_trans (Nat.le_trans (Nat.le_trans (Nat.le_trans (Nat.le_trans (Nat.le_trans (Nat.le_trans (Nat.le_trans (Nat.le_trans (Nat.le_trans (Nat.le_trans Z0 E21.1) (Keep.of_wr W22).1) (Keep.of_wr W23).1) (Keep.of_wr W24).1) E25.1) (Keep.of_wr W26).1) (Keep.of_wr W27).1) (Keep.of_wr W28).1) E29.1) (Keep.of_wr W30).1) (Keep.of_wr W31).1) (Keep.of_wr W32).1) (Nat.le_of_eq g33.symm)
  have lt_b21_b33 : b21 < b33 := Nat.lt_of_lt_of_eq ((((((((V24.ext E25).other W26 (Nat.ne_of_lt lt_b21_b25)).other W27 (Nat.ne_of_lt lt_b21_b25)).other W28 (Nat.ne_of_lt lt_b21_b25)).ext E29).other W30 (Nat.ne_of_lt lt_b21_b29)).other W31 (Nat.ne_of_lt lt_b21_b29)).other W32 (Nat.ne_of_lt lt_b21_b29)).lt g33.symm
  have lt_b25_b33 : b25 < b33 := Nat.lt_of_lt_of_eq ((((V28.ext E29).other W30 (Nat.ne_of_lt lt_b25_b29)).other W31 (Nat.ne_of_lt lt_b25_b29)).other W32 (Nat.ne_of_lt lt_b25_b29)).lt g33.symm
  have lt_b29_b33 : b29 < b33 := Nat.lt_of_lt_of_eq V32.lt g33.symm
  have F33_width : Fld Z h33 b33 "com/example/factwell/factwell/pql/Rows" "width" "I" (.int (0 : Int32)) := D33 (Or.inr (hw _ (List.mem_of_getElem? (i := 14) rfl))) (ty := .int) (by decide)
  have F33_mayRepeat : Fld Z h33 b33 "com/example/factwell/factwell/pql/Rows" "mayRepeat" "Z" (.int (0 : Int32)) := D33 (Or.inr (hw _ (List.mem_of_getElem? (i := 16) rfl))) (ty := .boolean) (by decide)
  have F33_cells : Fld Z h33 b33 "com/example/factwell/factwell/pql/Rows" "cells" "[I" .null := D33 (Or.inl (hw _ (List.mem_of_getElem? (i := 18) rfl))) (ty := (.array .int)) (by decide)
  have F33_count : Fld Z h33 b33 "com/example/factwell/factwell/pql/Rows" "count" "I" (.int (0 : Int32)) := D33 (Or.inl (hw _ (List.mem_of_getElem? (i := 25) rfl))) (ty := .int) (by decide)
  obtain ⟨_, _, ⟨T34, L34, k34, n34⟩, -, X34, ⟨Lc34, hQ34, l34, y34, z34⟩, st34⟩ := X33.specialBack hx (y := (⟨"com/example/factwell/factwell/pql/Rows", "<init>", "(I)V"⟩ : MethodName)) rfl hown (mvT hZ (hw _ (List.mem_of_getElem? (i := 4) rfl))) (mvT hZ (hw _ (List.mem_of_getElem? (i := 5) rfl))) (mvT hZ (hw _ (List.mem_of_getElem? (i := 6) rfl))) (by decide) (backOf (W := 1) (own_i1 l Z a0 hw [] b33 w.val.toInt32 (8 * w.val) h33 n0 (Nat.le_trans (Nat.le_trans (Nat.le_trans (Nat.le_trans (Nat.le_trans (Nat.le_trans (Nat.le_trans (Nat.le_trans (Nat.le_trans (Nat.le_trans (Nat.le_trans (Nat.le_trans (Nat.le_trans Z0 E21.1) (Keep.of_wr W22).1) (Keep.of_wr W23).1) (Keep.of_wr W24).1) E25.1) (Keep.of_wr W26).1) (Keep.of_wr W27).1) (Keep.of_wr W28).1) E29.1) (Keep.of_wr W30).1) (Keep.of_wr W31).1) (Keep.of_wr W32).1) E33.1) (own_neg w) (own_cap w) (own_z w) A33 F33_width F33_mayRepeat F33_cells F33_count g_b33) hZ (hw _ (List.mem_of_getElem? (i := 6) rfl)) (hw _ (List.mem_of_getElem? (i := 3) rfl)) (by decide) (by decide)) (g := (mkF m 116 #[.val (.int p0), .val (.int p1), .val (.int p2), .val (.int p3), .val (.int p4), .val (.int p5), .val (.int w.val.toInt32), .val (.int (1 : Int32)), .val (.int (0 : Int32)), .val (.int cc.val.toInt32), .val (.ref b21), .val (.ref b25), .val (.ref b29), .unset, .unset] [(.int w.val.toInt32), (.ref b33), (.ref b33)])) rfl (by rw [hml]; rfl) (Steps.refl _) (a := b33) (argsL := [(.int w.val.toInt32)]) (rest := [(.ref b33)]) (lenOf pd_1 rfl) rfl (by show 2 * 0 + _ ≤ _; exact Nat.le_of_eq rfl) (hb hby at_116) (fun _ _ => ⟨rfl, e33, (by decide : 4 + 1 ≤ _), (by decide : 13 + 24 ≤ _)⟩)
  dsimp only [Pt.U, Pt.locs, Pt.cells, Pt.slots] at X34 l34 y34 z34 st34 hQ34
  subst l34 y34 z34
  obtain ⟨rfl, N34q, ac, kc, ⟨g_ac, l1, gh⟩, K34, E_, F_w, F_c, F_n, V_c⟩ := hQ34
  have N34 := Fr.app N32 N34q
  have lt_b33_ac : ∀ x, x < h33.size → x < ac := fun x q => Nat.lt_of_lt_of_le q gh
  obtain ⟨cq35, kq35, q35a, q35b, q35c⟩ := isOf hZ rfl E_
  obtain ⟨_, _, ⟨T35, L35, k35, n35⟩, -, X35, ⟨Lc35, hQ35, l35, y35, z35⟩, st35⟩ := X34.virtualBack hx (y := (⟨"com/example/factwell/factwell/pql/Rows", "add", "([I)V"⟩ : MethodName)) (z := (⟨"com/example/factwell/factwell/pql/Rows", "add", "([I)V"⟩ : MethodName)) hown (mvT hZ (hw _ (List.mem_of_getElem? (i := 19) rfl))) (mvT hZ (hw _ (List.mem_of_getElem? (i := 20) rfl))) (notFace_of_selects (args := #[]) (mvT hZ (hw _ (List.mem_of_getElem? (i := 22) rfl)))) (mvT hZ (hw _ (List.mem_of_getElem? (i := 22) rfl))) (mvT hZ (hw _ (List.mem_of_getElem? (i := 21) rfl))) (by decide) (backOf (W := 0) (own_add l Z a0 hw [] b33 b21 0 w ac kc k21 (fun _ => Value.int 0) (upd (upd (upd (fun _ => (.int 0)) 0 (.int p0)) 1 (.int p1)) 2 (.int p2)) T34.heap n0 (Nat.le_trans (Nat.le_trans (Nat.le_trans (Nat.le_trans (Nat.le_trans (Nat.le_trans (Nat.le_trans (Nat.le_trans (Nat.le_trans (Nat.le_trans (Nat.le_trans (Nat.le_trans (Nat.le_trans (Nat.le_trans Z0 E21.1) (Keep.of_wr W22).1) (Keep.of_wr W23).1) (Keep.of_wr W24).1) E25.1) (Keep.of_wr W26).1) (Keep.of_wr W27).1) (Keep.of_wr W28).1) E29.1) (Keep.of_wr W30).1) (Keep.of_wr W31).1) (Keep.of_wr W32).1) E33.1) K34.1) g_b33 g_ac l1 (Nat.ne_of_lt (lt_b33_ac _ (((((((((V24.ext E25).other W26 (Nat.ne_of_lt lt_b21_b25)).other W27 (Nat.ne_of_lt lt_b21_b25)).other W28 (Nat.ne_of_lt lt_b21_b25)).ext E29).other W30 (Nat.ne_of_lt lt_b21_b29)).other W31 (Nat.ne_of_lt lt_b21_b29)).other W32 (Nat.ne_of_lt lt_b21_b29)).ext E33).lt)) (Nat.ne_of_lt lt_b21_b33) E_ F_w F_c F_n V_c ((((((((((V24.ext E25).other W26 (Nat.ne_of_lt lt_b21_b25)).other W27 (Nat.ne_of_lt lt_b21_b25)).other W28 (Nat.ne_of_lt lt_b21_b25)).ext E29).other W30 (Nat.ne_of_lt lt_b21_b29)).other W31 (Nat.ne_of_lt lt_b21_b29)).other W32 (Nat.ne_of_lt lt_b21_b29)).ext E33).keep K34 (ninS (Nat.ne_of_lt lt_b21_b33) nin0))) hZ (hw _ (List.mem_of_getElem? (i := 23) rfl)) (hw _ (List.mem_of_getElem? (i := 3) rfl)) (by decide) (by decide)) q35a q35c (g := (mkF m 125 #[.val (.int p0), .val (.int p1), .val (.int p2), .val (.int p3), .val (.int p4), .val (.int p5), .val (.int w.val.toInt32), .val (.int (1 : Int32)), .val (.int (0 : Int32)), .val (.int cc.val.toInt32), .val (.ref b21), .val (.ref b25), .val (.ref b29), .val (.ref b33), .unset] [(.ref b21), (.ref b33)])) rfl (by rw [hml]; rfl) (Steps.refl _) (argsL := [(.ref b21)]) (rest := []) (lenOf pd_2 rfl) rfl (by show 2 * 0 + _ ≤ _; exact Nat.le_of_eq rfl) (hb hby at_125) (fun _ _ => ⟨rfl, rfl, (by decide : 5 + 0 ≤ _), (by decide : 37 + 0 ≤ _)⟩)
  dsimp only [Pt.U, Pt.locs, Pt.cells, Pt.slots] at X35 l35 y35 z35 st35 hQ35
  subst l35 y35 z35
  obtain ⟨rfl, N35q, K35, E_0, F_w0, F_c0, F_n0, V_c0⟩ := hQ35
  have N35 := Fr.app N34 N35q
  obtain ⟨cl36, Ar36, qk36, S36, B36, H36, G36⟩ := id (((((((((((V24.ext E25).other W26 (Nat.ne_of_lt lt_b21_b25)).other W27 (Nat.ne_of_lt lt_b21_b25)).other W28 (Nat.ne_of_lt lt_b21_b25)).ext E29).other W30 (Nat.ne_of_lt lt_b21_b29)).other W31 (Nat.ne_of_lt lt_b21_b29)).other W32 (Nat.ne_of_lt lt_b21_b29)).ext E33).keep K34 (ninS (Nat.ne_of_lt lt_b21_b33) nin0)).keep K35 (ninS (Nat.ne_of_lt lt_b21_b33) (ninS (Nat.ne_of_lt (lt_b33_ac _ (((((((((V24.ext E25).other W26 (Nat.ne_of_lt lt_b21_b25)).other W27 (Nat.ne_of_lt lt_b21_b25)).other W28 (Nat.ne_of_lt lt_b21_b25)).ext E29).other W30 (Nat.ne_of_lt lt_b21_b29)).other W31 (Nat.ne_of_lt lt_b21_b29)).other W32 (Nat.ne_of_lt lt_b21_b29)).ext E33).lt)) nin0)))
  have hin36 : ¬ (cc.val.toInt32 < 0 ∨ cl36.slots.size ≤ (cc.val.toInt32).toNatClampNeg) := own_inb S36 (own_cix cc) cc.isLt
  have hat36 : cl36.slots[(cc.val.toInt32).toNatClampNeg]? = some (.int (own_x (upd (upd (upd (fun _ => (.int 0)) 0 (.int p0)) 1 (.int p1)) 2 (.int p2)) cc.val)) := own_hat H36 (own_cix cc) cc.isLt (own_three rfl rfl rfl cc)
  have hv_ : (fun j => if (0 * w.val) ≤ j ∧ j < (0 * w.val) + w.val then (upd (upd (upd (fun _ => (.int 0)) 0 (.int p0)) 1 (.int p1)) 2 (.int p2)) (0 + (j - (0 * w.val))) else (fun _ => Value.int 0) j) (0 * w.val + cc.val) = .int (own_x (upd (upd (upd (fun _ => (.int 0)) 0 (.int p0)) 1 (.int p1)) 2 (.int p2)) cc.val) := by
    rw [← own_three (x := p0) (y := p1) (z := p2) (f := (upd (upd (upd (fun _ => (.int 0)) 0 (.int p0)) 1 (.int p1)) 2 (.int p2))) rfl rfl rfl cc]
    show (if (0 * w.val) ≤ (0 * w.val + cc.val) ∧ (0 * w.val + cc.val) < (0 * w.val) + w.val then (upd (upd (upd (fun _ => (.int 0)) 0 (.int p0)) 1 (.int p1)) 2 (.int p2)) (0 + ((0 * w.val + cc.val) - (0 * w.val))) else Value.int 0) = _
    rw [if_pos (by omega)]
    congr 1; omega
  obtain ⟨cq37, kq37, q37a, q37b, q37c⟩ := isOf hZ rfl E_0
  obtain ⟨_, _, ⟨T37, L37, k37, n37⟩, -, X37, ⟨Lc37, hQ37, l37, y37, z37⟩, st37⟩ := X35.virtualBack hx (y := (⟨"com/example/factwell/factwell/pql/Rows", "get", "(II)I"⟩ : MethodName)) (z := (⟨"com/example/factwell/factwell/pql/Rows", "get", "(II)I"⟩ : MethodName)) hown (mvT hZ (hw _ (List.mem_of_getElem? (i := 30) rfl))) (mvT hZ (hw _ (List.mem_of_getElem? (i := 31) rfl))) (notFace_of_selects (args := #[]) (mvT hZ (hw _ (List.mem_of_getElem? (i := 33) rfl)))) (mvT hZ (hw _ (List.mem_of_getElem? (i := 33) rfl))) (mvT hZ (hw _ (List.mem_of_getElem? (i := 32) rfl))) (by decide) (backOf (W := 0) (own_get l Z a0 hw [] b33 (0 : Int32) cc.val.toInt32 (own_x (upd (upd (upd (fun _ => (.int 0)) 0 (.int p0)) 1 (.int p1)) 2 (.int p2)) cc.val) (0 * w.val + cc.val) w ac kc (fun j => if (0 * w.val) ≤ j ∧ j < (0 * w.val) + w.val then (upd (upd (upd (fun _ => (.int 0)) 0 (.int p0)) 1 (.int p1)) 2 (.int p2)) (0 + (j - (0 * w.val))) else (fun _ => Value.int 0) j) T35.heap n0 (Nat.le_trans (Nat.le_trans (Nat.le_trans (Nat.le_trans (Nat.le_trans (Nat.le_trans (Nat.le_trans (Nat.le_trans (Nat.le_trans (Nat.le_trans (Nat.le_trans (Nat.le_trans (Nat.le_trans (Nat.le_trans (Nat.le_trans Z0 E21.1) (Keep.of_wr W22).1) (Keep.of_wr W23).1) (Keep.of_wr W24).1) E25.1) (Keep.of_wr W26).1) (Keep.of_wr W27).1) (Keep.of_wr W28).1) E29.1) (Keep.of_wr W30).1) (Keep.of_wr W31).1) (Keep.of_wr W32).1) E33.1) K34.1) K35.1) (own_gix 0 w cc) (own_lt 0 w cc hcw (by decide)) hv_ F_w0 F_c0 V_c0) hZ (hw _ (List.mem_of_getElem? (i := 34) rfl)) (hw _ (List.mem_of_getElem? (i := 3) rfl)) (by decide) (by decide)) q37a q37c (g := (mkF m 198 #[.val (.int p0), .val (.int p1), .val (.int p2), .val (.int p3), .val (.int p4), .val (.int p5), .val (.int w.val.toInt32), .val (.int (1 : Int32)), .val (.int (0 : Int32)), .val (.int cc.val.toInt32), .val (.ref b21), .val (.ref b25), .val (.ref b29), .val (.ref b33), .val (.int (own_x (upd (upd (upd (fun _ => (.int 0)) 0 (.int p0)) 1 (.int p1)) 2 (.int p2)) cc.val))] [(.int cc.val.toInt32), (.int (0 : Int32)), (.ref b33)])) rfl (by rw [hml]; rfl) (Steps.refl _) (argsL := [(.int (0 : Int32)), (.int cc.val.toInt32)]) (rest := []) (lenOf pd_3 rfl) rfl (by show 2 * 0 + _ ≤ _; exact Nat.le_of_eq rfl) (hb hby at_198) (fun _ _ => ⟨rfl, rfl, (by decide : 5 + 0 ≤ _), (by decide : 37 + 0 ≤ _)⟩)
  dsimp only [Pt.U, Pt.locs, Pt.cells, Pt.slots] at X37 l37 y37 z37 st37 hQ37
  subst l37 y37 z37
  obtain ⟨rfl, N37q, eh37⟩ := hQ37
  have N37 := Fr.app N35 N37q
  obtain ⟨fs, hr, hrun, hended, hW, hsame⟩ := X37.leave (v := some (.int (1 : Int32))) (fun h => by rw [Bd.returns] at h; cases h)
  refine ⟨_, _, pre0 _ ?_, hrun, hended, _, _, rfl, ?_, ⟨_, rfl⟩, hW, hsame.mono (by decide) (by decide)⟩
  · show Steps p.tables e below (s₁.setTop (mkF m 0 #[.val (.int p0), .val (.int p1), .val (.int p2), .val (.int p3), .val (.int p4), .val (.int p5), .unset, .unset, .unset, .unset, .unset, .unset, .unset, .unset, .unset] [])) _
    refine XS.iconst X0.here hx rfl (hb hby at_0) ?_
    show Steps p.tables e below (s₁.setTop (mkF m 1 #[.val (.int p0), .val (.int p1), .val (.int p2), .val (.int p3), .val (.int p4), .val (.int p5), .unset, .unset, .unset, .unset, .unset, .unset, .unset, .unset, .unset] [(.int (1 : Int32))])) _
    refine XS.iload X0.here hx rfl (hb hby at_1) rfl ?_
    show Steps p.tables e below (s₁.setTop (mkF m 3 #[.val (.int p0), .val (.int p1), .val (.int p2), .val (.int p3), .val (.int p4), .val (.int p5), .unset, .unset, .unset, .unset, .unset, .unset, .unset, .unset, .unset] [(.int p5), (.int (1 : Int32))])) _
    refine XS.bipush X0.here hx rfl (hb hby at_3) ?_
    show Steps p.tables e below (s₁.setTop (mkF m 5 #[.val (.int p0), .val (.int p1), .val (.int p2), .val (.int p3), .val (.int p4), .val (.int p5), .unset, .unset, .unset, .unset, .unset, .unset, .unset, .unset, .unset] [(.int (15 : Int32)), (.int p5), (.int (1 : Int32))])) _
    refine XS.iand X0.here hx rfl (hb hby at_5) rfl ?_
    show Steps p.tables e below (s₁.setTop (mkF m 6 #[.val (.int p0), .val (.int p1), .val (.int p2), .val (.int p3), .val (.int p4), .val (.int p5), .unset, .unset, .unset, .unset, .unset, .unset, .unset, .unset, .unset] [(.int (p5 &&& (15 : Int32))), (.int (1 : Int32))])) _
    refine XS.iconst X0.here hx rfl (hb hby at_6) ?_
    show Steps p.tables e below (s₁.setTop (mkF m 7 #[.val (.int p0), .val (.int p1), .val (.int p2), .val (.int p3), .val (.int p4), .val (.int p5), .unset, .unset, .unset, .unset, .unset, .unset, .unset, .unset, .unset] [(.int (3 : Int32)), (.int (p5 &&& (15 : Int32))), (.int (1 : Int32))])) _
    refine Jvm.RoadKit.iremM (g := (mkF m 7 #[.val (.int p0), .val (.int p1), .val (.int p2), .val (.int p3), .val (.int p4), .val (.int p5), .unset, .unset, .unset, .unset, .unset, .unset, .unset, .unset, .unset] [(.int (3 : Int32)), (.int (p5 &&& (15 : Int32))), (.int (1 : Int32))])) X0 hx rfl (hb hby at_7) rfl (by decide) ?_
    show Steps p.tables e below (s₁.setTop (mkF m 8 #[.val (.int p0), .val (.int p1), .val (.int p2), .val (.int p3), .val (.int p4), .val (.int p5), .unset, .unset, .unset, .unset, .unset, .unset, .unset, .unset, .unset] [(.int ((p5 &&& (15 : Int32)) % (3 : Int32))), (.int (1 : Int32))])) _
    refine XS.iadd X0.here hx rfl (hb hby at_8) rfl ?_
    show Steps p.tables e below (s₁.setTop (mkF m 9 #[.val (.int p0), .val (.int p1), .val (.int p2), .val (.int p3), .val (.int p4), .val (.int p5), .unset, .unset, .unset, .unset, .unset, .unset, .unset, .unset, .unset] [(.int ((1 : Int32) + ((p5 &&& (15 : Int32)) % (3 : Int32))))])) _
    rw [hW_]
    show Steps p.tables e below (s₁.setTop (mkF m 9 #[.val (.int p0), .val (.int p1), .val (.int p2), .val (.int p3), .val (.int p4), .val (.int p5), .unset, .unset, .unset, .unset, .unset, .unset, .unset, .unset, .unset] [(.int w.val.toInt32)])) _
    refine XS.istore X0.here hx rfl (hb hby at_9) rfl (l' := #[.val (.int p0), .val (.int p1), .val (.int p2), .val (.int p3), .val (.int p4), .val (.int p5), .val (.int w.val.toInt32), .unset, .unset, .unset, .unset, .unset, .unset, .unset, .unset]) rfl ?_
    show Steps p.tables e below (s₁.setTop (mkF m 11 #[.val (.int p0), .val (.int p1), .val (.int p2), .val (.int p3), .val (.int p4), .val (.int p5), .val (.int w.val.toInt32), .unset, .unset, .unset, .unset, .unset, .unset, .unset, .unset] [])) _
    refine XS.iconst X0.here hx rfl (hb hby at_11) ?_
    show Steps p.tables e below (s₁.setTop (mkF m 12 #[.val (.int p0), .val (.int p1), .val (.int p2), .val (.int p3), .val (.int p4), .val (.int p5), .val (.int w.val.toInt32), .unset, .unset, .unset, .unset, .unset, .unset, .unset, .unset] [(.int (1 : Int32))])) _
    refine XS.iload X0.here hx rfl (hb hby at_12) rfl ?_
    show Steps p.tables e below (s₁.setTop (mkF m 14 #[.val (.int p0), .val (.int p1), .val (.int p2), .val (.int p3), .val (.int p4), .val (.int p5), .val (.int w.val.toInt32), .unset, .unset, .unset, .unset, .unset, .unset, .unset, .unset] [(.int p5), (.int (1 : Int32))])) _
    refine XS.iconst X0.here hx rfl (hb hby at_14) ?_
    show Steps p.tables e below (s₁.setTop (mkF m 15 #[.val (.int p0), .val (.int p1), .val (.int p2), .val (.int p3), .val (.int p4), .val (.int p5), .val (.int w.val.toInt32), .unset, .unset, .unset, .unset, .unset, .unset, .unset, .unset] [(.int (4 : Int32)), (.int p5), (.int (1 : Int32))])) _
    refine XT.iushr X0.here hx rfl (hb hby at_15) rfl ?_
    show Steps p.tables e below (s₁.setTop (mkF m 16 #[.val (.int p0), .val (.int p1), .val (.int p2), .val (.int p3), .val (.int p4), .val (.int p5), .val (.int w.val.toInt32), .unset, .unset, .unset, .unset, .unset, .unset, .unset, .unset] [(.int (XT.ushr p5 (4 : Int32))), (.int (1 : Int32))])) _
    refine XS.bipush X0.here hx rfl (hb hby at_16) ?_
    show Steps p.tables e below (s₁.setTop (mkF m 18 #[.val (.int p0), .val (.int p1), .val (.int p2), .val (.int p3), .val (.int p4), .val (.int p5), .val (.int w.val.toInt32), .unset, .unset, .unset, .unset, .unset, .unset, .unset, .unset] [(.int (15 : Int32)), (.int (XT.ushr p5 (4 : Int32))), (.int (1 : Int32))])) _
    refine XS.iand X0.here hx rfl (hb hby at_18) rfl ?_
    show Steps p.tables e below (s₁.setTop (mkF m 19 #[.val (.int p0), .val (.int p1), .val (.int p2), .val (.int p3), .val (.int p4), .val (.int p5), .val (.int w.val.toInt32), .unset, .unset, .unset, .unset, .unset, .unset, .unset, .unset] [(.int ((XT.ushr p5 (4 : Int32)) &&& (15 : Int32))), (.int (1 : Int32))])) _
    refine XS.iconst X0.here hx rfl (hb hby at_19) ?_
    show Steps p.tables e below (s₁.setTop (mkF m 20 #[.val (.int p0), .val (.int p1), .val (.int p2), .val (.int p3), .val (.int p4), .val (.int p5), .val (.int w.val.toInt32), .unset, .unset, .unset, .unset, .unset, .unset, .unset, .unset] [(.int (3 : Int32)), (.int ((XT.ushr p5 (4 : Int32)) &&& (15 : Int32))), (.int (1 : Int32))])) _
    refine Jvm.RoadKit.iremM (g := (mkF m 20 #[.val (.int p0), .val (.int p1), .val (.int p2), .val (.int p3), .val (.int p4), .val (.int p5), .val (.int w.val.toInt32), .unset, .unset, .unset, .unset, .unset, .unset, .unset, .unset] [(.int (3 : Int32)), (.int ((XT.ushr p5 (4 : Int32)) &&& (15 : Int32))), (.int (1 : Int32))])) X0 hx rfl (hb hby at_20) rfl (by decide) ?_
    show Steps p.tables e below (s₁.setTop (mkF m 21 #[.val (.int p0), .val (.int p1), .val (.int p2), .val (.int p3), .val (.int p4), .val (.int p5), .val (.int w.val.toInt32), .unset, .unset, .unset, .unset, .unset, .unset, .unset, .unset] [(.int (((XT.ushr p5 (4 : Int32)) &&& (15 : Int32)) % (3 : Int32))), (.int (1 : Int32))])) _
    refine XS.iadd X0.here hx rfl (hb hby at_21) rfl ?_
    show Steps p.tables e below (s₁.setTop (mkF m 22 #[.val (.int p0), .val (.int p1), .val (.int p2), .val (.int p3), .val (.int p4), .val (.int p5), .val (.int w.val.toInt32), .unset, .unset, .unset, .unset, .unset, .unset, .unset, .unset] [(.int ((1 : Int32) + (((XT.ushr p5 (4 : Int32)) &&& (15 : Int32)) % (3 : Int32))))])) _
    rw [hN_]
    show Steps p.tables e below (s₁.setTop (mkF m 22 #[.val (.int p0), .val (.int p1), .val (.int p2), .val (.int p3), .val (.int p4), .val (.int p5), .val (.int w.val.toInt32), .unset, .unset, .unset, .unset, .unset, .unset, .unset, .unset] [(.int (1 : Int32))])) _
    refine XS.istore X0.here hx rfl (hb hby at_22) rfl (l' := #[.val (.int p0), .val (.int p1), .val (.int p2), .val (.int p3), .val (.int p4), .val (.int p5), .val (.int w.val.toInt32), .val (.int (1 : Int32)), .unset, .unset, .unset, .unset, .unset, .unset, .unset]) rfl ?_
    show Steps p.tables e below (s₁.setTop (mkF m 24 #[.val (.int p0), .val (.int p1), .val (.int p2), .val (.int p3), .val (.int p4), .val (.int p5), .val (.int w.val.toInt32), .val (.int (1 : Int32)), .unset, .unset, .unset, .unset, .unset, .unset, .unset] [])) _
    refine XS.iload X0.here hx rfl (hb hby at_24) rfl ?_
    show Steps p.tables e below (s₁.setTop (mkF m 26 #[.val (.int p0), .val (.int p1), .val (.int p2), .val (.int p3), .val (.int p4), .val (.int p5), .val (.int w.val.toInt32), .val (.int (1 : Int32)), .unset, .unset, .unset, .unset, .unset, .unset, .unset] [(.int p5)])) _
    refine XS.bipush X0.here hx rfl (hb hby at_26) ?_
    show Steps p.tables e below (s₁.setTop (mkF m 28 #[.val (.int p0), .val (.int p1), .val (.int p2), .val (.int p3), .val (.int p4), .val (.int p5), .val (.int w.val.toInt32), .val (.int (1 : Int32)), .unset, .unset, .unset, .unset, .unset, .unset, .unset] [(.int (8 : Int32)), (.int p5)])) _
    refine XT.iushr X0.here hx rfl (hb hby at_28) rfl ?_
    show Steps p.tables e below (s₁.setTop (mkF m 29 #[.val (.int p0), .val (.int p1), .val (.int p2), .val (.int p3), .val (.int p4), .val (.int p5), .val (.int w.val.toInt32), .val (.int (1 : Int32)), .unset, .unset, .unset, .unset, .unset, .unset, .unset] [(.int (XT.ushr p5 (8 : Int32)))])) _
    refine XS.bipush X0.here hx rfl (hb hby at_29) ?_
    show Steps p.tables e below (s₁.setTop (mkF m 31 #[.val (.int p0), .val (.int p1), .val (.int p2), .val (.int p3), .val (.int p4), .val (.int p5), .val (.int w.val.toInt32), .val (.int (1 : Int32)), .unset, .unset, .unset, .unset, .unset, .unset, .unset] [(.int (15 : Int32)), (.int (XT.ushr p5 (8 : Int32)))])) _
    refine XS.iand X0.here hx rfl (hb hby at_31) rfl ?_
    show Steps p.tables e below (s₁.setTop (mkF m 32 #[.val (.int p0), .val (.int p1), .val (.int p2), .val (.int p3), .val (.int p4), .val (.int p5), .val (.int w.val.toInt32), .val (.int (1 : Int32)), .unset, .unset, .unset, .unset, .unset, .unset, .unset] [(.int ((XT.ushr p5 (8 : Int32)) &&& (15 : Int32)))])) _
    refine XS.iload X0.here hx rfl (hb hby at_32) rfl ?_
    show Steps p.tables e below (s₁.setTop (mkF m 34 #[.val (.int p0), .val (.int p1), .val (.int p2), .val (.int p3), .val (.int p4), .val (.int p5), .val (.int w.val.toInt32), .val (.int (1 : Int32)), .unset, .unset, .unset, .unset, .unset, .unset, .unset] [(.int (1 : Int32)), (.int ((XT.ushr p5 (8 : Int32)) &&& (15 : Int32)))])) _
    refine Jvm.RoadKit.iremM (g := (mkF m 34 #[.val (.int p0), .val (.int p1), .val (.int p2), .val (.int p3), .val (.int p4), .val (.int p5), .val (.int w.val.toInt32), .val (.int (1 : Int32)), .unset, .unset, .unset, .unset, .unset, .unset, .unset] [(.int (1 : Int32)), (.int ((XT.ushr p5 (8 : Int32)) &&& (15 : Int32)))])) X0 hx rfl (hb hby at_34) rfl (by decide) ?_
    show Steps p.tables e below (s₁.setTop (mkF m 35 #[.val (.int p0), .val (.int p1), .val (.int p2), .val (.int p3), .val (.int p4), .val (.int p5), .val (.int w.val.toInt32), .val (.int (1 : Int32)), .unset, .unset, .unset, .unset, .unset, .unset, .unset] [(.int (((XT.ushr p5 (8 : Int32)) &&& (15 : Int32)) % (1 : Int32)))])) _
    rw [hR_]
    show Steps p.tables e below (s₁.setTop (mkF m 35 #[.val (.int p0), .val (.int p1), .val (.int p2), .val (.int p3), .val (.int p4), .val (.int p5), .val (.int w.val.toInt32), .val (.int (1 : Int32)), .unset, .unset, .unset, .unset, .unset, .unset, .unset] [(.int (0 : Int32))])) _
    refine XS.istore X0.here hx rfl (hb hby at_35) rfl (l' := #[.val (.int p0), .val (.int p1), .val (.int p2), .val (.int p3), .val (.int p4), .val (.int p5), .val (.int w.val.toInt32), .val (.int (1 : Int32)), .val (.int (0 : Int32)), .unset, .unset, .unset, .unset, .unset, .unset]) rfl ?_
    show Steps p.tables e below (s₁.setTop (mkF m 37 #[.val (.int p0), .val (.int p1), .val (.int p2), .val (.int p3), .val (.int p4), .val (.int p5), .val (.int w.val.toInt32), .val (.int (1 : Int32)), .val (.int (0 : Int32)), .unset, .unset, .unset, .unset, .unset, .unset] [])) _
    refine XS.iload X0.here hx rfl (hb hby at_37) rfl ?_
    show Steps p.tables e below (s₁.setTop (mkF m 39 #[.val (.int p0), .val (.int p1), .val (.int p2), .val (.int p3), .val (.int p4), .val (.int p5), .val (.int w.val.toInt32), .val (.int (1 : Int32)), .val (.int (0 : Int32)), .unset, .unset, .unset, .unset, .unset, .unset] [(.int p5)])) _
    refine XS.bipush X0.here hx rfl (hb hby at_39) ?_
    show Steps p.tables e below (s₁.setTop (mkF m 41 #[.val (.int p0), .val (.int p1), .val (.int p2), .val (.int p3), .val (.int p4), .val (.int p5), .val (.int w.val.toInt32), .val (.int (1 : Int32)), .val (.int (0 : Int32)), .unset, .unset, .unset, .unset, .unset, .unset] [(.int (12 : Int32)), (.int p5)])) _
    refine XT.iushr X0.here hx rfl (hb hby at_41) rfl ?_
    show Steps p.tables e below (s₁.setTop (mkF m 42 #[.val (.int p0), .val (.int p1), .val (.int p2), .val (.int p3), .val (.int p4), .val (.int p5), .val (.int w.val.toInt32), .val (.int (1 : Int32)), .val (.int (0 : Int32)), .unset, .unset, .unset, .unset, .unset, .unset] [(.int (XT.ushr p5 (12 : Int32)))])) _
    refine XS.bipush X0.here hx rfl (hb hby at_42) ?_
    show Steps p.tables e below (s₁.setTop (mkF m 44 #[.val (.int p0), .val (.int p1), .val (.int p2), .val (.int p3), .val (.int p4), .val (.int p5), .val (.int w.val.toInt32), .val (.int (1 : Int32)), .val (.int (0 : Int32)), .unset, .unset, .unset, .unset, .unset, .unset] [(.int (15 : Int32)), (.int (XT.ushr p5 (12 : Int32)))])) _
    refine XS.iand X0.here hx rfl (hb hby at_44) rfl ?_
    show Steps p.tables e below (s₁.setTop (mkF m 45 #[.val (.int p0), .val (.int p1), .val (.int p2), .val (.int p3), .val (.int p4), .val (.int p5), .val (.int w.val.toInt32), .val (.int (1 : Int32)), .val (.int (0 : Int32)), .unset, .unset, .unset, .unset, .unset, .unset] [(.int ((XT.ushr p5 (12 : Int32)) &&& (15 : Int32)))])) _
    refine XS.iload X0.here hx rfl (hb hby at_45) rfl ?_
    show Steps p.tables e below (s₁.setTop (mkF m 47 #[.val (.int p0), .val (.int p1), .val (.int p2), .val (.int p3), .val (.int p4), .val (.int p5), .val (.int w.val.toInt32), .val (.int (1 : Int32)), .val (.int (0 : Int32)), .unset, .unset, .unset, .unset, .unset, .unset] [(.int w.val.toInt32), (.int ((XT.ushr p5 (12 : Int32)) &&& (15 : Int32)))])) _
    refine Jvm.RoadKit.iremM (g := (mkF m 47 #[.val (.int p0), .val (.int p1), .val (.int p2), .val (.int p3), .val (.int p4), .val (.int p5), .val (.int w.val.toInt32), .val (.int (1 : Int32)), .val (.int (0 : Int32)), .unset, .unset, .unset, .unset, .unset, .unset] [(.int w.val.toInt32), (.int ((XT.ushr p5 (12 : Int32)) &&& (15 : Int32)))])) X0 hx rfl (hb hby at_47) rfl (own_wne w hw1) ?_
    show Steps p.tables e below (s₁.setTop (mkF m 48 #[.val (.int p0), .val (.int p1), .val (.int p2), .val (.int p3), .val (.int p4), .val (.int p5), .val (.int w.val.toInt32), .val (.int (1 : Int32)), .val (.int (0 : Int32)), .unset, .unset, .unset, .unset, .unset, .unset] [(.int (((XT.ushr p5 (12 : Int32)) &&& (15 : Int32)) % w.val.toInt32))])) _
    rw [hC_]
    show Steps p.tables e below (s₁.setTop (mkF m 48 #[.val (.int p0), .val (.int p1), .val (.int p2), .val (.int p3), .val (.int p4), .val (.int p5), .val (.int w.val.toInt32), .val (.int (1 : Int32)), .val (.int (0 : Int32)), .unset, .unset, .unset, .unset, .unset, .unset] [(.int cc.val.toInt32)])) _
    refine XS.istore X0.here hx rfl (hb hby at_48) rfl (l' := #[.val (.int p0), .val (.int p1), .val (.int p2), .val (.int p3), .val (.int p4), .val (.int p5), .val (.int w.val.toInt32), .val (.int (1 : Int32)), .val (.int (0 : Int32)), .val (.int cc.val.toInt32), .unset, .unset, .unset, .unset, .unset]) rfl ?_
    show Steps p.tables e below (s₁.setTop (mkF m 50 #[.val (.int p0), .val (.int p1), .val (.int p2), .val (.int p3), .val (.int p4), .val (.int p5), .val (.int w.val.toInt32), .val (.int (1 : Int32)), .val (.int (0 : Int32)), .val (.int cc.val.toInt32), .unset, .unset, .unset, .unset, .unset] [])) _
    refine XS.iconst X0.here hx rfl (hb hby at_50) ?_
    show Steps p.tables e below (s₁.setTop (mkF m 51 #[.val (.int p0), .val (.int p1), .val (.int p2), .val (.int p3), .val (.int p4), .val (.int p5), .val (.int w.val.toInt32), .val (.int (1 : Int32)), .val (.int (0 : Int32)), .val (.int cc.val.toInt32), .unset, .unset, .unset, .unset, .unset] [(.int (3 : Int32))])) _
    refine st21 _ ?_
    show Steps p.tables e below (T21.setTop (mkF m 53 #[.val (.int p0), .val (.int p1), .val (.int p2), .val (.int p3), .val (.int p4), .val (.int p5), .val (.int w.val.toInt32), .val (.int (1 : Int32)), .val (.int (0 : Int32)), .val (.int cc.val.toInt32), .unset, .unset, .unset, .unset, .unset] [(.ref b21)])) _
    refine XS.dup X21.here hx rfl (hb hby at_53) rfl rfl ?_
    show Steps p.tables e below (T21.setTop (mkF m 54 #[.val (.int p0), .val (.int p1), .val (.int p2), .val (.int p3), .val (.int p4), .val (.int p5), .val (.int w.val.toInt32), .val (.int (1 : Int32)), .val (.int (0 : Int32)), .val (.int cc.val.toInt32), .unset, .unset, .unset, .unset, .unset] [(.ref b21), (.ref b21)])) _
    refine XS.iconst X21.here hx rfl (hb hby at_54) ?_
    show Steps p.tables e below (T21.setTop (mkF m 55 #[.val (.int p0), .val (.int p1), .val (.int p2), .val (.int p3), .val (.int p4), .val (.int p5), .val (.int w.val.toInt32), .val (.int (1 : Int32)), .val (.int (0 : Int32)), .val (.int cc.val.toInt32), .unset, .unset, .unset, .unset, .unset] [(.int (0 : Int32)), (.ref b21), (.ref b21)])) _
    refine XS.iloadN X21.here hx rfl (hb hby at_55) rfl ?_
    show Steps p.tables e below (T21.setTop (mkF m 56 #[.val (.int p0), .val (.int p1), .val (.int p2), .val (.int p3), .val (.int p4), .val (.int p5), .val (.int w.val.toInt32), .val (.int (1 : Int32)), .val (.int (0 : Int32)), .val (.int cc.val.toInt32), .unset, .unset, .unset, .unset, .unset] [(.int p0), (.int (0 : Int32)), (.ref b21), (.ref b21)])) _
    refine st22 _ ?_
    show Steps p.tables e below (T22.setTop (mkF m 57 #[.val (.int p0), .val (.int p1), .val (.int p2), .val (.int p3), .val (.int p4), .val (.int p5), .val (.int w.val.toInt32), .val (.int (1 : Int32)), .val (.int (0 : Int32)), .val (.int cc.val.toInt32), .unset, .unset, .unset, .unset, .unset] [(.ref b21)])) _
    refine XS.dup X22.here hx rfl (hb hby at_57) rfl rfl ?_
    show Steps p.tables e below (T22.setTop (mkF m 58 #[.val (.int p0), .val (.int p1), .val (.int p2), .val (.int p3), .val (.int p4), .val (.int p5), .val (.int w.val.toInt32), .val (.int (1 : Int32)), .val (.int (0 : Int32)), .val (.int cc.val.toInt32), .unset, .unset, .unset, .unset, .unset] [(.ref b21), (.ref b21)])) _
    refine XS.iconst X22.here hx rfl (hb hby at_58) ?_
    show Steps p.tables e below (T22.setTop (mkF m 59 #[.val (.int p0), .val (.int p1), .val (.int p2), .val (.int p3), .val (.int p4), .val (.int p5), .val (.int w.val.toInt32), .val (.int (1 : Int32)), .val (.int (0 : Int32)), .val (.int cc.val.toInt32), .unset, .unset, .unset, .unset, .unset] [(.int (1 : Int32)), (.ref b21), (.ref b21)])) _
    refine XS.iloadN X22.here hx rfl (hb hby at_59) rfl ?_
    show Steps p.tables e below (T22.setTop (mkF m 60 #[.val (.int p0), .val (.int p1), .val (.int p2), .val (.int p3), .val (.int p4), .val (.int p5), .val (.int w.val.toInt32), .val (.int (1 : Int32)), .val (.int (0 : Int32)), .val (.int cc.val.toInt32), .unset, .unset, .unset, .unset, .unset] [(.int p1), (.int (1 : Int32)), (.ref b21), (.ref b21)])) _
    refine st23 _ ?_
    show Steps p.tables e below (T23.setTop (mkF m 61 #[.val (.int p0), .val (.int p1), .val (.int p2), .val (.int p3), .val (.int p4), .val (.int p5), .val (.int w.val.toInt32), .val (.int (1 : Int32)), .val (.int (0 : Int32)), .val (.int cc.val.toInt32), .unset, .unset, .unset, .unset, .unset] [(.ref b21)])) _
    refine XS.dup X23.here hx rfl (hb hby at_61) rfl rfl ?_
    show Steps p.tables e below (T23.setTop (mkF m 62 #[.val (.int p0), .val (.int p1), .val (.int p2), .val (.int p3), .val (.int p4), .val (.int p5), .val (.int w.val.toInt32), .val (.int (1 : Int32)), .val (.int (0 : Int32)), .val (.int cc.val.toInt32), .unset, .unset, .unset, .unset, .unset] [(.ref b21), (.ref b21)])) _
    refine XS.iconst X23.here hx rfl (hb hby at_62) ?_
    show Steps p.tables e below (T23.setTop (mkF m 63 #[.val (.int p0), .val (.int p1), .val (.int p2), .val (.int p3), .val (.int p4), .val (.int p5), .val (.int w.val.toInt32), .val (.int (1 : Int32)), .val (.int (0 : Int32)), .val (.int cc.val.toInt32), .unset, .unset, .unset, .unset, .unset] [(.int (2 : Int32)), (.ref b21), (.ref b21)])) _
    refine XS.iloadN X23.here hx rfl (hb hby at_63) rfl ?_
    show Steps p.tables e below (T23.setTop (mkF m 64 #[.val (.int p0), .val (.int p1), .val (.int p2), .val (.int p3), .val (.int p4), .val (.int p5), .val (.int w.val.toInt32), .val (.int (1 : Int32)), .val (.int (0 : Int32)), .val (.int cc.val.toInt32), .unset, .unset, .unset, .unset, .unset] [(.int p2), (.int (2 : Int32)), (.ref b21), (.ref b21)])) _
    refine st24 _ ?_
    show Steps p.tables e below (T24.setTop (mkF m 65 #[.val (.int p0), .val (.int p1), .val (.int p2), .val (.int p3), .val (.int p4), .val (.int p5), .val (.int w.val.toInt32), .val (.int (1 : Int32)), .val (.int (0 : Int32)), .val (.int cc.val.toInt32), .unset, .unset, .unset, .unset, .unset] [(.ref b21)])) _
    refine XS.astore X24.here hx rfl (hb hby at_65) rfl rfl (l' := #[.val (.int p0), .val (.int p1), .val (.int p2), .val (.int p3), .val (.int p4), .val (.int p5), .val (.int w.val.toInt32), .val (.int (1 : Int32)), .val (.int (0 : Int32)), .val (.int cc.val.toInt32), .val (.ref b21), .unset, .unset, .unset, .unset]) rfl ?_
    show Steps p.tables e below (T24.setTop (mkF m 67 #[.val (.int p0), .val (.int p1), .val (.int p2), .val (.int p3), .val (.int p4), .val (.int p5), .val (.int w.val.toInt32), .val (.int (1 : Int32)), .val (.int (0 : Int32)), .val (.int cc.val.toInt32), .val (.ref b21), .unset, .unset, .unset, .unset] [])) _
    refine XS.iconst X24.here hx rfl (hb hby at_67) ?_
    show Steps p.tables e below (T24.setTop (mkF m 68 #[.val (.int p0), .val (.int p1), .val (.int p2), .val (.int p3), .val (.int p4), .val (.int p5), .val (.int w.val.toInt32), .val (.int (1 : Int32)), .val (.int (0 : Int32)), .val (.int cc.val.toInt32), .val (.ref b21), .unset, .unset, .unset, .unset] [(.int (3 : Int32))])) _
    refine st25 _ ?_
    show Steps p.tables e below (T25.setTop (mkF m 70 #[.val (.int p0), .val (.int p1), .val (.int p2), .val (.int p3), .val (.int p4), .val (.int p5), .val (.int w.val.toInt32), .val (.int (1 : Int32)), .val (.int (0 : Int32)), .val (.int cc.val.toInt32), .val (.ref b21), .unset, .unset, .unset, .unset] [(.ref b25)])) _
    refine XS.dup X25.here hx rfl (hb hby at_70) rfl rfl ?_
    show Steps p.tables e below (T25.setTop (mkF m 71 #[.val (.int p0), .val (.int p1), .val (.int p2), .val (.int p3), .val (.int p4), .val (.int p5), .val (.int w.val.toInt32), .val (.int (1 : Int32)), .val (.int (0 : Int32)), .val (.int cc.val.toInt32), .val (.ref b21), .unset, .unset, .unset, .unset] [(.ref b25), (.ref b25)])) _
    refine XS.iconst X25.here hx rfl (hb hby at_71) ?_
    show Steps p.tables e below (T25.setTop (mkF m 72 #[.val (.int p0), .val (.int p1), .val (.int p2), .val (.int p3), .val (.int p4), .val (.int p5), .val (.int w.val.toInt32), .val (.int (1 : Int32)), .val (.int (0 : Int32)), .val (.int cc.val.toInt32), .val (.ref b21), .unset, .unset, .unset, .unset] [(.int (0 : Int32)), (.ref b25), (.ref b25)])) _
    refine XS.iloadN X25.here hx rfl (hb hby at_72) rfl ?_
    show Steps p.tables e below (T25.setTop (mkF m 73 #[.val (.int p0), .val (.int p1), .val (.int p2), .val (.int p3), .val (.int p4), .val (.int p5), .val (.int w.val.toInt32), .val (.int (1 : Int32)), .val (.int (0 : Int32)), .val (.int cc.val.toInt32), .val (.ref b21), .unset, .unset, .unset, .unset] [(.int p3), (.int (0 : Int32)), (.ref b25), (.ref b25)])) _
    refine st26 _ ?_
    show Steps p.tables e below (T26.setTop (mkF m 74 #[.val (.int p0), .val (.int p1), .val (.int p2), .val (.int p3), .val (.int p4), .val (.int p5), .val (.int w.val.toInt32), .val (.int (1 : Int32)), .val (.int (0 : Int32)), .val (.int cc.val.toInt32), .val (.ref b21), .unset, .unset, .unset, .unset] [(.ref b25)])) _
    refine XS.dup X26.here hx rfl (hb hby at_74) rfl rfl ?_
    show Steps p.tables e below (T26.setTop (mkF m 75 #[.val (.int p0), .val (.int p1), .val (.int p2), .val (.int p3), .val (.int p4), .val (.int p5), .val (.int w.val.toInt32), .val (.int (1 : Int32)), .val (.int (0 : Int32)), .val (.int cc.val.toInt32), .val (.ref b21), .unset, .unset, .unset, .unset] [(.ref b25), (.ref b25)])) _
    refine XS.iconst X26.here hx rfl (hb hby at_75) ?_
    show Steps p.tables e below (T26.setTop (mkF m 76 #[.val (.int p0), .val (.int p1), .val (.int p2), .val (.int p3), .val (.int p4), .val (.int p5), .val (.int w.val.toInt32), .val (.int (1 : Int32)), .val (.int (0 : Int32)), .val (.int cc.val.toInt32), .val (.ref b21), .unset, .unset, .unset, .unset] [(.int (1 : Int32)), (.ref b25), (.ref b25)])) _
    refine XS.iload X26.here hx rfl (hb hby at_76) rfl ?_
    show Steps p.tables e below (T26.setTop (mkF m 78 #[.val (.int p0), .val (.int p1), .val (.int p2), .val (.int p3), .val (.int p4), .val (.int p5), .val (.int w.val.toInt32), .val (.int (1 : Int32)), .val (.int (0 : Int32)), .val (.int cc.val.toInt32), .val (.ref b21), .unset, .unset, .unset, .unset] [(.int p4), (.int (1 : Int32)), (.ref b25), (.ref b25)])) _
    refine st27 _ ?_
    show Steps p.tables e below (T27.setTop (mkF m 79 #[.val (.int p0), .val (.int p1), .val (.int p2), .val (.int p3), .val (.int p4), .val (.int p5), .val (.int w.val.toInt32), .val (.int (1 : Int32)), .val (.int (0 : Int32)), .val (.int cc.val.toInt32), .val (.ref b21), .unset, .unset, .unset, .unset] [(.ref b25)])) _
    refine XS.dup X27.here hx rfl (hb hby at_79) rfl rfl ?_
    show Steps p.tables e below (T27.setTop (mkF m 80 #[.val (.int p0), .val (.int p1), .val (.int p2), .val (.int p3), .val (.int p4), .val (.int p5), .val (.int w.val.toInt32), .val (.int (1 : Int32)), .val (.int (0 : Int32)), .val (.int cc.val.toInt32), .val (.ref b21), .unset, .unset, .unset, .unset] [(.ref b25), (.ref b25)])) _
    refine XS.iconst X27.here hx rfl (hb hby at_80) ?_
    show Steps p.tables e below (T27.setTop (mkF m 81 #[.val (.int p0), .val (.int p1), .val (.int p2), .val (.int p3), .val (.int p4), .val (.int p5), .val (.int w.val.toInt32), .val (.int (1 : Int32)), .val (.int (0 : Int32)), .val (.int cc.val.toInt32), .val (.ref b21), .unset, .unset, .unset, .unset] [(.int (2 : Int32)), (.ref b25), (.ref b25)])) _
    refine XS.iloadN X27.here hx rfl (hb hby at_81) rfl ?_
    show Steps p.tables e below (T27.setTop (mkF m 82 #[.val (.int p0), .val (.int p1), .val (.int p2), .val (.int p3), .val (.int p4), .val (.int p5), .val (.int w.val.toInt32), .val (.int (1 : Int32)), .val (.int (0 : Int32)), .val (.int cc.val.toInt32), .val (.ref b21), .unset, .unset, .unset, .unset] [(.int p0), (.int (2 : Int32)), (.ref b25), (.ref b25)])) _
    refine XS.iconst X27.here hx rfl (hb hby at_82) ?_
    show Steps p.tables e below (T27.setTop (mkF m 83 #[.val (.int p0), .val (.int p1), .val (.int p2), .val (.int p3), .val (.int p4), .val (.int p5), .val (.int w.val.toInt32), .val (.int (1 : Int32)), .val (.int (0 : Int32)), .val (.int cc.val.toInt32), .val (.ref b21), .unset, .unset, .unset, .unset] [(.int (-1 : Int32)), (.int p0), (.int (2 : Int32)), (.ref b25), (.ref b25)])) _
    refine XT.ixor X27.here hx rfl (hb hby at_83) rfl ?_
    show Steps p.tables e below (T27.setTop (mkF m 84 #[.val (.int p0), .val (.int p1), .val (.int p2), .val (.int p3), .val (.int p4), .val (.int p5), .val (.int w.val.toInt32), .val (.int (1 : Int32)), .val (.int (0 : Int32)), .val (.int cc.val.toInt32), .val (.ref b21), .unset, .unset, .unset, .unset] [(.int (p0 ^^^ (-1 : Int32))), (.int (2 : Int32)), (.ref b25), (.ref b25)])) _
    refine st28 _ ?_
    show Steps p.tables e below (T28.setTop (mkF m 85 #[.val (.int p0), .val (.int p1), .val (.int p2), .val (.int p3), .val (.int p4), .val (.int p5), .val (.int w.val.toInt32), .val (.int (1 : Int32)), .val (.int (0 : Int32)), .val (.int cc.val.toInt32), .val (.ref b21), .unset, .unset, .unset, .unset] [(.ref b25)])) _
    refine XS.astore X28.here hx rfl (hb hby at_85) rfl rfl (l' := #[.val (.int p0), .val (.int p1), .val (.int p2), .val (.int p3), .val (.int p4), .val (.int p5), .val (.int w.val.toInt32), .val (.int (1 : Int32)), .val (.int (0 : Int32)), .val (.int cc.val.toInt32), .val (.ref b21), .val (.ref b25), .unset, .unset, .unset]) rfl ?_
    show Steps p.tables e below (T28.setTop (mkF m 87 #[.val (.int p0), .val (.int p1), .val (.int p2), .val (.int p3), .val (.int p4), .val (.int p5), .val (.int w.val.toInt32), .val (.int (1 : Int32)), .val (.int (0 : Int32)), .val (.int cc.val.toInt32), .val (.ref b21), .val (.ref b25), .unset, .unset, .unset] [])) _
    refine XS.iconst X28.here hx rfl (hb hby at_87) ?_
    show Steps p.tables e below (T28.setTop (mkF m 88 #[.val (.int p0), .val (.int p1), .val (.int p2), .val (.int p3), .val (.int p4), .val (.int p5), .val (.int w.val.toInt32), .val (.int (1 : Int32)), .val (.int (0 : Int32)), .val (.int cc.val.toInt32), .val (.ref b21), .val (.ref b25), .unset, .unset, .unset] [(.int (3 : Int32))])) _
    refine st29 _ ?_
    show Steps p.tables e below (T29.setTop (mkF m 90 #[.val (.int p0), .val (.int p1), .val (.int p2), .val (.int p3), .val (.int p4), .val (.int p5), .val (.int w.val.toInt32), .val (.int (1 : Int32)), .val (.int (0 : Int32)), .val (.int cc.val.toInt32), .val (.ref b21), .val (.ref b25), .unset, .unset, .unset] [(.ref b29)])) _
    refine XS.dup X29.here hx rfl (hb hby at_90) rfl rfl ?_
    show Steps p.tables e below (T29.setTop (mkF m 91 #[.val (.int p0), .val (.int p1), .val (.int p2), .val (.int p3), .val (.int p4), .val (.int p5), .val (.int w.val.toInt32), .val (.int (1 : Int32)), .val (.int (0 : Int32)), .val (.int cc.val.toInt32), .val (.ref b21), .val (.ref b25), .unset, .unset, .unset] [(.ref b29), (.ref b29)])) _
    refine XS.iconst X29.here hx rfl (hb hby at_91) ?_
    show Steps p.tables e below (T29.setTop (mkF m 92 #[.val (.int p0), .val (.int p1), .val (.int p2), .val (.int p3), .val (.int p4), .val (.int p5), .val (.int w.val.toInt32), .val (.int (1 : Int32)), .val (.int (0 : Int32)), .val (.int cc.val.toInt32), .val (.ref b21), .val (.ref b25), .unset, .unset, .unset] [(.int (0 : Int32)), (.ref b29), (.ref b29)])) _
    refine XS.iloadN X29.here hx rfl (hb hby at_92) rfl ?_
    show Steps p.tables e below (T29.setTop (mkF m 93 #[.val (.int p0), .val (.int p1), .val (.int p2), .val (.int p3), .val (.int p4), .val (.int p5), .val (.int w.val.toInt32), .val (.int (1 : Int32)), .val (.int (0 : Int32)), .val (.int cc.val.toInt32), .val (.ref b21), .val (.ref b25), .unset, .unset, .unset] [(.int p1), (.int (0 : Int32)), (.ref b29), (.ref b29)])) _
    refine XS.iconst X29.here hx rfl (hb hby at_93) ?_
    show Steps p.tables e below (T29.setTop (mkF m 94 #[.val (.int p0), .val (.int p1), .val (.int p2), .val (.int p3), .val (.int p4), .val (.int p5), .val (.int w.val.toInt32), .val (.int (1 : Int32)), .val (.int (0 : Int32)), .val (.int cc.val.toInt32), .val (.ref b21), .val (.ref b25), .unset, .unset, .unset] [(.int (-1 : Int32)), (.int p1), (.int (0 : Int32)), (.ref b29), (.ref b29)])) _
    refine XT.ixor X29.here hx rfl (hb hby at_94) rfl ?_
    show Steps p.tables e below (T29.setTop (mkF m 95 #[.val (.int p0), .val (.int p1), .val (.int p2), .val (.int p3), .val (.int p4), .val (.int p5), .val (.int w.val.toInt32), .val (.int (1 : Int32)), .val (.int (0 : Int32)), .val (.int cc.val.toInt32), .val (.ref b21), .val (.ref b25), .unset, .unset, .unset] [(.int (p1 ^^^ (-1 : Int32))), (.int (0 : Int32)), (.ref b29), (.ref b29)])) _
    refine st30 _ ?_
    show Steps p.tables e below (T30.setTop (mkF m 96 #[.val (.int p0), .val (.int p1), .val (.int p2), .val (.int p3), .val (.int p4), .val (.int p5), .val (.int w.val.toInt32), .val (.int (1 : Int32)), .val (.int (0 : Int32)), .val (.int cc.val.toInt32), .val (.ref b21), .val (.ref b25), .unset, .unset, .unset] [(.ref b29)])) _
    refine XS.dup X30.here hx rfl (hb hby at_96) rfl rfl ?_
    show Steps p.tables e below (T30.setTop (mkF m 97 #[.val (.int p0), .val (.int p1), .val (.int p2), .val (.int p3), .val (.int p4), .val (.int p5), .val (.int w.val.toInt32), .val (.int (1 : Int32)), .val (.int (0 : Int32)), .val (.int cc.val.toInt32), .val (.ref b21), .val (.ref b25), .unset, .unset, .unset] [(.ref b29), (.ref b29)])) _
    refine XS.iconst X30.here hx rfl (hb hby at_97) ?_
    show Steps p.tables e below (T30.setTop (mkF m 98 #[.val (.int p0), .val (.int p1), .val (.int p2), .val (.int p3), .val (.int p4), .val (.int p5), .val (.int w.val.toInt32), .val (.int (1 : Int32)), .val (.int (0 : Int32)), .val (.int cc.val.toInt32), .val (.ref b21), .val (.ref b25), .unset, .unset, .unset] [(.int (1 : Int32)), (.ref b29), (.ref b29)])) _
    refine XS.iloadN X30.here hx rfl (hb hby at_98) rfl ?_
    show Steps p.tables e below (T30.setTop (mkF m 99 #[.val (.int p0), .val (.int p1), .val (.int p2), .val (.int p3), .val (.int p4), .val (.int p5), .val (.int w.val.toInt32), .val (.int (1 : Int32)), .val (.int (0 : Int32)), .val (.int cc.val.toInt32), .val (.ref b21), .val (.ref b25), .unset, .unset, .unset] [(.int p2), (.int (1 : Int32)), (.ref b29), (.ref b29)])) _
    refine XS.iconst X30.here hx rfl (hb hby at_99) ?_
    show Steps p.tables e below (T30.setTop (mkF m 100 #[.val (.int p0), .val (.int p1), .val (.int p2), .val (.int p3), .val (.int p4), .val (.int p5), .val (.int w.val.toInt32), .val (.int (1 : Int32)), .val (.int (0 : Int32)), .val (.int cc.val.toInt32), .val (.ref b21), .val (.ref b25), .unset, .unset, .unset] [(.int (-1 : Int32)), (.int p2), (.int (1 : Int32)), (.ref b29), (.ref b29)])) _
    refine XT.ixor X30.here hx rfl (hb hby at_100) rfl ?_
    show Steps p.tables e below (T30.setTop (mkF m 101 #[.val (.int p0), .val (.int p1), .val (.int p2), .val (.int p3), .val (.int p4), .val (.int p5), .val (.int w.val.toInt32), .val (.int (1 : Int32)), .val (.int (0 : Int32)), .val (.int cc.val.toInt32), .val (.ref b21), .val (.ref b25), .unset, .unset, .unset] [(.int (p2 ^^^ (-1 : Int32))), (.int (1 : Int32)), (.ref b29), (.ref b29)])) _
    refine st31 _ ?_
    show Steps p.tables e below (T31.setTop (mkF m 102 #[.val (.int p0), .val (.int p1), .val (.int p2), .val (.int p3), .val (.int p4), .val (.int p5), .val (.int w.val.toInt32), .val (.int (1 : Int32)), .val (.int (0 : Int32)), .val (.int cc.val.toInt32), .val (.ref b21), .val (.ref b25), .unset, .unset, .unset] [(.ref b29)])) _
    refine XS.dup X31.here hx rfl (hb hby at_102) rfl rfl ?_
    show Steps p.tables e below (T31.setTop (mkF m 103 #[.val (.int p0), .val (.int p1), .val (.int p2), .val (.int p3), .val (.int p4), .val (.int p5), .val (.int w.val.toInt32), .val (.int (1 : Int32)), .val (.int (0 : Int32)), .val (.int cc.val.toInt32), .val (.ref b21), .val (.ref b25), .unset, .unset, .unset] [(.ref b29), (.ref b29)])) _
    refine XS.iconst X31.here hx rfl (hb hby at_103) ?_
    show Steps p.tables e below (T31.setTop (mkF m 104 #[.val (.int p0), .val (.int p1), .val (.int p2), .val (.int p3), .val (.int p4), .val (.int p5), .val (.int w.val.toInt32), .val (.int (1 : Int32)), .val (.int (0 : Int32)), .val (.int cc.val.toInt32), .val (.ref b21), .val (.ref b25), .unset, .unset, .unset] [(.int (2 : Int32)), (.ref b29), (.ref b29)])) _
    refine XS.iloadN X31.here hx rfl (hb hby at_104) rfl ?_
    show Steps p.tables e below (T31.setTop (mkF m 105 #[.val (.int p0), .val (.int p1), .val (.int p2), .val (.int p3), .val (.int p4), .val (.int p5), .val (.int w.val.toInt32), .val (.int (1 : Int32)), .val (.int (0 : Int32)), .val (.int cc.val.toInt32), .val (.ref b21), .val (.ref b25), .unset, .unset, .unset] [(.int p3), (.int (2 : Int32)), (.ref b29), (.ref b29)])) _
    refine XS.iconst X31.here hx rfl (hb hby at_105) ?_
    show Steps p.tables e below (T31.setTop (mkF m 106 #[.val (.int p0), .val (.int p1), .val (.int p2), .val (.int p3), .val (.int p4), .val (.int p5), .val (.int w.val.toInt32), .val (.int (1 : Int32)), .val (.int (0 : Int32)), .val (.int cc.val.toInt32), .val (.ref b21), .val (.ref b25), .unset, .unset, .unset] [(.int (-1 : Int32)), (.int p3), (.int (2 : Int32)), (.ref b29), (.ref b29)])) _
    refine XT.ixor X31.here hx rfl (hb hby at_106) rfl ?_
    show Steps p.tables e below (T31.setTop (mkF m 107 #[.val (.int p0), .val (.int p1), .val (.int p2), .val (.int p3), .val (.int p4), .val (.int p5), .val (.int w.val.toInt32), .val (.int (1 : Int32)), .val (.int (0 : Int32)), .val (.int cc.val.toInt32), .val (.ref b21), .val (.ref b25), .unset, .unset, .unset] [(.int (p3 ^^^ (-1 : Int32))), (.int (2 : Int32)), (.ref b29), (.ref b29)])) _
    refine st32 _ ?_
    show Steps p.tables e below (T32.setTop (mkF m 108 #[.val (.int p0), .val (.int p1), .val (.int p2), .val (.int p3), .val (.int p4), .val (.int p5), .val (.int w.val.toInt32), .val (.int (1 : Int32)), .val (.int (0 : Int32)), .val (.int cc.val.toInt32), .val (.ref b21), .val (.ref b25), .unset, .unset, .unset] [(.ref b29)])) _
    refine XS.astore X32.here hx rfl (hb hby at_108) rfl rfl (l' := #[.val (.int p0), .val (.int p1), .val (.int p2), .val (.int p3), .val (.int p4), .val (.int p5), .val (.int w.val.toInt32), .val (.int (1 : Int32)), .val (.int (0 : Int32)), .val (.int cc.val.toInt32), .val (.ref b21), .val (.ref b25), .val (.ref b29), .unset, .unset]) rfl ?_
    show Steps p.tables e below (T32.setTop (mkF m 110 #[.val (.int p0), .val (.int p1), .val (.int p2), .val (.int p3), .val (.int p4), .val (.int p5), .val (.int w.val.toInt32), .val (.int (1 : Int32)), .val (.int (0 : Int32)), .val (.int cc.val.toInt32), .val (.ref b21), .val (.ref b25), .val (.ref b29), .unset, .unset] [])) _
    refine st33 _ ?_
    show Steps p.tables e below (T33.setTop (mkF m 113 #[.val (.int p0), .val (.int p1), .val (.int p2), .val (.int p3), .val (.int p4), .val (.int p5), .val (.int w.val.toInt32), .val (.int (1 : Int32)), .val (.int (0 : Int32)), .val (.int cc.val.toInt32), .val (.ref b21), .val (.ref b25), .val (.ref b29), .unset, .unset] [(.ref b33)])) _
    refine XS.dup X33.here hx rfl (hb hby at_113) rfl rfl ?_
    show Steps p.tables e below (T33.setTop (mkF m 114 #[.val (.int p0), .val (.int p1), .val (.int p2), .val (.int p3), .val (.int p4), .val (.int p5), .val (.int w.val.toInt32), .val (.int (1 : Int32)), .val (.int (0 : Int32)), .val (.int cc.val.toInt32), .val (.ref b21), .val (.ref b25), .val (.ref b29), .unset, .unset] [(.ref b33), (.ref b33)])) _
    refine XS.iload X33.here hx rfl (hb hby at_114) rfl ?_
    show Steps p.tables e below (T33.setTop (mkF m 116 #[.val (.int p0), .val (.int p1), .val (.int p2), .val (.int p3), .val (.int p4), .val (.int p5), .val (.int w.val.toInt32), .val (.int (1 : Int32)), .val (.int (0 : Int32)), .val (.int cc.val.toInt32), .val (.ref b21), .val (.ref b25), .val (.ref b29), .unset, .unset] [(.int w.val.toInt32), (.ref b33), (.ref b33)])) _
    refine st34.trans ?_
    show Steps p.tables e below (T34.setTop (mkF m 119 #[.val (.int p0), .val (.int p1), .val (.int p2), .val (.int p3), .val (.int p4), .val (.int p5), .val (.int w.val.toInt32), .val (.int (1 : Int32)), .val (.int (0 : Int32)), .val (.int cc.val.toInt32), .val (.ref b21), .val (.ref b25), .val (.ref b29), .unset, .unset] [(.ref b33)])) _
    refine XS.astore X34.here hx rfl (hb hby at_119) rfl rfl (l' := #[.val (.int p0), .val (.int p1), .val (.int p2), .val (.int p3), .val (.int p4), .val (.int p5), .val (.int w.val.toInt32), .val (.int (1 : Int32)), .val (.int (0 : Int32)), .val (.int cc.val.toInt32), .val (.ref b21), .val (.ref b25), .val (.ref b29), .val (.ref b33), .unset]) rfl ?_
    show Steps p.tables e below (T34.setTop (mkF m 121 #[.val (.int p0), .val (.int p1), .val (.int p2), .val (.int p3), .val (.int p4), .val (.int p5), .val (.int w.val.toInt32), .val (.int (1 : Int32)), .val (.int (0 : Int32)), .val (.int cc.val.toInt32), .val (.ref b21), .val (.ref b25), .val (.ref b29), .val (.ref b33), .unset] [])) _
    refine XS.aload X34.here hx rfl (hb hby at_121) rfl rfl ?_
    show Steps p.tables e below (T34.setTop (mkF m 123 #[.val (.int p0), .val (.int p1), .val (.int p2), .val (.int p3), .val (.int p4), .val (.int p5), .val (.int w.val.toInt32), .val (.int (1 : Int32)), .val (.int (0 : Int32)), .val (.int cc.val.toInt32), .val (.ref b21), .val (.ref b25), .val (.ref b29), .val (.ref b33), .unset] [(.ref b33)])) _
    refine XS.aload X34.here hx rfl (hb hby at_123) rfl rfl ?_
    show Steps p.tables e below (T34.setTop (mkF m 125 #[.val (.int p0), .val (.int p1), .val (.int p2), .val (.int p3), .val (.int p4), .val (.int p5), .val (.int w.val.toInt32), .val (.int (1 : Int32)), .val (.int (0 : Int32)), .val (.int cc.val.toInt32), .val (.ref b21), .val (.ref b25), .val (.ref b29), .val (.ref b33), .unset] [(.ref b21), (.ref b33)])) _
    refine st35.trans ?_
    show Steps p.tables e below (T35.setTop (mkF m 128 #[.val (.int p0), .val (.int p1), .val (.int p2), .val (.int p3), .val (.int p4), .val (.int p5), .val (.int w.val.toInt32), .val (.int (1 : Int32)), .val (.int (0 : Int32)), .val (.int cc.val.toInt32), .val (.ref b21), .val (.ref b25), .val (.ref b29), .val (.ref b33), .unset] [])) _
    refine XS.iload X35.here hx rfl (hb hby at_128) rfl ?_
    show Steps p.tables e below (T35.setTop (mkF m 130 #[.val (.int p0), .val (.int p1), .val (.int p2), .val (.int p3), .val (.int p4), .val (.int p5), .val (.int w.val.toInt32), .val (.int (1 : Int32)), .val (.int (0 : Int32)), .val (.int cc.val.toInt32), .val (.ref b21), .val (.ref b25), .val (.ref b29), .val (.ref b33), .unset] [(.int (1 : Int32))])) _
    refine XS.iconst X35.here hx rfl (hb hby at_130) ?_
    show Steps p.tables e below (T35.setTop (mkF m 131 #[.val (.int p0), .val (.int p1), .val (.int p2), .val (.int p3), .val (.int p4), .val (.int p5), .val (.int w.val.toInt32), .val (.int (1 : Int32)), .val (.int (0 : Int32)), .val (.int cc.val.toInt32), .val (.ref b21), .val (.ref b25), .val (.ref b29), .val (.ref b33), .unset] [(.int (2 : Int32)), (.int (1 : Int32))])) _
    refine XS.icmpYes X35.here hx rfl (pc0 := 131) (pc' := 141) rfl (hb hby at_131) rfl (XT.ii_lt_t (by decide)) (by decide) (by decide) ?_
    show Steps p.tables e below (T35.setTop (mkF m 141 #[.val (.int p0), .val (.int p1), .val (.int p2), .val (.int p3), .val (.int p4), .val (.int p5), .val (.int w.val.toInt32), .val (.int (1 : Int32)), .val (.int (0 : Int32)), .val (.int cc.val.toInt32), .val (.ref b21), .val (.ref b25), .val (.ref b29), .val (.ref b33), .unset] [])) _
    refine XS.iload X35.here hx rfl (hb hby at_141) rfl ?_
    show Steps p.tables e below (T35.setTop (mkF m 143 #[.val (.int p0), .val (.int p1), .val (.int p2), .val (.int p3), .val (.int p4), .val (.int p5), .val (.int w.val.toInt32), .val (.int (1 : Int32)), .val (.int (0 : Int32)), .val (.int cc.val.toInt32), .val (.ref b21), .val (.ref b25), .val (.ref b29), .val (.ref b33), .unset] [(.int (1 : Int32))])) _
    refine XS.iconst X35.here hx rfl (hb hby at_143) ?_
    show Steps p.tables e below (T35.setTop (mkF m 144 #[.val (.int p0), .val (.int p1), .val (.int p2), .val (.int p3), .val (.int p4), .val (.int p5), .val (.int w.val.toInt32), .val (.int (1 : Int32)), .val (.int (0 : Int32)), .val (.int cc.val.toInt32), .val (.ref b21), .val (.ref b25), .val (.ref b29), .val (.ref b33), .unset] [(.int (3 : Int32)), (.int (1 : Int32))])) _
    refine XS.icmpYes X35.here hx rfl (pc0 := 144) (pc' := 154) rfl (hb hby at_144) rfl (XT.ii_lt_t (by decide)) (by decide) (by decide) ?_
    show Steps p.tables e below (T35.setTop (mkF m 154 #[.val (.int p0), .val (.int p1), .val (.int p2), .val (.int p3), .val (.int p4), .val (.int p5), .val (.int w.val.toInt32), .val (.int (1 : Int32)), .val (.int (0 : Int32)), .val (.int cc.val.toInt32), .val (.ref b21), .val (.ref b25), .val (.ref b29), .val (.ref b33), .unset] [])) _
    refine XS.iload X35.here hx rfl (hb hby at_154) rfl ?_
    show Steps p.tables e below (T35.setTop (mkF m 156 #[.val (.int p0), .val (.int p1), .val (.int p2), .val (.int p3), .val (.int p4), .val (.int p5), .val (.int w.val.toInt32), .val (.int (1 : Int32)), .val (.int (0 : Int32)), .val (.int cc.val.toInt32), .val (.ref b21), .val (.ref b25), .val (.ref b29), .val (.ref b33), .unset] [(.int (0 : Int32))])) _
    refine XS.ifNo X35.here hx rfl (hb hby at_156) rfl (XT.i0_ne_f (by decide)) ?_
    show Steps p.tables e below (T35.setTop (mkF m 159 #[.val (.int p0), .val (.int p1), .val (.int p2), .val (.int p3), .val (.int p4), .val (.int p5), .val (.int w.val.toInt32), .val (.int (1 : Int32)), .val (.int (0 : Int32)), .val (.int cc.val.toInt32), .val (.ref b21), .val (.ref b25), .val (.ref b29), .val (.ref b33), .unset] [])) _
    refine XS.aload X35.here hx rfl (hb hby at_159) rfl rfl ?_
    show Steps p.tables e below (T35.setTop (mkF m 161 #[.val (.int p0), .val (.int p1), .val (.int p2), .val (.int p3), .val (.int p4), .val (.int p5), .val (.int w.val.toInt32), .val (.int (1 : Int32)), .val (.int (0 : Int32)), .val (.int cc.val.toInt32), .val (.ref b21), .val (.ref b25), .val (.ref b29), .val (.ref b33), .unset] [(.ref b21)])) _
    refine XS.iload X35.here hx rfl (hb hby at_161) rfl ?_
    show Steps p.tables e below (T35.setTop (mkF m 163 #[.val (.int p0), .val (.int p1), .val (.int p2), .val (.int p3), .val (.int p4), .val (.int p5), .val (.int w.val.toInt32), .val (.int (1 : Int32)), .val (.int (0 : Int32)), .val (.int cc.val.toInt32), .val (.ref b21), .val (.ref b25), .val (.ref b29), .val (.ref b33), .unset] [(.int cc.val.toInt32), (.ref b21)])) _
    refine X35.iaload hx (j := cc.val.toInt32) (v := (.int (own_x (upd (upd (upd (fun _ => (.int 0)) 0 (.int p0)) 1 (.int p1)) 2 (.int p2)) cc.val))) Ar36.1 (State.isArrayOf_alike hZ.alike Ar36.2.1) Ar36.2.2 hin36 hat36 (g := (mkF m 163 #[.val (.int p0), .val (.int p1), .val (.int p2), .val (.int p3), .val (.int p4), .val (.int p5), .val (.int w.val.toInt32), .val (.int (1 : Int32)), .val (.int (0 : Int32)), .val (.int cc.val.toInt32), .val (.ref b21), .val (.ref b25), .val (.ref b29), .val (.ref b33), .unset] [(.int cc.val.toInt32), (.ref b21)])) rfl rfl (hb hby at_163) _ ?_
    show Steps p.tables e below (T35.setTop (mkF m 164 #[.val (.int p0), .val (.int p1), .val (.int p2), .val (.int p3), .val (.int p4), .val (.int p5), .val (.int w.val.toInt32), .val (.int (1 : Int32)), .val (.int (0 : Int32)), .val (.int cc.val.toInt32), .val (.ref b21), .val (.ref b25), .val (.ref b29), .val (.ref b33), .unset] [(.int (own_x (upd (upd (upd (fun _ => (.int 0)) 0 (.int p0)) 1 (.int p1)) 2 (.int p2)) cc.val))])) _
    refine XS.istore X35.here hx rfl (hb hby at_164) rfl (l' := #[.val (.int p0), .val (.int p1), .val (.int p2), .val (.int p3), .val (.int p4), .val (.int p5), .val (.int w.val.toInt32), .val (.int (1 : Int32)), .val (.int (0 : Int32)), .val (.int cc.val.toInt32), .val (.ref b21), .val (.ref b25), .val (.ref b29), .val (.ref b33), .val (.int (own_x (upd (upd (upd (fun _ => (.int 0)) 0 (.int p0)) 1 (.int p1)) 2 (.int p2)) cc.val))]) rfl ?_
    show Steps p.tables e below (T35.setTop (mkF m 166 #[.val (.int p0), .val (.int p1), .val (.int p2), .val (.int p3), .val (.int p4), .val (.int p5), .val (.int w.val.toInt32), .val (.int (1 : Int32)), .val (.int (0 : Int32)), .val (.int cc.val.toInt32), .val (.ref b21), .val (.ref b25), .val (.ref b29), .val (.ref b33), .val (.int (own_x (upd (upd (upd (fun _ => (.int 0)) 0 (.int p0)) 1 (.int p1)) 2 (.int p2)) cc.val))] [])) _
    refine XS.goto X35.here hx rfl (pc0 := 166) (pc' := 192) rfl (hb hby at_166) (by decide) (by decide) ?_
    show Steps p.tables e below (T35.setTop (mkF m 192 #[.val (.int p0), .val (.int p1), .val (.int p2), .val (.int p3), .val (.int p4), .val (.int p5), .val (.int w.val.toInt32), .val (.int (1 : Int32)), .val (.int (0 : Int32)), .val (.int cc.val.toInt32), .val (.ref b21), .val (.ref b25), .val (.ref b29), .val (.ref b33), .val (.int (own_x (upd (upd (upd (fun _ => (.int 0)) 0 (.int p0)) 1 (.int p1)) 2 (.int p2)) cc.val))] [])) _
    refine XS.aload X35.here hx rfl (hb hby at_192) rfl rfl ?_
    show Steps p.tables e below (T35.setTop (mkF m 194 #[.val (.int p0), .val (.int p1), .val (.int p2), .val (.int p3), .val (.int p4), .val (.int p5), .val (.int w.val.toInt32), .val (.int (1 : Int32)), .val (.int (0 : Int32)), .val (.int cc.val.toInt32), .val (.ref b21), .val (.ref b25), .val (.ref b29), .val (.ref b33), .val (.int (own_x (upd (upd (upd (fun _ => (.int 0)) 0 (.int p0)) 1 (.int p1)) 2 (.int p2)) cc.val))] [(.ref b33)])) _
    refine XS.iload X35.here hx rfl (hb hby at_194) rfl ?_
    show Steps p.tables e below (T35.setTop (mkF m 196 #[.val (.int p0), .val (.int p1), .val (.int p2), .val (.int p3), .val (.int p4), .val (.int p5), .val (.int w.val.toInt32), .val (.int (1 : Int32)), .val (.int (0 : Int32)), .val (.int cc.val.toInt32), .val (.ref b21), .val (.ref b25), .val (.ref b29), .val (.ref b33), .val (.int (own_x (upd (upd (upd (fun _ => (.int 0)) 0 (.int p0)) 1 (.int p1)) 2 (.int p2)) cc.val))] [(.int (0 : Int32)), (.ref b33)])) _
    refine XS.iload X35.here hx rfl (hb hby at_196) rfl ?_
    show Steps p.tables e below (T35.setTop (mkF m 198 #[.val (.int p0), .val (.int p1), .val (.int p2), .val (.int p3), .val (.int p4), .val (.int p5), .val (.int w.val.toInt32), .val (.int (1 : Int32)), .val (.int (0 : Int32)), .val (.int cc.val.toInt32), .val (.ref b21), .val (.ref b25), .val (.ref b29), .val (.ref b33), .val (.int (own_x (upd (upd (upd (fun _ => (.int 0)) 0 (.int p0)) 1 (.int p1)) 2 (.int p2)) cc.val))] [(.int cc.val.toInt32), (.int (0 : Int32)), (.ref b33)])) _
    refine st37.trans ?_
    show Steps p.tables e below (T37.setTop (mkF m 201 #[.val (.int p0), .val (.int p1), .val (.int p2), .val (.int p3), .val (.int p4), .val (.int p5), .val (.int w.val.toInt32), .val (.int (1 : Int32)), .val (.int (0 : Int32)), .val (.int cc.val.toInt32), .val (.ref b21), .val (.ref b25), .val (.ref b29), .val (.ref b33), .val (.int (own_x (upd (upd (upd (fun _ => (.int 0)) 0 (.int p0)) 1 (.int p1)) 2 (.int p2)) cc.val))] [(.int (own_x (upd (upd (upd (fun _ => (.int 0)) 0 (.int p0)) 1 (.int p1)) 2 (.int p2)) cc.val))])) _
    refine XS.iload X37.here hx rfl (hb hby at_201) rfl ?_
    show Steps p.tables e below (T37.setTop (mkF m 203 #[.val (.int p0), .val (.int p1), .val (.int p2), .val (.int p3), .val (.int p4), .val (.int p5), .val (.int w.val.toInt32), .val (.int (1 : Int32)), .val (.int (0 : Int32)), .val (.int cc.val.toInt32), .val (.ref b21), .val (.ref b25), .val (.ref b29), .val (.ref b33), .val (.int (own_x (upd (upd (upd (fun _ => (.int 0)) 0 (.int p0)) 1 (.int p1)) 2 (.int p2)) cc.val))] [(.int (own_x (upd (upd (upd (fun _ => (.int 0)) 0 (.int p0)) 1 (.int p1)) 2 (.int p2)) cc.val)), (.int (own_x (upd (upd (upd (fun _ => (.int 0)) 0 (.int p0)) 1 (.int p1)) 2 (.int p2)) cc.val))])) _
    refine XS.icmpNo X37.here hx rfl (hb hby at_203) rfl (XT.ii_ne_f rfl) ?_
    show Steps p.tables e below (T37.setTop (mkF m 206 #[.val (.int p0), .val (.int p1), .val (.int p2), .val (.int p3), .val (.int p4), .val (.int p5), .val (.int w.val.toInt32), .val (.int (1 : Int32)), .val (.int (0 : Int32)), .val (.int cc.val.toInt32), .val (.ref b21), .val (.ref b25), .val (.ref b29), .val (.ref b33), .val (.int (own_x (upd (upd (upd (fun _ => (.int 0)) 0 (.int p0)) 1 (.int p1)) 2 (.int p2)) cc.val))] [])) _
    refine XS.iconst X37.here hx rfl (hb hby at_206) ?_
    show Steps p.tables e below (T37.setTop (mkF m 207 #[.val (.int p0), .val (.int p1), .val (.int p2), .val (.int p3), .val (.int p4), .val (.int p5), .val (.int w.val.toInt32), .val (.int (1 : Int32)), .val (.int (0 : Int32)), .val (.int cc.val.toInt32), .val (.ref b21), .val (.ref b25), .val (.ref b29), .val (.ref b33), .val (.int (own_x (upd (upd (upd (fun _ => (.int 0)) 0 (.int p0)) 1 (.int p1)) 2 (.int p2)) cc.val))] [(.int (1 : Int32))])) _
    refine XS.goto X37.here hx rfl (pc0 := 207) (pc' := 211) rfl (hb hby at_207) (by decide) (by decide) ?_
    show Steps p.tables e below (T37.setTop (mkF m 211 #[.val (.int p0), .val (.int p1), .val (.int p2), .val (.int p3), .val (.int p4), .val (.int p5), .val (.int w.val.toInt32), .val (.int (1 : Int32)), .val (.int (0 : Int32)), .val (.int cc.val.toInt32), .val (.ref b21), .val (.ref b25), .val (.ref b29), .val (.ref b33), .val (.int (own_x (upd (upd (upd (fun _ => (.int 0)) 0 (.int p0)) 1 (.int p1)) 2 (.int p2)) cc.val))] [(.int (1 : Int32))])) _
    exact retN X37 hx (t := .boolean) Bd.returns (by simp) (hb hby at_211) hr
  · show Q_own_law_1_0 Z p0 p1 p2 p3 p4 p5 w cc h0 n0 _ T37.heap _
    rw [eh37]
    exact ⟨rfl, N37⟩
theorem pn_own_law_2_0 : plainName "com/example/factwell/factwell/pql/RowsGetPinLaw" = true := by first | (simp [plainName, overriddenIn]; done) | decide +kernel
theorem ef_own_law_2_0 (m : MethodId) (x0 : Int32) (x1 : Int32) (x2 : Int32) (x3 : Int32) (x4 : Int32) (x5 : Int32) : entryFrame m #[(.int x0), (.int x1), (.int x2), (.int x3), (.int x4), (.int x5)] maxLocals = mkF m 0 #[.val (.int x0), .val (.int x1), .val (.int x2), .val (.int x3), .val (.int x4), .val (.int x5), .unset, .unset, .unset, .unset, .unset, .unset, .unset, .unset, .unset] [] := by first | (simp [entryFrame, mkF, argsToLocals, Value.category, maxLocals]; done) | rfl
def Q_own_law_2_0 (Z : State) (p0 : Int32) (p1 : Int32) (p2 : Int32) (p3 : Int32) (p4 : Int32) (p5 : Int32) (w : Fin 4) (cc : Fin 3) (h0 : Heap) (n0 : Nat) (v : Option Value) (h : Heap) (L : List Loc) : Prop := v = some (.int 1) ∧ Fr n0 L
set_option maxRecDepth 65536 in
set_option maxHeartbeats 40000000 in
theorem own_law_2_0 (l : Launch) (Z : State) (a0 : Array Value) (hw : ∀ d ∈ tables_1, d.before a0 Z = true) (ws : List Jvm.Cond) (p0 : Int32) (p1 : Int32) (p2 : Int32) (p3 : Int32) (p4 : Int32) (p5 : Int32) (w : Fin 4) (cc : Fin 3) (h0 : Heap) (n0 : Nat) (Z0 : n0 ≤ h0.size) (hW_ : ((1 : Int32) + ((p5 &&& (15 : Int32)) % (3 : Int32))) = w.val.toInt32) (hN_ : ((1 : Int32) + (((XT.ushr p5 (4 : Int32)) &&& (15 : Int32)) % (3 : Int32))) = (2 : Int32)) (hR_ : (((XT.ushr p5 (8 : Int32)) &&& (15 : Int32)) % (2 : Int32)) = (0 : Int32)) (hC_ : (((XT.ushr p5 (12 : Int32)) &&& (15 : Int32)) % w.val.toInt32) = cc.val.toInt32) (hw1 : 1 ≤ w.val) (hcw : cc.val < w.val) :
    MetFree l x (head1 (Jvm.Cond.code x code maxLocals ret :: ws) room_1) (fun a U => a = #[(.int p0), (.int p1), (.int p2), (.int p3), (.int p4), (.int p5)] ∧ Z.Warmed39 U.vm ∧ U.heap = h0) (fun _ _ _ _ _ => True) (fun _ U o U' => ∃ v L, o = .returned v ∧ Q_own_law_2_0 Z p0 p1 p2 p3 p4 p5 w cc h0 n0 v U'.heap L ∧ FrameEnd U o U' L 24 192) := by
  refine MetFree.of_bodySF (plainFor_of_name pn_own_law_2_0) hisR ?_
  intro p e s m args below meth c s₁ Bd hml0 hP hK
  obtain ⟨rfl, hZ, hh⟩ := hP
  have hx := Bd.exec
  have hby := Bd.bytes
  have hml : c.maxLocals = 15 := hml0
  have hown : s.vm.findClass "com/example/factwell/factwell/pql/RowsGetPinLaw" = some m.cls := findClass_of_methodNamed Bd.named
  have hnm := (name_of_methodNamed Bd.named Bd.method).1
  have X0 : Stand p l e room_1 s m #[(.int p0), (.int p1), (.int p2), (.int p3), (.int p4), (.int p5)] below meth c s₁ [] 0 0 := Stand.of_body Bd
  have e0 : s₁.heap = h0 := by rw [← hh, Bd.state]; rfl
  have N0 := Fr.nil n0
  have pre0 : ∀ t, Steps p.tables e below (s₁.setTop (mkF m 0 #[.val (.int p0), .val (.int p1), .val (.int p2), .val (.int p3), .val (.int p4), .val (.int p5), .unset, .unset, .unset, .unset, .unset, .unset, .unset, .unset, .unset] [])) t → Steps p.tables e below (s₁.setTop (entryFrame m #[(.int p0), (.int p1), (.int p2), (.int p3), (.int p4), (.int p5)] maxLocals)) t := fun t k => castTop (ef_own_law_2_0 m (p0) (p1) (p2) (p3) (p4) (p5)) k
  obtain ⟨T38, h38, k38, X38, e38, E38, A38, st38⟩ := newP X0 hx hZ (hw _ (List.mem_of_getElem? (i := 0) rfl)) e0 (g := (mkF m 51 #[.val (.int p0), .val (.int p1), .val (.int p2), .val (.int p3), .val (.int p4), .val (.int p5), .val (.int w.val.toInt32), .val (.int (2 : Int32)), .val (.int (0 : Int32)), .val (.int cc.val.toInt32), .unset, .unset, .unset, .unset, .unset] [(.int (3 : Int32))])) rfl (hb hby at_51) rfl (by decide) (cap := 3) (by decide) (by decide) (by decide) (by decide)
  obtain ⟨b38, g38⟩ : ∃ z, z = h0.size := ⟨_, rfl⟩
  rw [← g38] at A38 st38
  have g_b38 : n0 ≤ b38 := Nat.le_trans Z0 (Nat.le_of_eq g38.symm)
  have V38 := Arf.new (n := 3) A38 (by decide) rfl
  obtain ⟨cl39, Ar39, qk39, S39, B39, H39, G39⟩ := id V38
  have hin39 : ¬ ((0 : Int32) < 0 ∨ cl39.slots.size ≤ ((0 : Int32)).toNatClampNeg) := own_inb S39 ⟨by decide, rfl⟩ (by decide)
  obtain ⟨T39, h39, X39, e39, W39, st39⟩ := stI X38 hx hZ e38 Ar39 (j := (0 : Int32)) hin39 (g := (mkF m 56 #[.val (.int p0), .val (.int p1), .val (.int p2), .val (.int p3), .val (.int p4), .val (.int p5), .val (.int w.val.toInt32), .val (.int (2 : Int32)), .val (.int (0 : Int32)), .val (.int cc.val.toInt32), .unset, .unset, .unset, .unset, .unset] [(.int p0), (.int (0 : Int32)), (.ref b38), (.ref b38)])) rfl rfl (hb hby at_56)
  have V39 := own_set Ar39 qk39 S39 B39 H39 G39 rfl ⟨by decide, rfl⟩ W39
  have N39 := Fr.snoc X39 N0 g_b38
  obtain ⟨cl40, Ar40, qk40, S40, B40, H40, G40⟩ := id V39
  have hin40 : ¬ ((1 : Int32) < 0 ∨ cl40.slots.size ≤ ((1 : Int32)).toNatClampNeg) := own_inb S40 ⟨by decide, rfl⟩ (by decide)
  obtain ⟨T40, h40, X40, e40, W40, st40⟩ := stI X39 hx hZ e39 Ar40 (j := (1 : Int32)) hin40 (g := (mkF m 60 #[.val (.int p0), .val (.int p1), .val (.int p2), .val (.int p3), .val (.int p4), .val (.int p5), .val (.int w.val.toInt32), .val (.int (2 : Int32)), .val (.int (0 : Int32)), .val (.int cc.val.toInt32), .unset, .unset, .unset, .unset, .unset] [(.int p1), (.int (1 : Int32)), (.ref b38), (.ref b38)])) rfl rfl (hb hby at_60)
  have V40 := own_set Ar40 qk40 S40 B40 H40 G40 rfl ⟨by decide, rfl⟩ W40
  have N40 := Fr.snoc X40 N39 g_b38
  obtain ⟨cl41, Ar41, qk41, S41, B41, H41, G41⟩ := id V40
  have hin41 : ¬ ((2 : Int32) < 0 ∨ cl41.slots.size ≤ ((2 : Int32)).toNatClampNeg) := own_inb S41 ⟨by decide, rfl⟩ (by decide)
  obtain ⟨T41, h41, X41, e41, W41, st41⟩ := stI X40 hx hZ e40 Ar41 (j := (2 : Int32)) hin41 (g := (mkF m 64 #[.val (.int p0), .val (.int p1), .val (.int p2), .val (.int p3), .val (.int p4), .val (.int p5), .val (.int w.val.toInt32), .val (.int (2 : Int32)), .val (.int (0 : Int32)), .val (.int cc.val.toInt32), .unset, .unset, .unset, .unset, .unset] [(.int p2), (.int (2 : Int32)), (.ref b38), (.ref b38)])) rfl rfl (hb hby at_64)
  have V41 := own_set Ar41 qk41 S41 B41 H41 G41 rfl ⟨by decide, rfl⟩ W41
  have N41 := Fr.snoc X41 N40 g_b38
  obtain ⟨T42, h42, k42, X42, e42, E42, A42, st42⟩ := newP X41 hx hZ (hw _ (List.mem_of_getElem? (i := 0) rfl)) e41 (g := (mkF m 68 #[.val (.int p0), .val (.int p1), .val (.int p2), .val (.int p3), .val (.int p4), .val (.int p5), .val (.int w.val.toInt32), .val (.int (2 : Int32)), .val (.int (0 : Int32)), .val (.int cc.val.toInt32), .val (.ref b38), .unset, .unset, .unset, .unset] [(.int (3 : Int32))])) rfl (hb hby at_68) rfl (by decide) (cap := 3) (by decide) (by decide) (by decide) (by decide)
  obtain ⟨b42, g42⟩ : ∃ z, z = h41.size := ⟨_, rfl⟩
  rw [← g42] at A42 st42
  have g_b42 : n0 ≤ b42 := Nat.le_trans (Nat.le_trans (Nat.le_trans (Nat.le_trans (Nat.le_trans Z0 E38.1) (Keep.of_wr W39).1) (Keep.of_wr W40).1) (Keep.of_wr W41).1) (Nat.le_of_eq g42.symm)
  have lt_b38_b42 : b38 < b42 := Nat.lt_of_lt_of_eq V41.lt g42.symm
  have V42 := Arf.new (n := 3) A42 (by decide) rfl
  obtain ⟨cl43, Ar43, qk43, S43, B43, H43, G43⟩ := id V42
  have hin43 : ¬ ((0 : Int32) < 0 ∨ cl43.slots.size ≤ ((0 : Int32)).toNatClampNeg) := own_inb S43 ⟨by decide, rfl⟩ (by decide)
  obtain ⟨T43, h43, X43, e43, W43, st43⟩ := stI X42 hx hZ e42 Ar43 (j := (0 : Int32)) hin43 (g := (mkF m 73 #[.val (.int p0), .val (.int p1), .val (.int p2), .val (.int p3), .val (.int p4), .val (.int p5), .val (.int w.val.toInt32), .val (.int (2 : Int32)), .val (.int (0 : Int32)), .val (.int cc.val.toInt32), .val (.ref b38), .unset, .unset, .unset, .unset] [(.int p3), (.int (0 : Int32)), (.ref b42), (.ref b42)])) rfl rfl (hb hby at_73)
  have V43 := own_set Ar43 qk43 S43 B43 H43 G43 rfl ⟨by decide, rfl⟩ W43
  have N43 := Fr.snoc X43 N41 g_b42
  obtain ⟨cl44, Ar44, qk44, S44, B44, H44, G44⟩ := id V43
  have hin44 : ¬ ((1 : Int32) < 0 ∨ cl44.slots.size ≤ ((1 : Int32)).toNatClampNeg) := own_inb S44 ⟨by decide, rfl⟩ (by decide)
  obtain ⟨T44, h44, X44, e44, W44, st44⟩ := stI X43 hx hZ e43 Ar44 (j := (1 : Int32)) hin44 (g := (mkF m 78 #[.val (.int p0), .val (.int p1), .val (.int p2), .val (.int p3), .val (.int p4), .val (.int p5), .val (.int w.val.toInt32), .val (.int (2 : Int32)), .val (.int (0 : Int32)), .val (.int cc.val.toInt32), .val (.ref b38), .unset, .unset, .unset, .unset] [(.int p4), (.int (1 : Int32)), (.ref b42), (.ref b42)])) rfl rfl (hb hby at_78)
  have V44 := own_set Ar44 qk44 S44 B44 H44 G44 rfl ⟨by decide, rfl⟩ W44
  have N44 := Fr.snoc X44 N43 g_b42
  obtain ⟨cl45, Ar45, qk45, S45, B45, H45, G45⟩ := id V44
  have hin45 : ¬ ((2 : Int32) < 0 ∨ cl45.slots.size ≤ ((2 : Int32)).toNatClampNeg) := own_inb S45 ⟨by decide, rfl⟩ (by decide)
  obtain ⟨T45, h45, X45, e45, W45, st45⟩ := stI X44 hx hZ e44 Ar45 (j := (2 : Int32)) hin45 (g := (mkF m 84 #[.val (.int p0), .val (.int p1), .val (.int p2), .val (.int p3), .val (.int p4), .val (.int p5), .val (.int w.val.toInt32), .val (.int (2 : Int32)), .val (.int (0 : Int32)), .val (.int cc.val.toInt32), .val (.ref b38), .unset, .unset, .unset, .unset] [(.int (p0 ^^^ (-1 : Int32))), (.int (2 : Int32)), (.ref b42), (.ref b42)])) rfl rfl (hb hby at_84)
  have V45 := own_set Ar45 qk45 S45 B45 H45 G45 rfl ⟨by decide, rfl⟩ W45
  have N45 := Fr.snoc X45 N44 g_b42
  obtain ⟨T46, h46, k46, X46, e46, E46, A46, st46⟩ := newP X45 hx hZ (hw _ (List.mem_of_getElem? (i := 0) rfl)) e45 (g := (mkF m 88 #[.val (.int p0), .val (.int p1), .val (.int p2), .val (.int p3), .val (.int p4), .val (.int p5), .val (.int w.val.toInt32), .val (.int (2 : Int32)), .val (.int (0 : Int32)), .val (.int cc.val.toInt32), .val (.ref b38), .val (.ref b42), .unset, .unset, .unset] [(.int (3 : Int32))])) rfl (hb hby at_88) rfl (by decide) (cap := 3) (by decide) (by decide) (by decide) (by decide)
  obtain ⟨b46, g46⟩ : ∃ z, z = h45.size := ⟨_, rfl⟩
  rw [← g46] at A46 st46
  have g_b46 : n0 ≤ b46 := Nat.le_trans (Nat.le_trans (Nat.le_trans (Nat.le_trans (Nat.le_trans (Nat.le_trans (Nat.le_trans (Nat.le_trans (Nat.le_trans Z0 E38.1) (Keep.of_wr W39).1) (Keep.of_wr W40).1) (Keep.of_wr W41).1) E42.1) (Keep.of_wr W43).1) (Keep.of_wr W44).1) (Keep.of_wr W45).1) (Nat.le_of_eq g46.symm)
  have lt_b38_b46 : b38 < b46 := Nat.lt_of_lt_of_eq ((((V41.ext E42).other W43 (Nat.ne_of_lt lt_b38_b42)).other W44 (Nat.ne_of_lt lt_b38_b42)).other W45 (Nat.ne_of_lt lt_b38_b42)).lt g46.symm
  have lt_b42_b46 : b42 < b46 := Nat.lt_of_lt_of_eq V45.lt g46.symm
  have V46 := Arf.new (n := 3) A46 (by decide) rfl
  obtain ⟨cl47, Ar47, qk47, S47, B47, H47, G47⟩ := id V46
  have hin47 : ¬ ((0 : Int32) < 0 ∨ cl47.slots.size ≤ ((0 : Int32)).toNatClampNeg) := own_inb S47 ⟨by decide, rfl⟩ (by decide)
  obtain ⟨T47, h47, X47, e47, W47, st47⟩ := stI X46 hx hZ e46 Ar47 (j := (0 : Int32)) hin47 (g := (mkF m 95 #[.val (.int p0), .val (.int p1), .val (.int p2), .val (.int p3), .val (.int p4), .val (.int p5), .val (.int w.val.toInt32), .val (.int (2 : Int32)), .val (.int (0 : Int32)), .val (.int cc.val.toInt32), .val (.ref b38), .val (.ref b42), .unset, .unset, .unset] [(.int (p1 ^^^ (-1 : Int32))), (.int (0 : Int32)), (.ref b46), (.ref b46)])) rfl rfl (hb hby at_95)
  have V47 := own_set Ar47 qk47 S47 B47 H47 G47 rfl ⟨by decide, rfl⟩ W47
  have N47 := Fr.snoc X47 N45 g_b46
  obtain ⟨cl48, Ar48, qk48, S48, B48, H48, G48⟩ := id V47
  have hin48 : ¬ ((1 : Int32) < 0 ∨ cl48.slots.size ≤ ((1 : Int32)).toNatClampNeg) := own_inb S48 ⟨by decide, rfl⟩ (by decide)
  obtain ⟨T48, h48, X48, e48, W48, st48⟩ := stI X47 hx hZ e47 Ar48 (j := (1 : Int32)) hin48 (g := (mkF m 101 #[.val (.int p0), .val (.int p1), .val (.int p2), .val (.int p3), .val (.int p4), .val (.int p5), .val (.int w.val.toInt32), .val (.int (2 : Int32)), .val (.int (0 : Int32)), .val (.int cc.val.toInt32), .val (.ref b38), .val (.ref b42), .unset, .unset, .unset] [(.int (p2 ^^^ (-1 : Int32))), (.int (1 : Int32)), (.ref b46), (.ref b46)])) rfl rfl (hb hby at_101)
  have V48 := own_set Ar48 qk48 S48 B48 H48 G48 rfl ⟨by decide, rfl⟩ W48
  have N48 := Fr.snoc X48 N47 g_b46
  obtain ⟨cl49, Ar49, qk49, S49, B49, H49, G49⟩ := id V48
  have hin49 : ¬ ((2 : Int32) < 0 ∨ cl49.slots.size ≤ ((2 : Int32)).toNatClampNeg) := own_inb S49 ⟨by decide, rfl⟩ (by decide)
  obtain ⟨T49, h49, X49, e49, W49, st49⟩ := stI X48 hx hZ e48 Ar49 (j := (2 : Int32)) hin49 (g := (mkF m 107 #[.val (.int p0), .val (.int p1), .val (.int p2), .val (.int p3), .val (.int p4), .val (.int p5), .val (.int w.val.toInt32), .val (.int (2 : Int32)), .val (.int (0 : Int32)), .val (.int cc.val.toInt32), .val (.ref b38), .val (.ref b42), .unset, .unset, .unset] [(.int (p3 ^^^ (-1 : Int32))), (.int (2 : Int32)), (.ref b46), (.ref b46)])) rfl rfl (hb hby at_107)
  have V49 := own_set Ar49 qk49 S49 B49 H49 G49 rfl ⟨by decide, rfl⟩ W49
  have N49 := Fr.snoc X49 N48 g_b46
  obtain ⟨T50, h50, X50, e50, E50, A50, D50, -, st50⟩ := newO X49 hx hZ hown (hw _ (List.mem_of_getElem? (i := 1) rfl)) (hw _ (List.mem_of_getElem? (i := 2) rfl)) (hw _ (List.mem_of_getElem? (i := 3) rfl)) e49 (g := (mkF m 110 #[.val (.int p0), .val (.int p1), .val (.int p2), .val (.int p3), .val (.int p4), .val (.int p5), .val (.int w.val.toInt32), .val (.int (2 : Int32)), .val (.int (0 : Int32)), .val (.int cc.val.toInt32), .val (.ref b38), .val (.ref b42), .val (.ref b46), .unset, .unset] [])) rfl (hb hby at_110) (by decide) (by decide)
  obtain ⟨b50, g50⟩ : ∃ z, z = h49.size := ⟨_, rfl⟩
  rw [← g50] at A50 D50 st50
  have g_b50 : n0 ≤ b50 := Nat.le_trans (Nat.le_trans (Nat.le_trans (Nat.le_trans (Nat.le_trans (Nat.le_trans (Nat.le_trans (Nat.le_trans (Nat.le_trans (Nat.le_trans (Nat.le_trans (Nat.le_trans (Nat.le_trans Z0 E38.1) (Keep.of_wr W39).1) (Keep.of_wr W40).1) (Keep.of_wr W41).1) E42.1) (Keep.of_wr W43).1) (Keep.of_wr W44).1) (Keep.of_wr W45).1) E46.1) (Keep.of_wr W47).1) (Keep.of_wr W48).1) (Keep.of_wr W49).1) (Nat.le_of_eq g50.symm)
  have lt_b38_b50 : b38 < b50 := Nat.lt_of_lt_of_eq ((((((((V41.ext E42).other W43 (Nat.ne_of_lt lt_b38_b42)).other W44 (Nat.ne_of_lt lt_b38_b42)).other W45 (Nat.ne_of_lt lt_b38_b42)).ext E46).other W47 (Nat.ne_of_lt lt_b38_b46)).other W48 (Nat.ne_of_lt lt_b38_b46)).other W49 (Nat.ne_of_lt lt_b38_b46)).lt g50.symm
  have lt_b42_b50 : b42 < b50 := Nat.lt_of_lt_of_eq ((((V45.ext E46).other W47 (Nat.ne_of_lt lt_b42_b46)).other W48 (Nat.ne_of_lt lt_b42_b46)).other W49 (Nat.ne_of_lt lt_b42_b46)).lt g50.symm
  have lt_b46_b50 : b46 < b50 := Nat.lt_of_lt_of_eq V49.lt g50.symm
  have F50_width : Fld Z h50 b50 "com/example/factwell/factwell/pql/Rows" "width" "I" (.int (0 : Int32)) := D50 (Or.inr (hw _ (List.mem_of_getElem? (i := 14) rfl))) (ty := .int) (by decide)
  have F50_mayRepeat : Fld Z h50 b50 "com/example/factwell/factwell/pql/Rows" "mayRepeat" "Z" (.int (0 : Int32)) := D50 (Or.inr (hw _ (List.mem_of_getElem? (i := 16) rfl))) (ty := .boolean) (by decide)
  have F50_cells : Fld Z h50 b50 "com/example/factwell/factwell/pql/Rows" "cells" "[I" .null := D50 (Or.inl (hw _ (List.mem_of_getElem? (i := 18) rfl))) (ty := (.array .int)) (by decide)
  have F50_count : Fld Z h50 b50 "com/example/factwell/factwell/pql/Rows" "count" "I" (.int (0 : Int32)) := D50 (Or.inl (hw _ (List.mem_of_getElem? (i := 25) rfl))) (ty := .int) (by decide)
  obtain ⟨_, _, ⟨T51, L51, k51, n51⟩, -, X51, ⟨Lc51, hQ51, l51, y51, z51⟩, st51⟩ := X50.specialBack hx (y := (⟨"com/example/factwell/factwell/pql/Rows", "<init>", "(I)V"⟩ : MethodName)) rfl hown (mvT hZ (hw _ (List.mem_of_getElem? (i := 4) rfl))) (mvT hZ (hw _ (List.mem_of_getElem? (i := 5) rfl))) (mvT hZ (hw _ (List.mem_of_getElem? (i := 6) rfl))) (by decide) (backOf (W := 1) (own_i1 l Z a0 hw [] b50 w.val.toInt32 (8 * w.val) h50 n0 (Nat.le_trans (Nat.le_trans (Nat.le_trans (Nat.le_trans (Nat.le_trans (Nat.le_trans (Nat.le_trans (Nat.le_trans (Nat.le_trans (Nat.le_trans (Nat.le_trans (Nat.le_trans (Nat.le_trans Z0 E38.1) (Keep.of_wr W39).1) (Keep.of_wr W40).1) (Keep.of_wr W41).1) E42.1) (Keep.of_wr W43).1) (Keep.of_wr W44).1) (Keep.of_wr W45).1) E46.1) (Keep.of_wr W47).1) (Keep.of_wr W48).1) (Keep.of_wr W49).1) E50.1) (own_neg w) (own_cap w) (own_z w) A50 F50_width F50_mayRepeat F50_cells F50_count g_b50) hZ (hw _ (List.mem_of_getElem? (i := 6) rfl)) (hw _ (List.mem_of_getElem? (i := 3) rfl)) (by decide) (by decide)) (g := (mkF m 116 #[.val (.int p0), .val (.int p1), .val (.int p2), .val (.int p3), .val (.int p4), .val (.int p5), .val (.int w.val.toInt32), .val (.int (2 : Int32)), .val (.int (0 : Int32)), .val (.int cc.val.toInt32), .val (.ref b38), .val (.ref b42), .val (.ref b46), .unset, .unset] [(.int w.val.toInt32), (.ref b50), (.ref b50)])) rfl (by rw [hml]; rfl) (Steps.refl _) (a := b50) (argsL := [(.int w.val.toInt32)]) (rest := [(.ref b50)]) (lenOf pd_1 rfl) rfl (by show 2 * 0 + _ ≤ _; exact Nat.le_of_eq rfl) (hb hby at_116) (fun _ _ => ⟨rfl, e50, (by decide : 4 + 1 ≤ _), (by decide : 13 + 24 ≤ _)⟩)
  dsimp only [Pt.U, Pt.locs, Pt.cells, Pt.slots] at X51 l51 y51 z51 st51 hQ51
  subst l51 y51 z51
  obtain ⟨rfl, N51q, ac, kc, ⟨g_ac, l1, gh⟩, K51, E_, F_w, F_c, F_n, V_c⟩ := hQ51
  have N51 := Fr.app N49 N51q
  have lt_b50_ac : ∀ x, x < h50.size → x < ac := fun x q => Nat.lt_of_lt_of_le q gh
  obtain ⟨cq52, kq52, q52a, q52b, q52c⟩ := isOf hZ rfl E_
  obtain ⟨_, _, ⟨T52, L52, k52, n52⟩, -, X52, ⟨Lc52, hQ52, l52, y52, z52⟩, st52⟩ := X51.virtualBack hx (y := (⟨"com/example/factwell/factwell/pql/Rows", "add", "([I)V"⟩ : MethodName)) (z := (⟨"com/example/factwell/factwell/pql/Rows", "add", "([I)V"⟩ : MethodName)) hown (mvT hZ (hw _ (List.mem_of_getElem? (i := 19) rfl))) (mvT hZ (hw _ (List.mem_of_getElem? (i := 20) rfl))) (notFace_of_selects (args := #[]) (mvT hZ (hw _ (List.mem_of_getElem? (i := 22) rfl)))) (mvT hZ (hw _ (List.mem_of_getElem? (i := 22) rfl))) (mvT hZ (hw _ (List.mem_of_getElem? (i := 21) rfl))) (by decide) (backOf (W := 0) (own_add l Z a0 hw [] b50 b38 0 w ac kc k38 (fun _ => Value.int 0) (upd (upd (upd (fun _ => (.int 0)) 0 (.int p0)) 1 (.int p1)) 2 (.int p2)) T51.heap n0 (Nat.le_trans (Nat.le_trans (Nat.le_trans (Nat.le_trans (Nat.le_trans (Nat.le_trans (Nat.le_trans (Nat.le_trans (Nat.le_trans (Nat.le_trans (Nat.le_trans (Nat.le_trans (Nat.le_trans (Nat.le_trans Z0 E38.1) (Keep.of_wr W39).1) (Keep.of_wr W40).1) (Keep.of_wr W41).1) E42.1) (Keep.of_wr W43).1) (Keep.of_wr W44).1) (Keep.of_wr W45).1) E46.1) (Keep.of_wr W47).1) (Keep.of_wr W48).1) (Keep.of_wr W49).1) E50.1) K51.1) g_b50 g_ac l1 (Nat.ne_of_lt (lt_b50_ac _ (((((((((V41.ext E42).other W43 (Nat.ne_of_lt lt_b38_b42)).other W44 (Nat.ne_of_lt lt_b38_b42)).other W45 (Nat.ne_of_lt lt_b38_b42)).ext E46).other W47 (Nat.ne_of_lt lt_b38_b46)).other W48 (Nat.ne_of_lt lt_b38_b46)).other W49 (Nat.ne_of_lt lt_b38_b46)).ext E50).lt)) (Nat.ne_of_lt lt_b38_b50) E_ F_w F_c F_n V_c ((((((((((V41.ext E42).other W43 (Nat.ne_of_lt lt_b38_b42)).other W44 (Nat.ne_of_lt lt_b38_b42)).other W45 (Nat.ne_of_lt lt_b38_b42)).ext E46).other W47 (Nat.ne_of_lt lt_b38_b46)).other W48 (Nat.ne_of_lt lt_b38_b46)).other W49 (Nat.ne_of_lt lt_b38_b46)).ext E50).keep K51 (ninS (Nat.ne_of_lt lt_b38_b50) nin0))) hZ (hw _ (List.mem_of_getElem? (i := 23) rfl)) (hw _ (List.mem_of_getElem? (i := 3) rfl)) (by decide) (by decide)) q52a q52c (g := (mkF m 125 #[.val (.int p0), .val (.int p1), .val (.int p2), .val (.int p3), .val (.int p4), .val (.int p5), .val (.int w.val.toInt32), .val (.int (2 : Int32)), .val (.int (0 : Int32)), .val (.int cc.val.toInt32), .val (.ref b38), .val (.ref b42), .val (.ref b46), .val (.ref b50), .unset] [(.ref b38), (.ref b50)])) rfl (by rw [hml]; rfl) (Steps.refl _) (argsL := [(.ref b38)]) (rest := []) (lenOf pd_2 rfl) rfl (by show 2 * 0 + _ ≤ _; exact Nat.le_of_eq rfl) (hb hby at_125) (fun _ _ => ⟨rfl, rfl, (by decide : 5 + 0 ≤ _), (by decide : 37 + 0 ≤ _)⟩)
  dsimp only [Pt.U, Pt.locs, Pt.cells, Pt.slots] at X52 l52 y52 z52 st52 hQ52
  subst l52 y52 z52
  obtain ⟨rfl, N52q, K52, E_0, F_w0, F_c0, F_n0, V_c0⟩ := hQ52
  have N52 := Fr.app N51 N52q
  obtain ⟨cq53, kq53, q53a, q53b, q53c⟩ := isOf hZ rfl E_0
  obtain ⟨_, _, ⟨T53, L53, k53, n53⟩, -, X53, ⟨Lc53, hQ53, l53, y53, z53⟩, st53⟩ := X52.virtualBack hx (y := (⟨"com/example/factwell/factwell/pql/Rows", "add", "([I)V"⟩ : MethodName)) (z := (⟨"com/example/factwell/factwell/pql/Rows", "add", "([I)V"⟩ : MethodName)) hown (mvT hZ (hw _ (List.mem_of_getElem? (i := 19) rfl))) (mvT hZ (hw _ (List.mem_of_getElem? (i := 20) rfl))) (notFace_of_selects (args := #[]) (mvT hZ (hw _ (List.mem_of_getElem? (i := 22) rfl)))) (mvT hZ (hw _ (List.mem_of_getElem? (i := 22) rfl))) (mvT hZ (hw _ (List.mem_of_getElem? (i := 21) rfl))) (by decide) (backOf (W := 0) (own_add l Z a0 hw [] b50 b42 1 w ac kc k42 (fun j => if (0 * w.val) ≤ j ∧ j < (0 * w.val) + w.val then (upd (upd (upd (fun _ => (.int 0)) 0 (.int p0)) 1 (.int p1)) 2 (.int p2)) (0 + (j - (0 * w.val))) else (fun _ => Value.int 0) j) (upd (upd (upd (fun _ => (.int 0)) 0 (.int p3)) 1 (.int p4)) 2 (.int (p0 ^^^ (-1 : Int32)))) T52.heap n0 (Nat.le_trans (Nat.le_trans (Nat.le_trans (Nat.le_trans (Nat.le_trans (Nat.le_trans (Nat.le_trans (Nat.le_trans (Nat.le_trans (Nat.le_trans (Nat.le_trans (Nat.le_trans (Nat.le_trans (Nat.le_trans (Nat.le_trans Z0 E38.1) (Keep.of_wr W39).1) (Keep.of_wr W40).1) (Keep.of_wr W41).1) E42.1) (Keep.of_wr W43).1) (Keep.of_wr W44).1) (Keep.of_wr W45).1) E46.1) (Keep.of_wr W47).1) (Keep.of_wr W48).1) (Keep.of_wr W49).1) E50.1) K51.1) K52.1) g_b50 g_ac l1 (Nat.ne_of_lt (lt_b50_ac _ (((((V45.ext E46).other W47 (Nat.ne_of_lt lt_b42_b46)).other W48 (Nat.ne_of_lt lt_b42_b46)).other W49 (Nat.ne_of_lt lt_b42_b46)).ext E50).lt)) (Nat.ne_of_lt lt_b42_b50) E_0 F_w0 F_c0 F_n0 V_c0 (((((((V45.ext E46).other W47 (Nat.ne_of_lt lt_b42_b46)).other W48 (Nat.ne_of_lt lt_b42_b46)).other W49 (Nat.ne_of_lt lt_b42_b46)).ext E50).keep K51 (ninS (Nat.ne_of_lt lt_b42_b50) nin0)).keep K52 (ninS (Nat.ne_of_lt lt_b42_b50) (ninS (Nat.ne_of_lt (lt_b50_ac _ (((((V45.ext E46).other W47 (Nat.ne_of_lt lt_b42_b46)).other W48 (Nat.ne_of_lt lt_b42_b46)).other W49 (Nat.ne_of_lt lt_b42_b46)).ext E50).lt)) nin0)))) hZ (hw _ (List.mem_of_getElem? (i := 23) rfl)) (hw _ (List.mem_of_getElem? (i := 3) rfl)) (by decide) (by decide)) q53a q53c (g := (mkF m 138 #[.val (.int p0), .val (.int p1), .val (.int p2), .val (.int p3), .val (.int p4), .val (.int p5), .val (.int w.val.toInt32), .val (.int (2 : Int32)), .val (.int (0 : Int32)), .val (.int cc.val.toInt32), .val (.ref b38), .val (.ref b42), .val (.ref b46), .val (.ref b50), .unset] [(.ref b42), (.ref b50)])) rfl (by rw [hml]; rfl) (Steps.refl _) (argsL := [(.ref b42)]) (rest := []) (lenOf pd_2 rfl) rfl (by show 2 * 0 + _ ≤ _; exact Nat.le_of_eq rfl) (hb hby at_138) (fun _ _ => ⟨rfl, rfl, (by decide : 5 + 0 ≤ _), (by decide : 37 + 0 ≤ _)⟩)
  dsimp only [Pt.U, Pt.locs, Pt.cells, Pt.slots] at X53 l53 y53 z53 st53 hQ53
  subst l53 y53 z53
  obtain ⟨rfl, N53q, K53, E_1, F_w1, F_c1, F_n1, V_c1⟩ := hQ53
  have N53 := Fr.app N52 N53q
  obtain ⟨cl54, Ar54, qk54, S54, B54, H54, G54⟩ := id ((((((((((((V41.ext E42).other W43 (Nat.ne_of_lt lt_b38_b42)).other W44 (Nat.ne_of_lt lt_b38_b42)).other W45 (Nat.ne_of_lt lt_b38_b42)).ext E46).other W47 (Nat.ne_of_lt lt_b38_b46)).other W48 (Nat.ne_of_lt lt_b38_b46)).other W49 (Nat.ne_of_lt lt_b38_b46)).ext E50).keep K51 (ninS (Nat.ne_of_lt lt_b38_b50) nin0)).keep K52 (ninS (Nat.ne_of_lt lt_b38_b50) (ninS (Nat.ne_of_lt (lt_b50_ac _ (((((((((V41.ext E42).other W43 (Nat.ne_of_lt lt_b38_b42)).other W44 (Nat.ne_of_lt lt_b38_b42)).other W45 (Nat.ne_of_lt lt_b38_b42)).ext E46).other W47 (Nat.ne_of_lt lt_b38_b46)).other W48 (Nat.ne_of_lt lt_b38_b46)).other W49 (Nat.ne_of_lt lt_b38_b46)).ext E50).lt)) nin0))).keep K53 (ninS (Nat.ne_of_lt lt_b38_b50) (ninS (Nat.ne_of_lt (lt_b50_ac _ (((((((((V41.ext E42).other W43 (Nat.ne_of_lt lt_b38_b42)).other W44 (Nat.ne_of_lt lt_b38_b42)).other W45 (Nat.ne_of_lt lt_b38_b42)).ext E46).other W47 (Nat.ne_of_lt lt_b38_b46)).other W48 (Nat.ne_of_lt lt_b38_b46)).other W49 (Nat.ne_of_lt lt_b38_b46)).ext E50).lt)) nin0)))
  have hin54 : ¬ (cc.val.toInt32 < 0 ∨ cl54.slots.size ≤ (cc.val.toInt32).toNatClampNeg) := own_inb S54 (own_cix cc) cc.isLt
  have hat54 : cl54.slots[(cc.val.toInt32).toNatClampNeg]? = some (.int (own_x (upd (upd (upd (fun _ => (.int 0)) 0 (.int p0)) 1 (.int p1)) 2 (.int p2)) cc.val)) := own_hat H54 (own_cix cc) cc.isLt (own_three rfl rfl rfl cc)
  have hv_ : (fun j => if (1 * w.val) ≤ j ∧ j < (1 * w.val) + w.val then (upd (upd (upd (fun _ => (.int 0)) 0 (.int p3)) 1 (.int p4)) 2 (.int (p0 ^^^ (-1 : Int32)))) (0 + (j - (1 * w.val))) else (fun j => if (0 * w.val) ≤ j ∧ j < (0 * w.val) + w.val then (upd (upd (upd (fun _ => (.int 0)) 0 (.int p0)) 1 (.int p1)) 2 (.int p2)) (0 + (j - (0 * w.val))) else (fun _ => Value.int 0) j) j) (0 * w.val + cc.val) = .int (own_x (upd (upd (upd (fun _ => (.int 0)) 0 (.int p0)) 1 (.int p1)) 2 (.int p2)) cc.val) := by
    rw [← own_three (x := p0) (y := p1) (z := p2) (f := (upd (upd (upd (fun _ => (.int 0)) 0 (.int p0)) 1 (.int p1)) 2 (.int p2))) rfl rfl rfl cc]
    show (if (1 * w.val) ≤ (0 * w.val + cc.val) ∧ (0 * w.val + cc.val) < (1 * w.val) + w.val then (upd (upd (upd (fun _ => (.int 0)) 0 (.int p3)) 1 (.int p4)) 2 (.int (p0 ^^^ (-1 : Int32)))) (0 + ((0 * w.val + cc.val) - (1 * w.val))) else (if (0 * w.val) ≤ (0 * w.val + cc.val) ∧ (0 * w.val + cc.val) < (0 * w.val) + w.val then (upd (upd (upd (fun _ => (.int 0)) 0 (.int p0)) 1 (.int p1)) 2 (.int p2)) (0 + ((0 * w.val + cc.val) - (0 * w.val))) else Value.int 0)) = _
    rw [if_neg (by omega)]
    rw [if_pos (by omega)]
    congr 1; omega
  obtain ⟨cq55, kq55, q55a, q55b, q55c⟩ := isOf hZ rfl E_1
  obtain ⟨_, _, ⟨T55, L55, k55, n55⟩, -, X55, ⟨Lc55, hQ55, l55, y55, z55⟩, st55⟩ := X53.virtualBack hx (y := (⟨"com/example/factwell/factwell/pql/Rows", "get", "(II)I"⟩ : MethodName)) (z := (⟨"com/example/factwell/factwell/pql/Rows", "get", "(II)I"⟩ : MethodName)) hown (mvT hZ (hw _ (List.mem_of_getElem? (i := 30) rfl))) (mvT hZ (hw _ (List.mem_of_getElem? (i := 31) rfl))) (notFace_of_selects (args := #[]) (mvT hZ (hw _ (List.mem_of_getElem? (i := 33) rfl)))) (mvT hZ (hw _ (List.mem_of_getElem? (i := 33) rfl))) (mvT hZ (hw _ (List.mem_of_getElem? (i := 32) rfl))) (by decide) (backOf (W := 0) (own_get l Z a0 hw [] b50 (0 : Int32) cc.val.toInt32 (own_x (upd (upd (upd (fun _ => (.int 0)) 0 (.int p0)) 1 (.int p1)) 2 (.int p2)) cc.val) (0 * w.val + cc.val) w ac kc (fun j => if (1 * w.val) ≤ j ∧ j < (1 * w.val) + w.val then (upd (upd (upd (fun _ => (.int 0)) 0 (.int p3)) 1 (.int p4)) 2 (.int (p0 ^^^ (-1 : Int32)))) (0 + (j - (1 * w.val))) else (fun j => if (0 * w.val) ≤ j ∧ j < (0 * w.val) + w.val then (upd (upd (upd (fun _ => (.int 0)) 0 (.int p0)) 1 (.int p1)) 2 (.int p2)) (0 + (j - (0 * w.val))) else (fun _ => Value.int 0) j) j) T53.heap n0 (Nat.le_trans (Nat.le_trans (Nat.le_trans (Nat.le_trans (Nat.le_trans (Nat.le_trans (Nat.le_trans (Nat.le_trans (Nat.le_trans (Nat.le_trans (Nat.le_trans (Nat.le_trans (Nat.le_trans (Nat.le_trans (Nat.le_trans (Nat.le_trans Z0 E38.1) (Keep.of_wr W39).1) (Keep.of_wr W40).1) (Keep.of_wr W41).1) E42.1) (Keep.of_wr W43).1) (Keep.of_wr W44).1) (Keep.of_wr W45).1) E46.1) (Keep.of_wr W47).1) (Keep.of_wr W48).1) (Keep.of_wr W49).1) E50.1) K51.1) K52.1) K53.1) (own_gix 0 w cc) (own_lt 0 w cc hcw (by decide)) hv_ F_w1 F_c1 V_c1) hZ (hw _ (List.mem_of_getElem? (i := 34) rfl)) (hw _ (List.mem_of_getElem? (i := 3) rfl)) (by decide) (by decide)) q55a q55c (g := (mkF m 198 #[.val (.int p0), .val (.int p1), .val (.int p2), .val (.int p3), .val (.int p4), .val (.int p5), .val (.int w.val.toInt32), .val (.int (2 : Int32)), .val (.int (0 : Int32)), .val (.int cc.val.toInt32), .val (.ref b38), .val (.ref b42), .val (.ref b46), .val (.ref b50), .val (.int (own_x (upd (upd (upd (fun _ => (.int 0)) 0 (.int p0)) 1 (.int p1)) 2 (.int p2)) cc.val))] [(.int cc.val.toInt32), (.int (0 : Int32)), (.ref b50)])) rfl (by rw [hml]; rfl) (Steps.refl _) (argsL := [(.int (0 : Int32)), (.int cc.val.toInt32)]) (rest := []) (lenOf pd_3 rfl) rfl (by show 2 * 0 + _ ≤ _; exact Nat.le_of_eq rfl) (hb hby at_198) (fun _ _ => ⟨rfl, rfl, (by decide : 5 + 0 ≤ _), (by decide : 37 + 0 ≤ _)⟩)
  dsimp only [Pt.U, Pt.locs, Pt.cells, Pt.slots] at X55 l55 y55 z55 st55 hQ55
  subst l55 y55 z55
  obtain ⟨rfl, N55q, eh55⟩ := hQ55
  have N55 := Fr.app N53 N55q
  obtain ⟨fs, hr, hrun, hended, hW, hsame⟩ := X55.leave (v := some (.int (1 : Int32))) (fun h => by rw [Bd.returns] at h; cases h)
  refine ⟨_, _, pre0 _ ?_, hrun, hended, _, _, rfl, ?_, ⟨_, rfl⟩, hW, hsame.mono (by decide) (by decide)⟩
  · show Steps p.tables e below (s₁.setTop (mkF m 0 #[.val (.int p0), .val (.int p1), .val (.int p2), .val (.int p3), .val (.int p4), .val (.int p5), .unset, .unset, .unset, .unset, .unset, .unset, .unset, .unset, .unset] [])) _
    refine XS.iconst X0.here hx rfl (hb hby at_0) ?_
    show Steps p.tables e below (s₁.setTop (mkF m 1 #[.val (.int p0), .val (.int p1), .val (.int p2), .val (.int p3), .val (.int p4), .val (.int p5), .unset, .unset, .unset, .unset, .unset, .unset, .unset, .unset, .unset] [(.int (1 : Int32))])) _
    refine XS.iload X0.here hx rfl (hb hby at_1) rfl ?_
    show Steps p.tables e below (s₁.setTop (mkF m 3 #[.val (.int p0), .val (.int p1), .val (.int p2), .val (.int p3), .val (.int p4), .val (.int p5), .unset, .unset, .unset, .unset, .unset, .unset, .unset, .unset, .unset] [(.int p5), (.int (1 : Int32))])) _
    refine XS.bipush X0.here hx rfl (hb hby at_3) ?_
    show Steps p.tables e below (s₁.setTop (mkF m 5 #[.val (.int p0), .val (.int p1), .val (.int p2), .val (.int p3), .val (.int p4), .val (.int p5), .unset, .unset, .unset, .unset, .unset, .unset, .unset, .unset, .unset] [(.int (15 : Int32)), (.int p5), (.int (1 : Int32))])) _
    refine XS.iand X0.here hx rfl (hb hby at_5) rfl ?_
    show Steps p.tables e below (s₁.setTop (mkF m 6 #[.val (.int p0), .val (.int p1), .val (.int p2), .val (.int p3), .val (.int p4), .val (.int p5), .unset, .unset, .unset, .unset, .unset, .unset, .unset, .unset, .unset] [(.int (p5 &&& (15 : Int32))), (.int (1 : Int32))])) _
    refine XS.iconst X0.here hx rfl (hb hby at_6) ?_
    show Steps p.tables e below (s₁.setTop (mkF m 7 #[.val (.int p0), .val (.int p1), .val (.int p2), .val (.int p3), .val (.int p4), .val (.int p5), .unset, .unset, .unset, .unset, .unset, .unset, .unset, .unset, .unset] [(.int (3 : Int32)), (.int (p5 &&& (15 : Int32))), (.int (1 : Int32))])) _
    refine Jvm.RoadKit.iremM (g := (mkF m 7 #[.val (.int p0), .val (.int p1), .val (.int p2), .val (.int p3), .val (.int p4), .val (.int p5), .unset, .unset, .unset, .unset, .unset, .unset, .unset, .unset, .unset] [(.int (3 : Int32)), (.int (p5 &&& (15 : Int32))), (.int (1 : Int32))])) X0 hx rfl (hb hby at_7) rfl (by decide) ?_
    show Steps p.tables e below (s₁.setTop (mkF m 8 #[.val (.int p0), .val (.int p1), .val (.int p2), .val (.int p3), .val (.int p4), .val (.int p5), .unset, .unset, .unset, .unset, .unset, .unset, .unset, .unset, .unset] [(.int ((p5 &&& (15 : Int32)) % (3 : Int32))), (.int (1 : Int32))])) _
    refine XS.iadd X0.here hx rfl (hb hby at_8) rfl ?_
    show Steps p.tables e below (s₁.setTop (mkF m 9 #[.val (.int p0), .val (.int p1), .val (.int p2), .val (.int p3), .val (.int p4), .val (.int p5), .unset, .unset, .unset, .unset, .unset, .unset, .unset, .unset, .unset] [(.int ((1 : Int32) + ((p5 &&& (15 : Int32)) % (3 : Int32))))])) _
    rw [hW_]
    show Steps p.tables e below (s₁.setTop (mkF m 9 #[.val (.int p0), .val (.int p1), .val (.int p2), .val (.int p3), .val (.int p4), .val (.int p5), .unset, .unset, .unset, .unset, .unset, .unset, .unset, .unset, .unset] [(.int w.val.toInt32)])) _
    refine XS.istore X0.here hx rfl (hb hby at_9) rfl (l' := #[.val (.int p0), .val (.int p1), .val (.int p2), .val (.int p3), .val (.int p4), .val (.int p5), .val (.int w.val.toInt32), .unset, .unset, .unset, .unset, .unset, .unset, .unset, .unset]) rfl ?_
    show Steps p.tables e below (s₁.setTop (mkF m 11 #[.val (.int p0), .val (.int p1), .val (.int p2), .val (.int p3), .val (.int p4), .val (.int p5), .val (.int w.val.toInt32), .unset, .unset, .unset, .unset, .unset, .unset, .unset, .unset] [])) _
    refine XS.iconst X0.here hx rfl (hb hby at_11) ?_
    show Steps p.tables e below (s₁.setTop (mkF m 12 #[.val (.int p0), .val (.int p1), .val (.int p2), .val (.int p3), .val (.int p4), .val (.int p5), .val (.int w.val.toInt32), .unset, .unset, .unset, .unset, .unset, .unset, .unset, .unset] [(.int (1 : Int32))])) _
    refine XS.iload X0.here hx rfl (hb hby at_12) rfl ?_
    show Steps p.tables e below (s₁.setTop (mkF m 14 #[.val (.int p0), .val (.int p1), .val (.int p2), .val (.int p3), .val (.int p4), .val (.int p5), .val (.int w.val.toInt32), .unset, .unset, .unset, .unset, .unset, .unset, .unset, .unset] [(.int p5), (.int (1 : Int32))])) _
    refine XS.iconst X0.here hx rfl (hb hby at_14) ?_
    show Steps p.tables e below (s₁.setTop (mkF m 15 #[.val (.int p0), .val (.int p1), .val (.int p2), .val (.int p3), .val (.int p4), .val (.int p5), .val (.int w.val.toInt32), .unset, .unset, .unset, .unset, .unset, .unset, .unset, .unset] [(.int (4 : Int32)), (.int p5), (.int (1 : Int32))])) _
    refine XT.iushr X0.here hx rfl (hb hby at_15) rfl ?_
    show Steps p.tables e below (s₁.setTop (mkF m 16 #[.val (.int p0), .val (.int p1), .val (.int p2), .val (.int p3), .val (.int p4), .val (.int p5), .val (.int w.val.toInt32), .unset, .unset, .unset, .unset, .unset, .unset, .unset, .unset] [(.int (XT.ushr p5 (4 : Int32))), (.int (1 : Int32))])) _
    refine XS.bipush X0.here hx rfl (hb hby at_16) ?_
    show Steps p.tables e below (s₁.setTop (mkF m 18 #[.val (.int p0), .val (.int p1), .val (.int p2), .val (.int p3), .val (.int p4), .val (.int p5), .val (.int w.val.toInt32), .unset, .unset, .unset, .unset, .unset, .unset, .unset, .unset] [(.int (15 : Int32)), (.int (XT.ushr p5 (4 : Int32))), (.int (1 : Int32))])) _
    refine XS.iand X0.here hx rfl (hb hby at_18) rfl ?_
    show Steps p.tables e below (s₁.setTop (mkF m 19 #[.val (.int p0), .val (.int p1), .val (.int p2), .val (.int p3), .val (.int p4), .val (.int p5), .val (.int w.val.toInt32), .unset, .unset, .unset, .unset, .unset, .unset, .unset, .unset] [(.int ((XT.ushr p5 (4 : Int32)) &&& (15 : Int32))), (.int (1 : Int32))])) _
    refine XS.iconst X0.here hx rfl (hb hby at_19) ?_
    show Steps p.tables e below (s₁.setTop (mkF m 20 #[.val (.int p0), .val (.int p1), .val (.int p2), .val (.int p3), .val (.int p4), .val (.int p5), .val (.int w.val.toInt32), .unset, .unset, .unset, .unset, .unset, .unset, .unset, .unset] [(.int (3 : Int32)), (.int ((XT.ushr p5 (4 : Int32)) &&& (15 : Int32))), (.int (1 : Int32))])) _
    refine Jvm.RoadKit.iremM (g := (mkF m 20 #[.val (.int p0), .val (.int p1), .val (.int p2), .val (.int p3), .val (.int p4), .val (.int p5), .val (.int w.val.toInt32), .unset, .unset, .unset, .unset, .unset, .unset, .unset, .unset] [(.int (3 : Int32)), (.int ((XT.ushr p5 (4 : Int32)) &&& (15 : Int32))), (.int (1 : Int32))])) X0 hx rfl (hb hby at_20) rfl (by decide) ?_
    show Steps p.tables e below (s₁.setTop (mkF m 21 #[.val (.int p0), .val (.int p1), .val (.int p2), .val (.int p3), .val (.int p4), .val (.int p5), .val (.int w.val.toInt32), .unset, .unset, .unset, .unset, .unset, .unset, .unset, .unset] [(.int (((XT.ushr p5 (4 : Int32)) &&& (15 : Int32)) % (3 : Int32))), (.int (1 : Int32))])) _
    refine XS.iadd X0.here hx rfl (hb hby at_21) rfl ?_
    show Steps p.tables e below (s₁.setTop (mkF m 22 #[.val (.int p0), .val (.int p1), .val (.int p2), .val (.int p3), .val (.int p4), .val (.int p5), .val (.int w.val.toInt32), .unset, .unset, .unset, .unset, .unset, .unset, .unset, .unset] [(.int ((1 : Int32) + (((XT.ushr p5 (4 : Int32)) &&& (15 : Int32)) % (3 : Int32))))])) _
    rw [hN_]
    show Steps p.tables e below (s₁.setTop (mkF m 22 #[.val (.int p0), .val (.int p1), .val (.int p2), .val (.int p3), .val (.int p4), .val (.int p5), .val (.int w.val.toInt32), .unset, .unset, .unset, .unset, .unset, .unset, .unset, .unset] [(.int (2 : Int32))])) _
    refine XS.istore X0.here hx rfl (hb hby at_22) rfl (l' := #[.val (.int p0), .val (.int p1), .val (.int p2), .val (.int p3), .val (.int p4), .val (.int p5), .val (.int w.val.toInt32), .val (.int (2 : Int32)), .unset, .unset, .unset, .unset, .unset, .unset, .unset]) rfl ?_
    show Steps p.tables e below (s₁.setTop (mkF m 24 #[.val (.int p0), .val (.int p1), .val (.int p2), .val (.int p3), .val (.int p4), .val (.int p5), .val (.int w.val.toInt32), .val (.int (2 : Int32)), .unset, .unset, .unset, .unset, .unset, .unset, .unset] [])) _
    refine XS.iload X0.here hx rfl (hb hby at_24) rfl ?_
    show Steps p.tables e below (s₁.setTop (mkF m 26 #[.val (.int p0), .val (.int p1), .val (.int p2), .val (.int p3), .val (.int p4), .val (.int p5), .val (.int w.val.toInt32), .val (.int (2 : Int32)), .unset, .unset, .unset, .unset, .unset, .unset, .unset] [(.int p5)])) _
    refine XS.bipush X0.here hx rfl (hb hby at_26) ?_
    show Steps p.tables e below (s₁.setTop (mkF m 28 #[.val (.int p0), .val (.int p1), .val (.int p2), .val (.int p3), .val (.int p4), .val (.int p5), .val (.int w.val.toInt32), .val (.int (2 : Int32)), .unset, .unset, .unset, .unset, .unset, .unset, .unset] [(.int (8 : Int32)), (.int p5)])) _
    refine XT.iushr X0.here hx rfl (hb hby at_28) rfl ?_
    show Steps p.tables e below (s₁.setTop (mkF m 29 #[.val (.int p0), .val (.int p1), .val (.int p2), .val (.int p3), .val (.int p4), .val (.int p5), .val (.int w.val.toInt32), .val (.int (2 : Int32)), .unset, .unset, .unset, .unset, .unset, .unset, .unset] [(.int (XT.ushr p5 (8 : Int32)))])) _
    refine XS.bipush X0.here hx rfl (hb hby at_29) ?_
    show Steps p.tables e below (s₁.setTop (mkF m 31 #[.val (.int p0), .val (.int p1), .val (.int p2), .val (.int p3), .val (.int p4), .val (.int p5), .val (.int w.val.toInt32), .val (.int (2 : Int32)), .unset, .unset, .unset, .unset, .unset, .unset, .unset] [(.int (15 : Int32)), (.int (XT.ushr p5 (8 : Int32)))])) _
    refine XS.iand X0.here hx rfl (hb hby at_31) rfl ?_
    show Steps p.tables e below (s₁.setTop (mkF m 32 #[.val (.int p0), .val (.int p1), .val (.int p2), .val (.int p3), .val (.int p4), .val (.int p5), .val (.int w.val.toInt32), .val (.int (2 : Int32)), .unset, .unset, .unset, .unset, .unset, .unset, .unset] [(.int ((XT.ushr p5 (8 : Int32)) &&& (15 : Int32)))])) _
    refine XS.iload X0.here hx rfl (hb hby at_32) rfl ?_
    show Steps p.tables e below (s₁.setTop (mkF m 34 #[.val (.int p0), .val (.int p1), .val (.int p2), .val (.int p3), .val (.int p4), .val (.int p5), .val (.int w.val.toInt32), .val (.int (2 : Int32)), .unset, .unset, .unset, .unset, .unset, .unset, .unset] [(.int (2 : Int32)), (.int ((XT.ushr p5 (8 : Int32)) &&& (15 : Int32)))])) _
    refine Jvm.RoadKit.iremM (g := (mkF m 34 #[.val (.int p0), .val (.int p1), .val (.int p2), .val (.int p3), .val (.int p4), .val (.int p5), .val (.int w.val.toInt32), .val (.int (2 : Int32)), .unset, .unset, .unset, .unset, .unset, .unset, .unset] [(.int (2 : Int32)), (.int ((XT.ushr p5 (8 : Int32)) &&& (15 : Int32)))])) X0 hx rfl (hb hby at_34) rfl (by decide) ?_
    show Steps p.tables e below (s₁.setTop (mkF m 35 #[.val (.int p0), .val (.int p1), .val (.int p2), .val (.int p3), .val (.int p4), .val (.int p5), .val (.int w.val.toInt32), .val (.int (2 : Int32)), .unset, .unset, .unset, .unset, .unset, .unset, .unset] [(.int (((XT.ushr p5 (8 : Int32)) &&& (15 : Int32)) % (2 : Int32)))])) _
    rw [hR_]
    show Steps p.tables e below (s₁.setTop (mkF m 35 #[.val (.int p0), .val (.int p1), .val (.int p2), .val (.int p3), .val (.int p4), .val (.int p5), .val (.int w.val.toInt32), .val (.int (2 : Int32)), .unset, .unset, .unset, .unset, .unset, .unset, .unset] [(.int (0 : Int32))])) _
    refine XS.istore X0.here hx rfl (hb hby at_35) rfl (l' := #[.val (.int p0), .val (.int p1), .val (.int p2), .val (.int p3), .val (.int p4), .val (.int p5), .val (.int w.val.toInt32), .val (.int (2 : Int32)), .val (.int (0 : Int32)), .unset, .unset, .unset, .unset, .unset, .unset]) rfl ?_
    show Steps p.tables e below (s₁.setTop (mkF m 37 #[.val (.int p0), .val (.int p1), .val (.int p2), .val (.int p3), .val (.int p4), .val (.int p5), .val (.int w.val.toInt32), .val (.int (2 : Int32)), .val (.int (0 : Int32)), .unset, .unset, .unset, .unset, .unset, .unset] [])) _
    refine XS.iload X0.here hx rfl (hb hby at_37) rfl ?_
    show Steps p.tables e below (s₁.setTop (mkF m 39 #[.val (.int p0), .val (.int p1), .val (.int p2), .val (.int p3), .val (.int p4), .val (.int p5), .val (.int w.val.toInt32), .val (.int (2 : Int32)), .val (.int (0 : Int32)), .unset, .unset, .unset, .unset, .unset, .unset] [(.int p5)])) _
    refine XS.bipush X0.here hx rfl (hb hby at_39) ?_
    show Steps p.tables e below (s₁.setTop (mkF m 41 #[.val (.int p0), .val (.int p1), .val (.int p2), .val (.int p3), .val (.int p4), .val (.int p5), .val (.int w.val.toInt32), .val (.int (2 : Int32)), .val (.int (0 : Int32)), .unset, .unset, .unset, .unset, .unset, .unset] [(.int (12 : Int32)), (.int p5)])) _
    refine XT.iushr X0.here hx rfl (hb hby at_41) rfl ?_
    show Steps p.tables e below (s₁.setTop (mkF m 42 #[.val (.int p0), .val (.int p1), .val (.int p2), .val (.int p3), .val (.int p4), .val (.int p5), .val (.int w.val.toInt32), .val (.int (2 : Int32)), .val (.int (0 : Int32)), .unset, .unset, .unset, .unset, .unset, .unset] [(.int (XT.ushr p5 (12 : Int32)))])) _
    refine XS.bipush X0.here hx rfl (hb hby at_42) ?_
    show Steps p.tables e below (s₁.setTop (mkF m 44 #[.val (.int p0), .val (.int p1), .val (.int p2), .val (.int p3), .val (.int p4), .val (.int p5), .val (.int w.val.toInt32), .val (.int (2 : Int32)), .val (.int (0 : Int32)), .unset, .unset, .unset, .unset, .unset, .unset] [(.int (15 : Int32)), (.int (XT.ushr p5 (12 : Int32)))])) _
    refine XS.iand X0.here hx rfl (hb hby at_44) rfl ?_
    show Steps p.tables e below (s₁.setTop (mkF m 45 #[.val (.int p0), .val (.int p1), .val (.int p2), .val (.int p3), .val (.int p4), .val (.int p5), .val (.int w.val.toInt32), .val (.int (2 : Int32)), .val (.int (0 : Int32)), .unset, .unset, .unset, .unset, .unset, .unset] [(.int ((XT.ushr p5 (12 : Int32)) &&& (15 : Int32)))])) _
    refine XS.iload X0.here hx rfl (hb hby at_45) rfl ?_
    show Steps p.tables e below (s₁.setTop (mkF m 47 #[.val (.int p0), .val (.int p1), .val (.int p2), .val (.int p3), .val (.int p4), .val (.int p5), .val (.int w.val.toInt32), .val (.int (2 : Int32)), .val (.int (0 : Int32)), .unset, .unset, .unset, .unset, .unset, .unset] [(.int w.val.toInt32), (.int ((XT.ushr p5 (12 : Int32)) &&& (15 : Int32)))])) _
    refine Jvm.RoadKit.iremM (g := (mkF m 47 #[.val (.int p0), .val (.int p1), .val (.int p2), .val (.int p3), .val (.int p4), .val (.int p5), .val (.int w.val.toInt32), .val (.int (2 : Int32)), .val (.int (0 : Int32)), .unset, .unset, .unset, .unset, .unset, .unset] [(.int w.val.toInt32), (.int ((XT.ushr p5 (12 : Int32)) &&& (15 : Int32)))])) X0 hx rfl (hb hby at_47) rfl (own_wne w hw1) ?_
    show Steps p.tables e below (s₁.setTop (mkF m 48 #[.val (.int p0), .val (.int p1), .val (.int p2), .val (.int p3), .val (.int p4), .val (.int p5), .val (.int w.val.toInt32), .val (.int (2 : Int32)), .val (.int (0 : Int32)), .unset, .unset, .unset, .unset, .unset, .unset] [(.int (((XT.ushr p5 (12 : Int32)) &&& (15 : Int32)) % w.val.toInt32))])) _
    rw [hC_]
    show Steps p.tables e below (s₁.setTop (mkF m 48 #[.val (.int p0), .val (.int p1), .val (.int p2), .val (.int p3), .val (.int p4), .val (.int p5), .val (.int w.val.toInt32), .val (.int (2 : Int32)), .val (.int (0 : Int32)), .unset, .unset, .unset, .unset, .unset, .unset] [(.int cc.val.toInt32)])) _
    refine XS.istore X0.here hx rfl (hb hby at_48) rfl (l' := #[.val (.int p0), .val (.int p1), .val (.int p2), .val (.int p3), .val (.int p4), .val (.int p5), .val (.int w.val.toInt32), .val (.int (2 : Int32)), .val (.int (0 : Int32)), .val (.int cc.val.toInt32), .unset, .unset, .unset, .unset, .unset]) rfl ?_
    show Steps p.tables e below (s₁.setTop (mkF m 50 #[.val (.int p0), .val (.int p1), .val (.int p2), .val (.int p3), .val (.int p4), .val (.int p5), .val (.int w.val.toInt32), .val (.int (2 : Int32)), .val (.int (0 : Int32)), .val (.int cc.val.toInt32), .unset, .unset, .unset, .unset, .unset] [])) _
    refine XS.iconst X0.here hx rfl (hb hby at_50) ?_
    show Steps p.tables e below (s₁.setTop (mkF m 51 #[.val (.int p0), .val (.int p1), .val (.int p2), .val (.int p3), .val (.int p4), .val (.int p5), .val (.int w.val.toInt32), .val (.int (2 : Int32)), .val (.int (0 : Int32)), .val (.int cc.val.toInt32), .unset, .unset, .unset, .unset, .unset] [(.int (3 : Int32))])) _
    refine st38 _ ?_
    show Steps p.tables e below (T38.setTop (mkF m 53 #[.val (.int p0), .val (.int p1), .val (.int p2), .val (.int p3), .val (.int p4), .val (.int p5), .val (.int w.val.toInt32), .val (.int (2 : Int32)), .val (.int (0 : Int32)), .val (.int cc.val.toInt32), .unset, .unset, .unset, .unset, .unset] [(.ref b38)])) _
    refine XS.dup X38.here hx rfl (hb hby at_53) rfl rfl ?_
    show Steps p.tables e below (T38.setTop (mkF m 54 #[.val (.int p0), .val (.int p1), .val (.int p2), .val (.int p3), .val (.int p4), .val (.int p5), .val (.int w.val.toInt32), .val (.int (2 : Int32)), .val (.int (0 : Int32)), .val (.int cc.val.toInt32), .unset, .unset, .unset, .unset, .unset] [(.ref b38), (.ref b38)])) _
    refine XS.iconst X38.here hx rfl (hb hby at_54) ?_
    show Steps p.tables e below (T38.setTop (mkF m 55 #[.val (.int p0), .val (.int p1), .val (.int p2), .val (.int p3), .val (.int p4), .val (.int p5), .val (.int w.val.toInt32), .val (.int (2 : Int32)), .val (.int (0 : Int32)), .val (.int cc.val.toInt32), .unset, .unset, .unset, .unset, .unset] [(.int (0 : Int32)), (.ref b38), (.ref b38)])) _
    refine XS.iloadN X38.here hx rfl (hb hby at_55) rfl ?_
    show Steps p.tables e below (T38.setTop (mkF m 56 #[.val (.int p0), .val (.int p1), .val (.int p2), .val (.int p3), .val (.int p4), .val (.int p5), .val (.int w.val.toInt32), .val (.int (2 : Int32)), .val (.int (0 : Int32)), .val (.int cc.val.toInt32), .unset, .unset, .unset, .unset, .unset] [(.int p0), (.int (0 : Int32)), (.ref b38), (.ref b38)])) _
    refine st39 _ ?_
    show Steps p.tables e below (T39.setTop (mkF m 57 #[.val (.int p0), .val (.int p1), .val (.int p2), .val (.int p3), .val (.int p4), .val (.int p5), .val (.int w.val.toInt32), .val (.int (2 : Int32)), .val (.int (0 : Int32)), .val (.int cc.val.toInt32), .unset, .unset, .unset, .unset, .unset] [(.ref b38)])) _
    refine XS.dup X39.here hx rfl (hb hby at_57) rfl rfl ?_
    show Steps p.tables e below (T39.setTop (mkF m 58 #[.val (.int p0), .val (.int p1), .val (.int p2), .val (.int p3), .val (.int p4), .val (.int p5), .val (.int w.val.toInt32), .val (.int (2 : Int32)), .val (.int (0 : Int32)), .val (.int cc.val.toInt32), .unset, .unset, .unset, .unset, .unset] [(.ref b38), (.ref b38)])) _
    refine XS.iconst X39.here hx rfl (hb hby at_58) ?_
    show Steps p.tables e below (T39.setTop (mkF m 59 #[.val (.int p0), .val (.int p1), .val (.int p2), .val (.int p3), .val (.int p4), .val (.int p5), .val (.int w.val.toInt32), .val (.int (2 : Int32)), .val (.int (0 : Int32)), .val (.int cc.val.toInt32), .unset, .unset, .unset, .unset, .unset] [(.int (1 : Int32)), (.ref b38), (.ref b38)])) _
    refine XS.iloadN X39.here hx rfl (hb hby at_59) rfl ?_
    show Steps p.tables e below (T39.setTop (mkF m 60 #[.val (.int p0), .val (.int p1), .val (.int p2), .val (.int p3), .val (.int p4), .val (.int p5), .val (.int w.val.toInt32), .val (.int (2 : Int32)), .val (.int (0 : Int32)), .val (.int cc.val.toInt32), .unset, .unset, .unset, .unset, .unset] [(.int p1), (.int (1 : Int32)), (.ref b38), (.ref b38)])) _
    refine st40 _ ?_
    show Steps p.tables e below (T40.setTop (mkF m 61 #[.val (.int p0), .val (.int p1), .val (.int p2), .val (.int p3), .val (.int p4), .val (.int p5), .val (.int w.val.toInt32), .val (.int (2 : Int32)), .val (.int (0 : Int32)), .val (.int cc.val.toInt32), .unset, .unset, .unset, .unset, .unset] [(.ref b38)])) _
    refine XS.dup X40.here hx rfl (hb hby at_61) rfl rfl ?_
    show Steps p.tables e below (T40.setTop (mkF m 62 #[.val (.int p0), .val (.int p1), .val (.int p2), .val (.int p3), .val (.int p4), .val (.int p5), .val (.int w.val.toInt32), .val (.int (2 : Int32)), .val (.int (0 : Int32)), .val (.int cc.val.toInt32), .unset, .unset, .unset, .unset, .unset] [(.ref b38), (.ref b38)])) _
    refine XS.iconst X40.here hx rfl (hb hby at_62) ?_
    show Steps p.tables e below (T40.setTop (mkF m 63 #[.val (.int p0), .val (.int p1), .val (.int p2), .val (.int p3), .val (.int p4), .val (.int p5), .val (.int w.val.toInt32), .val (.int (2 : Int32)), .val (.int (0 : Int32)), .val (.int cc.val.toInt32), .unset, .unset, .unset, .unset, .unset] [(.int (2 : Int32)), (.ref b38), (.ref b38)])) _
    refine XS.iloadN X40.here hx rfl (hb hby at_63) rfl ?_
    show Steps p.tables e below (T40.setTop (mkF m 64 #[.val (.int p0), .val (.int p1), .val (.int p2), .val (.int p3), .val (.int p4), .val (.int p5), .val (.int w.val.toInt32), .val (.int (2 : Int32)), .val (.int (0 : Int32)), .val (.int cc.val.toInt32), .unset, .unset, .unset, .unset, .unset] [(.int p2), (.int (2 : Int32)), (.ref b38), (.ref b38)])) _
    refine st41 _ ?_
    show Steps p.tables e below (T41.setTop (mkF m 65 #[.val (.int p0), .val (.int p1), .val (.int p2), .val (.int p3), .val (.int p4), .val (.int p5), .val (.int w.val.toInt32), .val (.int (2 : Int32)), .val (.int (0 : Int32)), .val (.int cc.val.toInt32), .unset, .unset, .unset, .unset, .unset] [(.ref b38)])) _
    refine XS.astore X41.here hx rfl (hb hby at_65) rfl rfl (l' := #[.val (.int p0), .val (.int p1), .val (.int p2), .val (.int p3), .val (.int p4), .val (.int p5), .val (.int w.val.toInt32), .val (.int (2 : Int32)), .val (.int (0 : Int32)), .val (.int cc.val.toInt32), .val (.ref b38), .unset, .unset, .unset, .unset]) rfl ?_
    show Steps p.tables e below (T41.setTop (mkF m 67 #[.val (.int p0), .val (.int p1), .val (.int p2), .val (.int p3), .val (.int p4), .val (.int p5), .val (.int w.val.toInt32), .val (.int (2 : Int32)), .val (.int (0 : Int32)), .val (.int cc.val.toInt32), .val (.ref b38), .unset, .unset, .unset, .unset] [])) _
    refine XS.iconst X41.here hx rfl (hb hby at_67) ?_
    show Steps p.tables e below (T41.setTop (mkF m 68 #[.val (.int p0), .val (.int p1), .val (.int p2), .val (.int p3), .val (.int p4), .val (.int p5), .val (.int w.val.toInt32), .val (.int (2 : Int32)), .val (.int (0 : Int32)), .val (.int cc.val.toInt32), .val (.ref b38), .unset, .unset, .unset, .unset] [(.int (3 : Int32))])) _
    refine st42 _ ?_
    show Steps p.tables e below (T42.setTop (mkF m 70 #[.val (.int p0), .val (.int p1), .val (.int p2), .val (.int p3), .val (.int p4), .val (.int p5), .val (.int w.val.toInt32), .val (.int (2 : Int32)), .val (.int (0 : Int32)), .val (.int cc.val.toInt32), .val (.ref b38), .unset, .unset, .unset, .unset] [(.ref b42)])) _
    refine XS.dup X42.here hx rfl (hb hby at_70) rfl rfl ?_
    show Steps p.tables e below (T42.setTop (mkF m 71 #[.val (.int p0), .val (.int p1), .val (.int p2), .val (.int p3), .val (.int p4), .val (.int p5), .val (.int w.val.toInt32), .val (.int (2 : Int32)), .val (.int (0 : Int32)), .val (.int cc.val.toInt32), .val (.ref b38), .unset, .unset, .unset, .unset] [(.ref b42), (.ref b42)])) _
    refine XS.iconst X42.here hx rfl (hb hby at_71) ?_
    show Steps p.tables e below (T42.setTop (mkF m 72 #[.val (.int p0), .val (.int p1), .val (.int p2), .val (.int p3), .val (.int p4), .val (.int p5), .val (.int w.val.toInt32), .val (.int (2 : Int32)), .val (.int (0 : Int32)), .val (.int cc.val.toInt32), .val (.ref b38), .unset, .unset, .unset, .unset] [(.int (0 : Int32)), (.ref b42), (.ref b42)])) _
    refine XS.iloadN X42.here hx rfl (hb hby at_72) rfl ?_
    show Steps p.tables e below (T42.setTop (mkF m 73 #[.val (.int p0), .val (.int p1), .val (.int p2), .val (.int p3), .val (.int p4), .val (.int p5), .val (.int w.val.toInt32), .val (.int (2 : Int32)), .val (.int (0 : Int32)), .val (.int cc.val.toInt32), .val (.ref b38), .unset, .unset, .unset, .unset] [(.int p3), (.int (0 : Int32)), (.ref b42), (.ref b42)])) _
    refine st43 _ ?_
    show Steps p.tables e below (T43.setTop (mkF m 74 #[.val (.int p0), .val (.int p1), .val (.int p2), .val (.int p3), .val (.int p4), .val (.int p5), .val (.int w.val.toInt32), .val (.int (2 : Int32)), .val (.int (0 : Int32)), .val (.int cc.val.toInt32), .val (.ref b38), .unset, .unset, .unset, .unset] [(.ref b42)])) _
    refine XS.dup X43.here hx rfl (hb hby at_74) rfl rfl ?_
    show Steps p.tables e below (T43.setTop (mkF m 75 #[.val (.int p0), .val (.int p1), .val (.int p2), .val (.int p3), .val (.int p4), .val (.int p5), .val (.int w.val.toInt32), .val (.int (2 : Int32)), .val (.int (0 : Int32)), .val (.int cc.val.toInt32), .val (.ref b38), .unset, .unset, .unset, .unset] [(.ref b42), (.ref b42)])) _
    refine XS.iconst X43.here hx rfl (hb hby at_75) ?_
    show Steps p.tables e below (T43.setTop (mkF m 76 #[.val (.int p0), .val (.int p1), .val (.int p2), .val (.int p3), .val (.int p4), .val (.int p5), .val (.int w.val.toInt32), .val (.int (2 : Int32)), .val (.int (0 : Int32)), .val (.int cc.val.toInt32), .val (.ref b38), .unset, .unset, .unset, .unset] [(.int (1 : Int32)), (.ref b42), (.ref b42)])) _
    refine XS.iload X43.here hx rfl (hb hby at_76) rfl ?_
    show Steps p.tables e below (T43.setTop (mkF m 78 #[.val (.int p0), .val (.int p1), .val (.int p2), .val (.int p3), .val (.int p4), .val (.int p5), .val (.int w.val.toInt32), .val (.int (2 : Int32)), .val (.int (0 : Int32)), .val (.int cc.val.toInt32), .val (.ref b38), .unset, .unset, .unset, .unset] [(.int p4), (.int (1 : Int32)), (.ref b42), (.ref b42)])) _
    refine st44 _ ?_
    show Steps p.tables e below (T44.setTop (mkF m 79 #[.val (.int p0), .val (.int p1), .val (.int p2), .val (.int p3), .val (.int p4), .val (.int p5), .val (.int w.val.toInt32), .val (.int (2 : Int32)), .val (.int (0 : Int32)), .val (.int cc.val.toInt32), .val (.ref b38), .unset, .unset, .unset, .unset] [(.ref b42)])) _
    refine XS.dup X44.here hx rfl (hb hby at_79) rfl rfl ?_
    show Steps p.tables e below (T44.setTop (mkF m 80 #[.val (.int p0), .val (.int p1), .val (.int p2), .val (.int p3), .val (.int p4), .val (.int p5), .val (.int w.val.toInt32), .val (.int (2 : Int32)), .val (.int (0 : Int32)), .val (.int cc.val.toInt32), .val (.ref b38), .unset, .unset, .unset, .unset] [(.ref b42), (.ref b42)])) _
    refine XS.iconst X44.here hx rfl (hb hby at_80) ?_
    show Steps p.tables e below (T44.setTop (mkF m 81 #[.val (.int p0), .val (.int p1), .val (.int p2), .val (.int p3), .val (.int p4), .val (.int p5), .val (.int w.val.toInt32), .val (.int (2 : Int32)), .val (.int (0 : Int32)), .val (.int cc.val.toInt32), .val (.ref b38), .unset, .unset, .unset, .unset] [(.int (2 : Int32)), (.ref b42), (.ref b42)])) _
    refine XS.iloadN X44.here hx rfl (hb hby at_81) rfl ?_
    show Steps p.tables e below (T44.setTop (mkF m 82 #[.val (.int p0), .val (.int p1), .val (.int p2), .val (.int p3), .val (.int p4), .val (.int p5), .val (.int w.val.toInt32), .val (.int (2 : Int32)), .val (.int (0 : Int32)), .val (.int cc.val.toInt32), .val (.ref b38), .unset, .unset, .unset, .unset] [(.int p0), (.int (2 : Int32)), (.ref b42), (.ref b42)])) _
    refine XS.iconst X44.here hx rfl (hb hby at_82) ?_
    show Steps p.tables e below (T44.setTop (mkF m 83 #[.val (.int p0), .val (.int p1), .val (.int p2), .val (.int p3), .val (.int p4), .val (.int p5), .val (.int w.val.toInt32), .val (.int (2 : Int32)), .val (.int (0 : Int32)), .val (.int cc.val.toInt32), .val (.ref b38), .unset, .unset, .unset, .unset] [(.int (-1 : Int32)), (.int p0), (.int (2 : Int32)), (.ref b42), (.ref b42)])) _
    refine XT.ixor X44.here hx rfl (hb hby at_83) rfl ?_
    show Steps p.tables e below (T44.setTop (mkF m 84 #[.val (.int p0), .val (.int p1), .val (.int p2), .val (.int p3), .val (.int p4), .val (.int p5), .val (.int w.val.toInt32), .val (.int (2 : Int32)), .val (.int (0 : Int32)), .val (.int cc.val.toInt32), .val (.ref b38), .unset, .unset, .unset, .unset] [(.int (p0 ^^^ (-1 : Int32))), (.int (2 : Int32)), (.ref b42), (.ref b42)])) _
    refine st45 _ ?_
    show Steps p.tables e below (T45.setTop (mkF m 85 #[.val (.int p0), .val (.int p1), .val (.int p2), .val (.int p3), .val (.int p4), .val (.int p5), .val (.int w.val.toInt32), .val (.int (2 : Int32)), .val (.int (0 : Int32)), .val (.int cc.val.toInt32), .val (.ref b38), .unset, .unset, .unset, .unset] [(.ref b42)])) _
    refine XS.astore X45.here hx rfl (hb hby at_85) rfl rfl (l' := #[.val (.int p0), .val (.int p1), .val (.int p2), .val (.int p3), .val (.int p4), .val (.int p5), .val (.int w.val.toInt32), .val (.int (2 : Int32)), .val (.int (0 : Int32)), .val (.int cc.val.toInt32), .val (.ref b38), .val (.ref b42), .unset, .unset, .unset]) rfl ?_
    show Steps p.tables e below (T45.setTop (mkF m 87 #[.val (.int p0), .val (.int p1), .val (.int p2), .val (.int p3), .val (.int p4), .val (.int p5), .val (.int w.val.toInt32), .val (.int (2 : Int32)), .val (.int (0 : Int32)), .val (.int cc.val.toInt32), .val (.ref b38), .val (.ref b42), .unset, .unset, .unset] [])) _
    refine XS.iconst X45.here hx rfl (hb hby at_87) ?_
    show Steps p.tables e below (T45.setTop (mkF m 88 #[.val (.int p0), .val (.int p1), .val (.int p2), .val (.int p3), .val (.int p4), .val (.int p5), .val (.int w.val.toInt32), .val (.int (2 : Int32)), .val (.int (0 : Int32)), .val (.int cc.val.toInt32), .val (.ref b38), .val (.ref b42), .unset, .unset, .unset] [(.int (3 : Int32))])) _
    refine st46 _ ?_
    show Steps p.tables e below (T46.setTop (mkF m 90 #[.val (.int p0), .val (.int p1), .val (.int p2), .val (.int p3), .val (.int p4), .val (.int p5), .val (.int w.val.toInt32), .val (.int (2 : Int32)), .val (.int (0 : Int32)), .val (.int cc.val.toInt32), .val (.ref b38), .val (.ref b42), .unset, .unset, .unset] [(.ref b46)])) _
    refine XS.dup X46.here hx rfl (hb hby at_90) rfl rfl ?_
    show Steps p.tables e below (T46.setTop (mkF m 91 #[.val (.int p0), .val (.int p1), .val (.int p2), .val (.int p3), .val (.int p4), .val (.int p5), .val (.int w.val.toInt32), .val (.int (2 : Int32)), .val (.int (0 : Int32)), .val (.int cc.val.toInt32), .val (.ref b38), .val (.ref b42), .unset, .unset, .unset] [(.ref b46), (.ref b46)])) _
    refine XS.iconst X46.here hx rfl (hb hby at_91) ?_
    show Steps p.tables e below (T46.setTop (mkF m 92 #[.val (.int p0), .val (.int p1), .val (.int p2), .val (.int p3), .val (.int p4), .val (.int p5), .val (.int w.val.toInt32), .val (.int (2 : Int32)), .val (.int (0 : Int32)), .val (.int cc.val.toInt32), .val (.ref b38), .val (.ref b42), .unset, .unset, .unset] [(.int (0 : Int32)), (.ref b46), (.ref b46)])) _
    refine XS.iloadN X46.here hx rfl (hb hby at_92) rfl ?_
    show Steps p.tables e below (T46.setTop (mkF m 93 #[.val (.int p0), .val (.int p1), .val (.int p2), .val (.int p3), .val (.int p4), .val (.int p5), .val (.int w.val.toInt32), .val (.int (2 : Int32)), .val (.int (0 : Int32)), .val (.int cc.val.toInt32), .val (.ref b38), .val (.ref b42), .unset, .unset, .unset] [(.int p1), (.int (0 : Int32)), (.ref b46), (.ref b46)])) _
    refine XS.iconst X46.here hx rfl (hb hby at_93) ?_
    show Steps p.tables e below (T46.setTop (mkF m 94 #[.val (.int p0), .val (.int p1), .val (.int p2), .val (.int p3), .val (.int p4), .val (.int p5), .val (.int w.val.toInt32), .val (.int (2 : Int32)), .val (.int (0 : Int32)), .val (.int cc.val.toInt32), .val (.ref b38), .val (.ref b42), .unset, .unset, .unset] [(.int (-1 : Int32)), (.int p1), (.int (0 : Int32)), (.ref b46), (.ref b46)])) _
    refine XT.ixor X46.here hx rfl (hb hby at_94) rfl ?_
    show Steps p.tables e below (T46.setTop (mkF m 95 #[.val (.int p0), .val (.int p1), .val (.int p2), .val (.int p3), .val (.int p4), .val (.int p5), .val (.int w.val.toInt32), .val (.int (2 : Int32)), .val (.int (0 : Int32)), .val (.int cc.val.toInt32), .val (.ref b38), .val (.ref b42), .unset, .unset, .unset] [(.int (p1 ^^^ (-1 : Int32))), (.int (0 : Int32)), (.ref b46), (.ref b46)])) _
    refine st47 _ ?_
    show Steps p.tables e below (T47.setTop (mkF m 96 #[.val (.int p0), .val (.int p1), .val (.int p2), .val (.int p3), .val (.int p4), .val (.int p5), .val (.int w.val.toInt32), .val (.int (2 : Int32)), .val (.int (0 : Int32)), .val (.int cc.val.toInt32), .val (.ref b38), .val (.ref b42), .unset, .unset, .unset] [(.ref b46)])) _
    refine XS.dup X47.here hx rfl (hb hby at_96) rfl rfl ?_
    show Steps p.tables e below (T47.setTop (mkF m 97 #[.val (.int p0), .val (.int p1), .val (.int p2), .val (.int p3), .val (.int p4), .val (.int p5), .val (.int w.val.toInt32), .val (.int (2 : Int32)), .val (.int (0 : Int32)), .val (.int cc.val.toInt32), .val (.ref b38), .val (.ref b42), .unset, .unset, .unset] [(.ref b46), (.ref b46)])) _
    refine XS.iconst X47.here hx rfl (hb hby at_97) ?_
    show Steps p.tables e below (T47.setTop (mkF m 98 #[.val (.int p0), .val (.int p1), .val (.int p2), .val (.int p3), .val (.int p4), .val (.int p5), .val (.int w.val.toInt32), .val (.int (2 : Int32)), .val (.int (0 : Int32)), .val (.int cc.val.toInt32), .val (.ref b38), .val (.ref b42), .unset, .unset, .unset] [(.int (1 : Int32)), (.ref b46), (.ref b46)])) _
    refine XS.iloadN X47.here hx rfl (hb hby at_98) rfl ?_
    show Steps p.tables e below (T47.setTop (mkF m 99 #[.val (.int p0), .val (.int p1), .val (.int p2), .val (.int p3), .val (.int p4), .val (.int p5), .val (.int w.val.toInt32), .val (.int (2 : Int32)), .val (.int (0 : Int32)), .val (.int cc.val.toInt32), .val (.ref b38), .val (.ref b42), .unset, .unset, .unset] [(.int p2), (.int (1 : Int32)), (.ref b46), (.ref b46)])) _
    refine XS.iconst X47.here hx rfl (hb hby at_99) ?_
    show Steps p.tables e below (T47.setTop (mkF m 100 #[.val (.int p0), .val (.int p1), .val (.int p2), .val (.int p3), .val (.int p4), .val (.int p5), .val (.int w.val.toInt32), .val (.int (2 : Int32)), .val (.int (0 : Int32)), .val (.int cc.val.toInt32), .val (.ref b38), .val (.ref b42), .unset, .unset, .unset] [(.int (-1 : Int32)), (.int p2), (.int (1 : Int32)), (.ref b46), (.ref b46)])) _
    refine XT.ixor X47.here hx rfl (hb hby at_100) rfl ?_
    show Steps p.tables e below (T47.setTop (mkF m 101 #[.val (.int p0), .val (.int p1), .val (.int p2), .val (.int p3), .val (.int p4), .val (.int p5), .val (.int w.val.toInt32), .val (.int (2 : Int32)), .val (.int (0 : Int32)), .val (.int cc.val.toInt32), .val (.ref b38), .val (.ref b42), .unset, .unset, .unset] [(.int (p2 ^^^ (-1 : Int32))), (.int (1 : Int32)), (.ref b46), (.ref b46)])) _
    refine st48 _ ?_
    show Steps p.tables e below (T48.setTop (mkF m 102 #[.val (.int p0), .val (.int p1), .val (.int p2), .val (.int p3), .val (.int p4), .val (.int p5), .val (.int w.val.toInt32), .val (.int (2 : Int32)), .val (.int (0 : Int32)), .val (.int cc.val.toInt32), .val (.ref b38), .val (.ref b42), .unset, .unset, .unset] [(.ref b46)])) _
    refine XS.dup X48.here hx rfl (hb hby at_102) rfl rfl ?_
    show Steps p.tables e below (T48.setTop (mkF m 103 #[.val (.int p0), .val (.int p1), .val (.int p2), .val (.int p3), .val (.int p4), .val (.int p5), .val (.int w.val.toInt32), .val (.int (2 : Int32)), .val (.int (0 : Int32)), .val (.int cc.val.toInt32), .val (.ref b38), .val (.ref b42), .unset, .unset, .unset] [(.ref b46), (.ref b46)])) _
    refine XS.iconst X48.here hx rfl (hb hby at_103) ?_
    show Steps p.tables e below (T48.setTop (mkF m 104 #[.val (.int p0), .val (.int p1), .val (.int p2), .val (.int p3), .val (.int p4), .val (.int p5), .val (.int w.val.toInt32), .val (.int (2 : Int32)), .val (.int (0 : Int32)), .val (.int cc.val.toInt32), .val (.ref b38), .val (.ref b42), .unset, .unset, .unset] [(.int (2 : Int32)), (.ref b46), (.ref b46)])) _
    refine XS.iloadN X48.here hx rfl (hb hby at_104) rfl ?_
    show Steps p.tables e below (T48.setTop (mkF m 105 #[.val (.int p0), .val (.int p1), .val (.int p2), .val (.int p3), .val (.int p4), .val (.int p5), .val (.int w.val.toInt32), .val (.int (2 : Int32)), .val (.int (0 : Int32)), .val (.int cc.val.toInt32), .val (.ref b38), .val (.ref b42), .unset, .unset, .unset] [(.int p3), (.int (2 : Int32)), (.ref b46), (.ref b46)])) _
    refine XS.iconst X48.here hx rfl (hb hby at_105) ?_
    show Steps p.tables e below (T48.setTop (mkF m 106 #[.val (.int p0), .val (.int p1), .val (.int p2), .val (.int p3), .val (.int p4), .val (.int p5), .val (.int w.val.toInt32), .val (.int (2 : Int32)), .val (.int (0 : Int32)), .val (.int cc.val.toInt32), .val (.ref b38), .val (.ref b42), .unset, .unset, .unset] [(.int (-1 : Int32)), (.int p3), (.int (2 : Int32)), (.ref b46), (.ref b46)])) _
    refine XT.ixor X48.here hx rfl (hb hby at_106) rfl ?_
    show Steps p.tables e below (T48.setTop (mkF m 107 #[.val (.int p0), .val (.int p1), .val (.int p2), .val (.int p3), .val (.int p4), .val (.int p5), .val (.int w.val.toInt32), .val (.int (2 : Int32)), .val (.int (0 : Int32)), .val (.int cc.val.toInt32), .val (.ref b38), .val (.ref b42), .unset, .unset, .unset] [(.int (p3 ^^^ (-1 : Int32))), (.int (2 : Int32)), (.ref b46), (.ref b46)])) _
    refine st49 _ ?_
    show Steps p.tables e below (T49.setTop (mkF m 108 #[.val (.int p0), .val (.int p1), .val (.int p2), .val (.int p3), .val (.int p4), .val (.int p5), .val (.int w.val.toInt32), .val (.int (2 : Int32)), .val (.int (0 : Int32)), .val (.int cc.val.toInt32), .val (.ref b38), .val (.ref b42), .unset, .unset, .unset] [(.ref b46)])) _
    refine XS.astore X49.here hx rfl (hb hby at_108) rfl rfl (l' := #[.val (.int p0), .val (.int p1), .val (.int p2), .val (.int p3), .val (.int p4), .val (.int p5), .val (.int w.val.toInt32), .val (.int (2 : Int32)), .val (.int (0 : Int32)), .val (.int cc.val.toInt32), .val (.ref b38), .val (.ref b42), .val (.ref b46), .unset, .unset]) rfl ?_
    show Steps p.tables e below (T49.setTop (mkF m 110 #[.val (.int p0), .val (.int p1), .val (.int p2), .val (.int p3), .val (.int p4), .val (.int p5), .val (.int w.val.toInt32), .val (.int (2 : Int32)), .val (.int (0 : Int32)), .val (.int cc.val.toInt32), .val (.ref b38), .val (.ref b42), .val (.ref b46), .unset, .unset] [])) _
    refine st50 _ ?_
    show Steps p.tables e below (T50.setTop (mkF m 113 #[.val (.int p0), .val (.int p1), .val (.int p2), .val (.int p3), .val (.int p4), .val (.int p5), .val (.int w.val.toInt32), .val (.int (2 : Int32)), .val (.int (0 : Int32)), .val (.int cc.val.toInt32), .val (.ref b38), .val (.ref b42), .val (.ref b46), .unset, .unset] [(.ref b50)])) _
    refine XS.dup X50.here hx rfl (hb hby at_113) rfl rfl ?_
    show Steps p.tables e below (T50.setTop (mkF m 114 #[.val (.int p0), .val (.int p1), .val (.int p2), .val (.int p3), .val (.int p4), .val (.int p5), .val (.int w.val.toInt32), .val (.int (2 : Int32)), .val (.int (0 : Int32)), .val (.int cc.val.toInt32), .val (.ref b38), .val (.ref b42), .val (.ref b46), .unset, .unset] [(.ref b50), (.ref b50)])) _
    refine XS.iload X50.here hx rfl (hb hby at_114) rfl ?_
    show Steps p.tables e below (T50.setTop (mkF m 116 #[.val (.int p0), .val (.int p1), .val (.int p2), .val (.int p3), .val (.int p4), .val (.int p5), .val (.int w.val.toInt32), .val (.int (2 : Int32)), .val (.int (0 : Int32)), .val (.int cc.val.toInt32), .val (.ref b38), .val (.ref b42), .val (.ref b46), .unset, .unset] [(.int w.val.toInt32), (.ref b50), (.ref b50)])) _
    refine st51.trans ?_
    show Steps p.tables e below (T51.setTop (mkF m 119 #[.val (.int p0), .val (.int p1), .val (.int p2), .val (.int p3), .val (.int p4), .val (.int p5), .val (.int w.val.toInt32), .val (.int (2 : Int32)), .val (.int (0 : Int32)), .val (.int cc.val.toInt32), .val (.ref b38), .val (.ref b42), .val (.ref b46), .unset, .unset] [(.ref b50)])) _
    refine XS.astore X51.here hx rfl (hb hby at_119) rfl rfl (l' := #[.val (.int p0), .val (.int p1), .val (.int p2), .val (.int p3), .val (.int p4), .val (.int p5), .val (.int w.val.toInt32), .val (.int (2 : Int32)), .val (.int (0 : Int32)), .val (.int cc.val.toInt32), .val (.ref b38), .val (.ref b42), .val (.ref b46), .val (.ref b50), .unset]) rfl ?_
    show Steps p.tables e below (T51.setTop (mkF m 121 #[.val (.int p0), .val (.int p1), .val (.int p2), .val (.int p3), .val (.int p4), .val (.int p5), .val (.int w.val.toInt32), .val (.int (2 : Int32)), .val (.int (0 : Int32)), .val (.int cc.val.toInt32), .val (.ref b38), .val (.ref b42), .val (.ref b46), .val (.ref b50), .unset] [])) _
    refine XS.aload X51.here hx rfl (hb hby at_121) rfl rfl ?_
    show Steps p.tables e below (T51.setTop (mkF m 123 #[.val (.int p0), .val (.int p1), .val (.int p2), .val (.int p3), .val (.int p4), .val (.int p5), .val (.int w.val.toInt32), .val (.int (2 : Int32)), .val (.int (0 : Int32)), .val (.int cc.val.toInt32), .val (.ref b38), .val (.ref b42), .val (.ref b46), .val (.ref b50), .unset] [(.ref b50)])) _
    refine XS.aload X51.here hx rfl (hb hby at_123) rfl rfl ?_
    show Steps p.tables e below (T51.setTop (mkF m 125 #[.val (.int p0), .val (.int p1), .val (.int p2), .val (.int p3), .val (.int p4), .val (.int p5), .val (.int w.val.toInt32), .val (.int (2 : Int32)), .val (.int (0 : Int32)), .val (.int cc.val.toInt32), .val (.ref b38), .val (.ref b42), .val (.ref b46), .val (.ref b50), .unset] [(.ref b38), (.ref b50)])) _
    refine st52.trans ?_
    show Steps p.tables e below (T52.setTop (mkF m 128 #[.val (.int p0), .val (.int p1), .val (.int p2), .val (.int p3), .val (.int p4), .val (.int p5), .val (.int w.val.toInt32), .val (.int (2 : Int32)), .val (.int (0 : Int32)), .val (.int cc.val.toInt32), .val (.ref b38), .val (.ref b42), .val (.ref b46), .val (.ref b50), .unset] [])) _
    refine XS.iload X52.here hx rfl (hb hby at_128) rfl ?_
    show Steps p.tables e below (T52.setTop (mkF m 130 #[.val (.int p0), .val (.int p1), .val (.int p2), .val (.int p3), .val (.int p4), .val (.int p5), .val (.int w.val.toInt32), .val (.int (2 : Int32)), .val (.int (0 : Int32)), .val (.int cc.val.toInt32), .val (.ref b38), .val (.ref b42), .val (.ref b46), .val (.ref b50), .unset] [(.int (2 : Int32))])) _
    refine XS.iconst X52.here hx rfl (hb hby at_130) ?_
    show Steps p.tables e below (T52.setTop (mkF m 131 #[.val (.int p0), .val (.int p1), .val (.int p2), .val (.int p3), .val (.int p4), .val (.int p5), .val (.int w.val.toInt32), .val (.int (2 : Int32)), .val (.int (0 : Int32)), .val (.int cc.val.toInt32), .val (.ref b38), .val (.ref b42), .val (.ref b46), .val (.ref b50), .unset] [(.int (2 : Int32)), (.int (2 : Int32))])) _
    refine XS.icmpNo X52.here hx rfl (hb hby at_131) rfl (XT.ii_lt_f (by decide)) ?_
    show Steps p.tables e below (T52.setTop (mkF m 134 #[.val (.int p0), .val (.int p1), .val (.int p2), .val (.int p3), .val (.int p4), .val (.int p5), .val (.int w.val.toInt32), .val (.int (2 : Int32)), .val (.int (0 : Int32)), .val (.int cc.val.toInt32), .val (.ref b38), .val (.ref b42), .val (.ref b46), .val (.ref b50), .unset] [])) _
    refine XS.aload X52.here hx rfl (hb hby at_134) rfl rfl ?_
    show Steps p.tables e below (T52.setTop (mkF m 136 #[.val (.int p0), .val (.int p1), .val (.int p2), .val (.int p3), .val (.int p4), .val (.int p5), .val (.int w.val.toInt32), .val (.int (2 : Int32)), .val (.int (0 : Int32)), .val (.int cc.val.toInt32), .val (.ref b38), .val (.ref b42), .val (.ref b46), .val (.ref b50), .unset] [(.ref b50)])) _
    refine XS.aload X52.here hx rfl (hb hby at_136) rfl rfl ?_
    show Steps p.tables e below (T52.setTop (mkF m 138 #[.val (.int p0), .val (.int p1), .val (.int p2), .val (.int p3), .val (.int p4), .val (.int p5), .val (.int w.val.toInt32), .val (.int (2 : Int32)), .val (.int (0 : Int32)), .val (.int cc.val.toInt32), .val (.ref b38), .val (.ref b42), .val (.ref b46), .val (.ref b50), .unset] [(.ref b42), (.ref b50)])) _
    refine st53.trans ?_
    show Steps p.tables e below (T53.setTop (mkF m 141 #[.val (.int p0), .val (.int p1), .val (.int p2), .val (.int p3), .val (.int p4), .val (.int p5), .val (.int w.val.toInt32), .val (.int (2 : Int32)), .val (.int (0 : Int32)), .val (.int cc.val.toInt32), .val (.ref b38), .val (.ref b42), .val (.ref b46), .val (.ref b50), .unset] [])) _
    refine XS.iload X53.here hx rfl (hb hby at_141) rfl ?_
    show Steps p.tables e below (T53.setTop (mkF m 143 #[.val (.int p0), .val (.int p1), .val (.int p2), .val (.int p3), .val (.int p4), .val (.int p5), .val (.int w.val.toInt32), .val (.int (2 : Int32)), .val (.int (0 : Int32)), .val (.int cc.val.toInt32), .val (.ref b38), .val (.ref b42), .val (.ref b46), .val (.ref b50), .unset] [(.int (2 : Int32))])) _
    refine XS.iconst X53.here hx rfl (hb hby at_143) ?_
    show Steps p.tables e below (T53.setTop (mkF m 144 #[.val (.int p0), .val (.int p1), .val (.int p2), .val (.int p3), .val (.int p4), .val (.int p5), .val (.int w.val.toInt32), .val (.int (2 : Int32)), .val (.int (0 : Int32)), .val (.int cc.val.toInt32), .val (.ref b38), .val (.ref b42), .val (.ref b46), .val (.ref b50), .unset] [(.int (3 : Int32)), (.int (2 : Int32))])) _
    refine XS.icmpYes X53.here hx rfl (pc0 := 144) (pc' := 154) rfl (hb hby at_144) rfl (XT.ii_lt_t (by decide)) (by decide) (by decide) ?_
    show Steps p.tables e below (T53.setTop (mkF m 154 #[.val (.int p0), .val (.int p1), .val (.int p2), .val (.int p3), .val (.int p4), .val (.int p5), .val (.int w.val.toInt32), .val (.int (2 : Int32)), .val (.int (0 : Int32)), .val (.int cc.val.toInt32), .val (.ref b38), .val (.ref b42), .val (.ref b46), .val (.ref b50), .unset] [])) _
    refine XS.iload X53.here hx rfl (hb hby at_154) rfl ?_
    show Steps p.tables e below (T53.setTop (mkF m 156 #[.val (.int p0), .val (.int p1), .val (.int p2), .val (.int p3), .val (.int p4), .val (.int p5), .val (.int w.val.toInt32), .val (.int (2 : Int32)), .val (.int (0 : Int32)), .val (.int cc.val.toInt32), .val (.ref b38), .val (.ref b42), .val (.ref b46), .val (.ref b50), .unset] [(.int (0 : Int32))])) _
    refine XS.ifNo X53.here hx rfl (hb hby at_156) rfl (XT.i0_ne_f (by decide)) ?_
    show Steps p.tables e below (T53.setTop (mkF m 159 #[.val (.int p0), .val (.int p1), .val (.int p2), .val (.int p3), .val (.int p4), .val (.int p5), .val (.int w.val.toInt32), .val (.int (2 : Int32)), .val (.int (0 : Int32)), .val (.int cc.val.toInt32), .val (.ref b38), .val (.ref b42), .val (.ref b46), .val (.ref b50), .unset] [])) _
    refine XS.aload X53.here hx rfl (hb hby at_159) rfl rfl ?_
    show Steps p.tables e below (T53.setTop (mkF m 161 #[.val (.int p0), .val (.int p1), .val (.int p2), .val (.int p3), .val (.int p4), .val (.int p5), .val (.int w.val.toInt32), .val (.int (2 : Int32)), .val (.int (0 : Int32)), .val (.int cc.val.toInt32), .val (.ref b38), .val (.ref b42), .val (.ref b46), .val (.ref b50), .unset] [(.ref b38)])) _
    refine XS.iload X53.here hx rfl (hb hby at_161) rfl ?_
    show Steps p.tables e below (T53.setTop (mkF m 163 #[.val (.int p0), .val (.int p1), .val (.int p2), .val (.int p3), .val (.int p4), .val (.int p5), .val (.int w.val.toInt32), .val (.int (2 : Int32)), .val (.int (0 : Int32)), .val (.int cc.val.toInt32), .val (.ref b38), .val (.ref b42), .val (.ref b46), .val (.ref b50), .unset] [(.int cc.val.toInt32), (.ref b38)])) _
    refine X53.iaload hx (j := cc.val.toInt32) (v := (.int (own_x (upd (upd (upd (fun _ => (.int 0)) 0 (.int p0)) 1 (.int p1)) 2 (.int p2)) cc.val))) Ar54.1 (State.isArrayOf_alike hZ.alike Ar54.2.1) Ar54.2.2 hin54 hat54 (g := (mkF m 163 #[.val (.int p0), .val (.int p1), .val (.int p2), .val (.int p3), .val (.int p4), .val (.int p5), .val (.int w.val.toInt32), .val (.int (2 : Int32)), .val (.int (0 : Int32)), .val (.int cc.val.toInt32), .val (.ref b38), .val (.ref b42), .val (.ref b46), .val (.ref b50), .unset] [(.int cc.val.toInt32), (.ref b38)])) rfl rfl (hb hby at_163) _ ?_
    show Steps p.tables e below (T53.setTop (mkF m 164 #[.val (.int p0), .val (.int p1), .val (.int p2), .val (.int p3), .val (.int p4), .val (.int p5), .val (.int w.val.toInt32), .val (.int (2 : Int32)), .val (.int (0 : Int32)), .val (.int cc.val.toInt32), .val (.ref b38), .val (.ref b42), .val (.ref b46), .val (.ref b50), .unset] [(.int (own_x (upd (upd (upd (fun _ => (.int 0)) 0 (.int p0)) 1 (.int p1)) 2 (.int p2)) cc.val))])) _
    refine XS.istore X53.here hx rfl (hb hby at_164) rfl (l' := #[.val (.int p0), .val (.int p1), .val (.int p2), .val (.int p3), .val (.int p4), .val (.int p5), .val (.int w.val.toInt32), .val (.int (2 : Int32)), .val (.int (0 : Int32)), .val (.int cc.val.toInt32), .val (.ref b38), .val (.ref b42), .val (.ref b46), .val (.ref b50), .val (.int (own_x (upd (upd (upd (fun _ => (.int 0)) 0 (.int p0)) 1 (.int p1)) 2 (.int p2)) cc.val))]) rfl ?_
    show Steps p.tables e below (T53.setTop (mkF m 166 #[.val (.int p0), .val (.int p1), .val (.int p2), .val (.int p3), .val (.int p4), .val (.int p5), .val (.int w.val.toInt32), .val (.int (2 : Int32)), .val (.int (0 : Int32)), .val (.int cc.val.toInt32), .val (.ref b38), .val (.ref b42), .val (.ref b46), .val (.ref b50), .val (.int (own_x (upd (upd (upd (fun _ => (.int 0)) 0 (.int p0)) 1 (.int p1)) 2 (.int p2)) cc.val))] [])) _
    refine XS.goto X53.here hx rfl (pc0 := 166) (pc' := 192) rfl (hb hby at_166) (by decide) (by decide) ?_
    show Steps p.tables e below (T53.setTop (mkF m 192 #[.val (.int p0), .val (.int p1), .val (.int p2), .val (.int p3), .val (.int p4), .val (.int p5), .val (.int w.val.toInt32), .val (.int (2 : Int32)), .val (.int (0 : Int32)), .val (.int cc.val.toInt32), .val (.ref b38), .val (.ref b42), .val (.ref b46), .val (.ref b50), .val (.int (own_x (upd (upd (upd (fun _ => (.int 0)) 0 (.int p0)) 1 (.int p1)) 2 (.int p2)) cc.val))] [])) _
    refine XS.aload X53.here hx rfl (hb hby at_192) rfl rfl ?_
    show Steps p.tables e below (T53.setTop (mkF m 194 #[.val (.int p0), .val (.int p1), .val (.int p2), .val (.int p3), .val (.int p4), .val (.int p5), .val (.int w.val.toInt32), .val (.int (2 : Int32)), .val (.int (0 : Int32)), .val (.int cc.val.toInt32), .val (.ref b38), .val (.ref b42), .val (.ref b46), .val (.ref b50), .val (.int (own_x (upd (upd (upd (fun _ => (.int 0)) 0 (.int p0)) 1 (.int p1)) 2 (.int p2)) cc.val))] [(.ref b50)])) _
    refine XS.iload X53.here hx rfl (hb hby at_194) rfl ?_
    show Steps p.tables e below (T53.setTop (mkF m 196 #[.val (.int p0), .val (.int p1), .val (.int p2), .val (.int p3), .val (.int p4), .val (.int p5), .val (.int w.val.toInt32), .val (.int (2 : Int32)), .val (.int (0 : Int32)), .val (.int cc.val.toInt32), .val (.ref b38), .val (.ref b42), .val (.ref b46), .val (.ref b50), .val (.int (own_x (upd (upd (upd (fun _ => (.int 0)) 0 (.int p0)) 1 (.int p1)) 2 (.int p2)) cc.val))] [(.int (0 : Int32)), (.ref b50)])) _
    refine XS.iload X53.here hx rfl (hb hby at_196) rfl ?_
    show Steps p.tables e below (T53.setTop (mkF m 198 #[.val (.int p0), .val (.int p1), .val (.int p2), .val (.int p3), .val (.int p4), .val (.int p5), .val (.int w.val.toInt32), .val (.int (2 : Int32)), .val (.int (0 : Int32)), .val (.int cc.val.toInt32), .val (.ref b38), .val (.ref b42), .val (.ref b46), .val (.ref b50), .val (.int (own_x (upd (upd (upd (fun _ => (.int 0)) 0 (.int p0)) 1 (.int p1)) 2 (.int p2)) cc.val))] [(.int cc.val.toInt32), (.int (0 : Int32)), (.ref b50)])) _
    refine st55.trans ?_
    show Steps p.tables e below (T55.setTop (mkF m 201 #[.val (.int p0), .val (.int p1), .val (.int p2), .val (.int p3), .val (.int p4), .val (.int p5), .val (.int w.val.toInt32), .val (.int (2 : Int32)), .val (.int (0 : Int32)), .val (.int cc.val.toInt32), .val (.ref b38), .val (.ref b42), .val (.ref b46), .val (.ref b50), .val (.int (own_x (upd (upd (upd (fun _ => (.int 0)) 0 (.int p0)) 1 (.int p1)) 2 (.int p2)) cc.val))] [(.int (own_x (upd (upd (upd (fun _ => (.int 0)) 0 (.int p0)) 1 (.int p1)) 2 (.int p2)) cc.val))])) _
    refine XS.iload X55.here hx rfl (hb hby at_201) rfl ?_
    show Steps p.tables e below (T55.setTop (mkF m 203 #[.val (.int p0), .val (.int p1), .val (.int p2), .val (.int p3), .val (.int p4), .val (.int p5), .val (.int w.val.toInt32), .val (.int (2 : Int32)), .val (.int (0 : Int32)), .val (.int cc.val.toInt32), .val (.ref b38), .val (.ref b42), .val (.ref b46), .val (.ref b50), .val (.int (own_x (upd (upd (upd (fun _ => (.int 0)) 0 (.int p0)) 1 (.int p1)) 2 (.int p2)) cc.val))] [(.int (own_x (upd (upd (upd (fun _ => (.int 0)) 0 (.int p0)) 1 (.int p1)) 2 (.int p2)) cc.val)), (.int (own_x (upd (upd (upd (fun _ => (.int 0)) 0 (.int p0)) 1 (.int p1)) 2 (.int p2)) cc.val))])) _
    refine XS.icmpNo X55.here hx rfl (hb hby at_203) rfl (XT.ii_ne_f rfl) ?_
    show Steps p.tables e below (T55.setTop (mkF m 206 #[.val (.int p0), .val (.int p1), .val (.int p2), .val (.int p3), .val (.int p4), .val (.int p5), .val (.int w.val.toInt32), .val (.int (2 : Int32)), .val (.int (0 : Int32)), .val (.int cc.val.toInt32), .val (.ref b38), .val (.ref b42), .val (.ref b46), .val (.ref b50), .val (.int (own_x (upd (upd (upd (fun _ => (.int 0)) 0 (.int p0)) 1 (.int p1)) 2 (.int p2)) cc.val))] [])) _
    refine XS.iconst X55.here hx rfl (hb hby at_206) ?_
    show Steps p.tables e below (T55.setTop (mkF m 207 #[.val (.int p0), .val (.int p1), .val (.int p2), .val (.int p3), .val (.int p4), .val (.int p5), .val (.int w.val.toInt32), .val (.int (2 : Int32)), .val (.int (0 : Int32)), .val (.int cc.val.toInt32), .val (.ref b38), .val (.ref b42), .val (.ref b46), .val (.ref b50), .val (.int (own_x (upd (upd (upd (fun _ => (.int 0)) 0 (.int p0)) 1 (.int p1)) 2 (.int p2)) cc.val))] [(.int (1 : Int32))])) _
    refine XS.goto X55.here hx rfl (pc0 := 207) (pc' := 211) rfl (hb hby at_207) (by decide) (by decide) ?_
    show Steps p.tables e below (T55.setTop (mkF m 211 #[.val (.int p0), .val (.int p1), .val (.int p2), .val (.int p3), .val (.int p4), .val (.int p5), .val (.int w.val.toInt32), .val (.int (2 : Int32)), .val (.int (0 : Int32)), .val (.int cc.val.toInt32), .val (.ref b38), .val (.ref b42), .val (.ref b46), .val (.ref b50), .val (.int (own_x (upd (upd (upd (fun _ => (.int 0)) 0 (.int p0)) 1 (.int p1)) 2 (.int p2)) cc.val))] [(.int (1 : Int32))])) _
    exact retN X55 hx (t := .boolean) Bd.returns (by simp) (hb hby at_211) hr
  · show Q_own_law_2_0 Z p0 p1 p2 p3 p4 p5 w cc h0 n0 _ T55.heap _
    rw [eh55]
    exact ⟨rfl, N55⟩
theorem pn_own_law_2_1 : plainName "com/example/factwell/factwell/pql/RowsGetPinLaw" = true := by first | (simp [plainName, overriddenIn]; done) | decide +kernel
theorem ef_own_law_2_1 (m : MethodId) (x0 : Int32) (x1 : Int32) (x2 : Int32) (x3 : Int32) (x4 : Int32) (x5 : Int32) : entryFrame m #[(.int x0), (.int x1), (.int x2), (.int x3), (.int x4), (.int x5)] maxLocals = mkF m 0 #[.val (.int x0), .val (.int x1), .val (.int x2), .val (.int x3), .val (.int x4), .val (.int x5), .unset, .unset, .unset, .unset, .unset, .unset, .unset, .unset, .unset] [] := by first | (simp [entryFrame, mkF, argsToLocals, Value.category, maxLocals]; done) | rfl
def Q_own_law_2_1 (Z : State) (p0 : Int32) (p1 : Int32) (p2 : Int32) (p3 : Int32) (p4 : Int32) (p5 : Int32) (w : Fin 4) (cc : Fin 3) (h0 : Heap) (n0 : Nat) (v : Option Value) (h : Heap) (L : List Loc) : Prop := v = some (.int 1) ∧ Fr n0 L
set_option maxRecDepth 65536 in
set_option maxHeartbeats 40000000 in
theorem own_law_2_1 (l : Launch) (Z : State) (a0 : Array Value) (hw : ∀ d ∈ tables_1, d.before a0 Z = true) (ws : List Jvm.Cond) (p0 : Int32) (p1 : Int32) (p2 : Int32) (p3 : Int32) (p4 : Int32) (p5 : Int32) (w : Fin 4) (cc : Fin 3) (h0 : Heap) (n0 : Nat) (Z0 : n0 ≤ h0.size) (hW_ : ((1 : Int32) + ((p5 &&& (15 : Int32)) % (3 : Int32))) = w.val.toInt32) (hN_ : ((1 : Int32) + (((XT.ushr p5 (4 : Int32)) &&& (15 : Int32)) % (3 : Int32))) = (2 : Int32)) (hR_ : (((XT.ushr p5 (8 : Int32)) &&& (15 : Int32)) % (2 : Int32)) = (1 : Int32)) (hC_ : (((XT.ushr p5 (12 : Int32)) &&& (15 : Int32)) % w.val.toInt32) = cc.val.toInt32) (hw1 : 1 ≤ w.val) (hcw : cc.val < w.val) :
    MetFree l x (head1 (Jvm.Cond.code x code maxLocals ret :: ws) room_1) (fun a U => a = #[(.int p0), (.int p1), (.int p2), (.int p3), (.int p4), (.int p5)] ∧ Z.Warmed39 U.vm ∧ U.heap = h0) (fun _ _ _ _ _ => True) (fun _ U o U' => ∃ v L, o = .returned v ∧ Q_own_law_2_1 Z p0 p1 p2 p3 p4 p5 w cc h0 n0 v U'.heap L ∧ FrameEnd U o U' L 24 192) := by
  refine MetFree.of_bodySF (plainFor_of_name pn_own_law_2_1) hisR ?_
  intro p e s m args below meth c s₁ Bd hml0 hP hK
  obtain ⟨rfl, hZ, hh⟩ := hP
  have hx := Bd.exec
  have hby := Bd.bytes
  have hml : c.maxLocals = 15 := hml0
  have hown : s.vm.findClass "com/example/factwell/factwell/pql/RowsGetPinLaw" = some m.cls := findClass_of_methodNamed Bd.named
  have hnm := (name_of_methodNamed Bd.named Bd.method).1
  have X0 : Stand p l e room_1 s m #[(.int p0), (.int p1), (.int p2), (.int p3), (.int p4), (.int p5)] below meth c s₁ [] 0 0 := Stand.of_body Bd
  have e0 : s₁.heap = h0 := by rw [← hh, Bd.state]; rfl
  have N0 := Fr.nil n0
  have pre0 : ∀ t, Steps p.tables e below (s₁.setTop (mkF m 0 #[.val (.int p0), .val (.int p1), .val (.int p2), .val (.int p3), .val (.int p4), .val (.int p5), .unset, .unset, .unset, .unset, .unset, .unset, .unset, .unset, .unset] [])) t → Steps p.tables e below (s₁.setTop (entryFrame m #[(.int p0), (.int p1), (.int p2), (.int p3), (.int p4), (.int p5)] maxLocals)) t := fun t k => castTop (ef_own_law_2_1 m (p0) (p1) (p2) (p3) (p4) (p5)) k
  obtain ⟨T56, h56, k56, X56, e56, E56, A56, st56⟩ := newP X0 hx hZ (hw _ (List.mem_of_getElem? (i := 0) rfl)) e0 (g := (mkF m 51 #[.val (.int p0), .val (.int p1), .val (.int p2), .val (.int p3), .val (.int p4), .val (.int p5), .val (.int w.val.toInt32), .val (.int (2 : Int32)), .val (.int (1 : Int32)), .val (.int cc.val.toInt32), .unset, .unset, .unset, .unset, .unset] [(.int (3 : Int32))])) rfl (hb hby at_51) rfl (by decide) (cap := 3) (by decide) (by decide) (by decide) (by decide)
  obtain ⟨b56, g56⟩ : ∃ z, z = h0.size := ⟨_, rfl⟩
  rw [← g56] at A56 st56
  have g_b56 : n0 ≤ b56 := Nat.le_trans Z0 (Nat.le_of_eq g56.symm)
  have V56 := Arf.new (n := 3) A56 (by decide) rfl
  obtain ⟨cl57, Ar57, qk57, S57, B57, H57, G57⟩ := id V56
  have hin57 : ¬ ((0 : Int32) < 0 ∨ cl57.slots.size ≤ ((0 : Int32)).toNatClampNeg) := own_inb S57 ⟨by decide, rfl⟩ (by decide)
  obtain ⟨T57, h57, X57, e57, W57, st57⟩ := stI X56 hx hZ e56 Ar57 (j := (0 : Int32)) hin57 (g := (mkF m 56 #[.val (.int p0), .val (.int p1), .val (.int p2), .val (.int p3), .val (.int p4), .val (.int p5), .val (.int w.val.toInt32), .val (.int (2 : Int32)), .val (.int (1 : Int32)), .val (.int cc.val.toInt32), .unset, .unset, .unset, .unset, .unset] [(.int p0), (.int (0 : Int32)), (.ref b56), (.ref b56)])) rfl rfl (hb hby at_56)
  have V57 := own_set Ar57 qk57 S57 B57 H57 G57 rfl ⟨by decide, rfl⟩ W57
  have N57 := Fr.snoc X57 N0 g_b56
  obtain ⟨cl58, Ar58, qk58, S58, B58, H58, G58⟩ := id V57
  have hin58 : ¬ ((1 : Int32) < 0 ∨ cl58.slots.size ≤ ((1 : Int32)).toNatClampNeg) := own_inb S58 ⟨by decide, rfl⟩ (by decide)
  obtain ⟨T58, h58, X58, e58, W58, st58⟩ := stI X57 hx hZ e57 Ar58 (j := (1 : Int32)) hin58 (g := (mkF m 60 #[.val (.int p0), .val (.int p1), .val (.int p2), .val (.int p3), .val (.int p4), .val (.int p5), .val (.int w.val.toInt32), .val (.int (2 : Int32)), .val (.int (1 : Int32)), .val (.int cc.val.toInt32), .unset, .unset, .unset, .unset, .unset] [(.int p1), (.int (1 : Int32)), (.ref b56), (.ref b56)])) rfl rfl (hb hby at_60)
  have V58 := own_set Ar58 qk58 S58 B58 H58 G58 rfl ⟨by decide, rfl⟩ W58
  have N58 := Fr.snoc X58 N57 g_b56
  obtain ⟨cl59, Ar59, qk59, S59, B59, H59, G59⟩ := id V58
  have hin59 : ¬ ((2 : Int32) < 0 ∨ cl59.slots.size ≤ ((2 : Int32)).toNatClampNeg) := own_inb S59 ⟨by decide, rfl⟩ (by decide)
  obtain ⟨T59, h59, X59, e59, W59, st59⟩ := stI X58 hx hZ e58 Ar59 (j := (2 : Int32)) hin59 (g := (mkF m 64 #[.val (.int p0), .val (.int p1), .val (.int p2), .val (.int p3), .val (.int p4), .val (.int p5), .val (.int w.val.toInt32), .val (.int (2 : Int32)), .val (.int (1 : Int32)), .val (.int cc.val.toInt32), .unset, .unset, .unset, .unset, .unset] [(.int p2), (.int (2 : Int32)), (.ref b56), (.ref b56)])) rfl rfl (hb hby at_64)
  have V59 := own_set Ar59 qk59 S59 B59 H59 G59 rfl ⟨by decide, rfl⟩ W59
  have N59 := Fr.snoc X59 N58 g_b56
  obtain ⟨T60, h60, k60, X60, e60, E60, A60, st60⟩ := newP X59 hx hZ (hw _ (List.mem_of_getElem? (i := 0) rfl)) e59 (g := (mkF m 68 #[.val (.int p0), .val (.int p1), .val (.int p2), .val (.int p3), .val (.int p4), .val (.int p5), .val (.int w.val.toInt32), .val (.int (2 : Int32)), .val (.int (1 : Int32)), .val (.int cc.val.toInt32), .val (.ref b56), .unset, .unset, .unset, .unset] [(.int (3 : Int32))])) rfl (hb hby at_68) rfl (by decide) (cap := 3) (by decide) (by decide) (by decide) (by decide)
  obtain ⟨b60, g60⟩ : ∃ z, z = h59.size := ⟨_, rfl⟩
  rw [← g60] at A60 st60
  have g_b60 : n0 ≤ b60 := Nat.le_trans (Nat.le_trans (Nat.le_trans (Nat.le_trans (Nat.le_trans Z0 E56.1) (Keep.of_wr W57).1) (Keep.of_wr W58).1) (Keep.of_wr W59).1) (Nat.le_of_eq g60.symm)
  have lt_b56_b60 : b56 < b60 := Nat.lt_of_lt_of_eq V59.lt g60.symm
  have V60 := Arf.new (n := 3) A60 (by decide) rfl
  obtain ⟨cl61, Ar61, qk61, S61, B61, H61, G61⟩ := id V60
  have hin61 : ¬ ((0 : Int32) < 0 ∨ cl61.slots.size ≤ ((0 : Int32)).toNatClampNeg) := own_inb S61 ⟨by decide, rfl⟩ (by decide)
  obtain ⟨T61, h61, X61, e61, W61, st61⟩ := stI X60 hx hZ e60 Ar61 (j := (0 : Int32)) hin61 (g := (mkF m 73 #[.val (.int p0), .val (.int p1), .val (.int p2), .val (.int p3), .val (.int p4), .val (.int p5), .val (.int w.val.toInt32), .val (.int (2 : Int32)), .val (.int (1 : Int32)), .val (.int cc.val.toInt32), .val (.ref b56), .unset, .unset, .unset, .unset] [(.int p3), (.int (0 : Int32)), (.ref b60), (.ref b60)])) rfl rfl (hb hby at_73)
  have V61 := own_set Ar61 qk61 S61 B61 H61 G61 rfl ⟨by decide, rfl⟩ W61
  have N61 := Fr.snoc X61 N59 g_b60
  obtain ⟨cl62, Ar62, qk62, S62, B62, H62, G62⟩ := id V61
  have hin62 : ¬ ((1 : Int32) < 0 ∨ cl62.slots.size ≤ ((1 : Int32)).toNatClampNeg) := own_inb S62 ⟨by decide, rfl⟩ (by decide)
  obtain ⟨T62, h62, X62, e62, W62, st62⟩ := stI X61 hx hZ e61 Ar62 (j := (1 : Int32)) hin62 (g := (mkF m 78 #[.val (.int p0), .val (.int p1), .val (.int p2), .val (.int p3), .val (.int p4), .val (.int p5), .val (.int w.val.toInt32), .val (.int (2 : Int32)), .val (.int (1 : Int32)), .val (.int cc.val.toInt32), .val (.ref b56), .unset, .unset, .unset, .unset] [(.int p4), (.int (1 : Int32)), (.ref b60), (.ref b60)])) rfl rfl (hb hby at_78)
  have V62 := own_set Ar62 qk62 S62 B62 H62 G62 rfl ⟨by decide, rfl⟩ W62
  have N62 := Fr.snoc X62 N61 g_b60
  obtain ⟨cl63, Ar63, qk63, S63, B63, H63, G63⟩ := id V62
  have hin63 : ¬ ((2 : Int32) < 0 ∨ cl63.slots.size ≤ ((2 : Int32)).toNatClampNeg) := own_inb S63 ⟨by decide, rfl⟩ (by decide)
  obtain ⟨T63, h63, X63, e63, W63, st63⟩ := stI X62 hx hZ e62 Ar63 (j := (2 : Int32)) hin63 (g := (mkF m 84 #[.val (.int p0), .val (.int p1), .val (.int p2), .val (.int p3), .val (.int p4), .val (.int p5), .val (.int w.val.toInt32), .val (.int (2 : Int32)), .val (.int (1 : Int32)), .val (.int cc.val.toInt32), .val (.ref b56), .unset, .unset, .unset, .unset] [(.int (p0 ^^^ (-1 : Int32))), (.int (2 : Int32)), (.ref b60), (.ref b60)])) rfl rfl (hb hby at_84)
  have V63 := own_set Ar63 qk63 S63 B63 H63 G63 rfl ⟨by decide, rfl⟩ W63
  have N63 := Fr.snoc X63 N62 g_b60
  obtain ⟨T64, h64, k64, X64, e64, E64, A64, st64⟩ := newP X63 hx hZ (hw _ (List.mem_of_getElem? (i := 0) rfl)) e63 (g := (mkF m 88 #[.val (.int p0), .val (.int p1), .val (.int p2), .val (.int p3), .val (.int p4), .val (.int p5), .val (.int w.val.toInt32), .val (.int (2 : Int32)), .val (.int (1 : Int32)), .val (.int cc.val.toInt32), .val (.ref b56), .val (.ref b60), .unset, .unset, .unset] [(.int (3 : Int32))])) rfl (hb hby at_88) rfl (by decide) (cap := 3) (by decide) (by decide) (by decide) (by decide)
  obtain ⟨b64, g64⟩ : ∃ z, z = h63.size := ⟨_, rfl⟩
  rw [← g64] at A64 st64
  have g_b64 : n0 ≤ b64 := Nat.le_trans (Nat.le_trans (Nat.le_trans (Nat.le_trans (Nat.le_trans (Nat.le_trans (Nat.le_trans (Nat.le_trans (Nat.le_trans Z0 E56.1) (Keep.of_wr W57).1) (Keep.of_wr W58).1) (Keep.of_wr W59).1) E60.1) (Keep.of_wr W61).1) (Keep.of_wr W62).1) (Keep.of_wr W63).1) (Nat.le_of_eq g64.symm)
  have lt_b56_b64 : b56 < b64 := Nat.lt_of_lt_of_eq ((((V59.ext E60).other W61 (Nat.ne_of_lt lt_b56_b60)).other W62 (Nat.ne_of_lt lt_b56_b60)).other W63 (Nat.ne_of_lt lt_b56_b60)).lt g64.symm
  have lt_b60_b64 : b60 < b64 := Nat.lt_of_lt_of_eq V63.lt g64.symm
  have V64 := Arf.new (n := 3) A64 (by decide) rfl
  obtain ⟨cl65, Ar65, qk65, S65, B65, H65, G65⟩ := id V64
  have hin65 : ¬ ((0 : Int32) < 0 ∨ cl65.slots.size ≤ ((0 : Int32)).toNatClampNeg) := own_inb S65 ⟨by decide, rfl⟩ (by decide)
  obtain ⟨T65, h65, X65, e65, W65, st65⟩ := stI X64 hx hZ e64 Ar65 (j := (0 : Int32)) hin65 (g := (mkF m 95 #[.val (.int p0), .val (.int p1), .val (.int p2), .val (.int p3), .val (.int p4), .val (.int p5), .val (.int w.val.toInt32), .val (.int (2 : Int32)), .val (.int (1 : Int32)), .val (.int cc.val.toInt32), .val (.ref b56), .val (.ref b60), .unset, .unset, .unset] [(.int (p1 ^^^ (-1 : Int32))), (.int (0 : Int32)), (.ref b64), (.ref b64)])) rfl rfl (hb hby at_95)
  have V65 := own_set Ar65 qk65 S65 B65 H65 G65 rfl ⟨by decide, rfl⟩ W65
  have N65 := Fr.snoc X65 N63 g_b64
  obtain ⟨cl66, Ar66, qk66, S66, B66, H66, G66⟩ := id V65
  have hin66 : ¬ ((1 : Int32) < 0 ∨ cl66.slots.size ≤ ((1 : Int32)).toNatClampNeg) := own_inb S66 ⟨by decide, rfl⟩ (by decide)
  obtain ⟨T66, h66, X66, e66, W66, st66⟩ := stI X65 hx hZ e65 Ar66 (j := (1 : Int32)) hin66 (g := (mkF m 101 #[.val (.int p0), .val (.int p1), .val (.int p2), .val (.int p3), .val (.int p4), .val (.int p5), .val (.int w.val.toInt32), .val (.int (2 : Int32)), .val (.int (1 : Int32)), .val (.int cc.val.toInt32), .val (.ref b56), .val (.ref b60), .unset, .unset, .unset] [(.int (p2 ^^^ (-1 : Int32))), (.int (1 : Int32)), (.ref b64), (.ref b64)])) rfl rfl (hb hby at_101)
  have V66 := own_set Ar66 qk66 S66 B66 H66 G66 rfl ⟨by decide, rfl⟩ W66
  have N66 := Fr.snoc X66 N65 g_b64
  obtain ⟨cl67, Ar67, qk67, S67, B67, H67, G67⟩ := id V66
  have hin67 : ¬ ((2 : Int32) < 0 ∨ cl67.slots.size ≤ ((2 : Int32)).toNatClampNeg) := own_inb S67 ⟨by decide, rfl⟩ (by decide)
  obtain ⟨T67, h67, X67, e67, W67, st67⟩ := stI X66 hx hZ e66 Ar67 (j := (2 : Int32)) hin67 (g := (mkF m 107 #[.val (.int p0), .val (.int p1), .val (.int p2), .val (.int p3), .val (.int p4), .val (.int p5), .val (.int w.val.toInt32), .val (.int (2 : Int32)), .val (.int (1 : Int32)), .val (.int cc.val.toInt32), .val (.ref b56), .val (.ref b60), .unset, .unset, .unset] [(.int (p3 ^^^ (-1 : Int32))), (.int (2 : Int32)), (.ref b64), (.ref b64)])) rfl rfl (hb hby at_107)
  have V67 := own_set Ar67 qk67 S67 B67 H67 G67 rfl ⟨by decide, rfl⟩ W67
  have N67 := Fr.snoc X67 N66 g_b64
  obtain ⟨T68, h68, X68, e68, E68, A68, D68, -, st68⟩ := newO X67 hx hZ hown (hw _ (List.mem_of_getElem? (i := 1) rfl)) (hw _ (List.mem_of_getElem? (i := 2) rfl)) (hw _ (List.mem_of_getElem? (i := 3) rfl)) e67 (g := (mkF m 110 #[.val (.int p0), .val (.int p1), .val (.int p2), .val (.int p3), .val (.int p4), .val (.int p5), .val (.int w.val.toInt32), .val (.int (2 : Int32)), .val (.int (1 : Int32)), .val (.int cc.val.toInt32), .val (.ref b56), .val (.ref b60), .val (.ref b64), .unset, .unset] [])) rfl (hb hby at_110) (by decide) (by decide)
  obtain ⟨b68, g68⟩ : ∃ z, z = h67.size := ⟨_, rfl⟩
  rw [← g68] at A68 D68 st68
  have g_b68 : n0 ≤ b68 := Nat.le_trans (Nat.le_trans (Nat.le_trans (Nat.le_trans (Nat.le_trans (Nat.le_trans (Nat.le_trans (Nat.le_trans (Nat.le_trans (Nat.le_trans (Nat.le_trans (Nat.le_trans (Nat.le_trans Z0 E56.1) (Keep.of_wr W57).1) (Keep.of_wr W58).1) (Keep.of_wr W59).1) E60.1) (Keep.of_wr W61).1) (Keep.of_wr W62).1) (Keep.of_wr W63).1) E64.1) (Keep.of_wr W65).1) (Keep.of_wr W66).1) (Keep.of_wr W67).1) (Nat.le_of_eq g68.symm)
  have lt_b56_b68 : b56 < b68 := Nat.lt_of_lt_of_eq ((((((((V59.ext E60).other W61 (Nat.ne_of_lt lt_b56_b60)).other W62 (Nat.ne_of_lt lt_b56_b60)).other W63 (Nat.ne_of_lt lt_b56_b60)).ext E64).other W65 (Nat.ne_of_lt lt_b56_b64)).other W66 (Nat.ne_of_lt lt_b56_b64)).other W67 (Nat.ne_of_lt lt_b56_b64)).lt g68.symm
  have lt_b60_b68 : b60 < b68 := Nat.lt_of_lt_of_eq ((((V63.ext E64).other W65 (Nat.ne_of_lt lt_b60_b64)).other W66 (Nat.ne_of_lt lt_b60_b64)).other W67 (Nat.ne_of_lt lt_b60_b64)).lt g68.symm
  have lt_b64_b68 : b64 < b68 := Nat.lt_of_lt_of_eq V67.lt g68.symm
  have F68_width : Fld Z h68 b68 "com/example/factwell/factwell/pql/Rows" "width" "I" (.int (0 : Int32)) := D68 (Or.inr (hw _ (List.mem_of_getElem? (i := 14) rfl))) (ty := .int) (by decide)
  have F68_mayRepeat : Fld Z h68 b68 "com/example/factwell/factwell/pql/Rows" "mayRepeat" "Z" (.int (0 : Int32)) := D68 (Or.inr (hw _ (List.mem_of_getElem? (i := 16) rfl))) (ty := .boolean) (by decide)
  have F68_cells : Fld Z h68 b68 "com/example/factwell/factwell/pql/Rows" "cells" "[I" .null := D68 (Or.inl (hw _ (List.mem_of_getElem? (i := 18) rfl))) (ty := (.array .int)) (by decide)
  have F68_count : Fld Z h68 b68 "com/example/factwell/factwell/pql/Rows" "count" "I" (.int (0 : Int32)) := D68 (Or.inl (hw _ (List.mem_of_getElem? (i := 25) rfl))) (ty := .int) (by decide)
  obtain ⟨_, _, ⟨T69, L69, k69, n69⟩, -, X69, ⟨Lc69, hQ69, l69, y69, z69⟩, st69⟩ := X68.specialBack hx (y := (⟨"com/example/factwell/factwell/pql/Rows", "<init>", "(I)V"⟩ : MethodName)) rfl hown (mvT hZ (hw _ (List.mem_of_getElem? (i := 4) rfl))) (mvT hZ (hw _ (List.mem_of_getElem? (i := 5) rfl))) (mvT hZ (hw _ (List.mem_of_getElem? (i := 6) rfl))) (by decide) (backOf (W := 1) (own_i1 l Z a0 hw [] b68 w.val.toInt32 (8 * w.val) h68 n0 (Nat.le_trans (Nat.le_trans (Nat.le_trans (Nat.le_trans (Nat.le_trans (Nat.le_trans (Nat.le_trans (Nat.le_trans (Nat.le_trans (Nat.le_trans (Nat.le_trans (Nat.le_trans (Nat.le_trans Z0 E56.1) (Keep.of_wr W57).1) (Keep.of_wr W58).1) (Keep.of_wr W59).1) E60.1) (Keep.of_wr W61).1) (Keep.of_wr W62).1) (Keep.of_wr W63).1) E64.1) (Keep.of_wr W65).1) (Keep.of_wr W66).1) (Keep.of_wr W67).1) E68.1) (own_neg w) (own_cap w) (own_z w) A68 F68_width F68_mayRepeat F68_cells F68_count g_b68) hZ (hw _ (List.mem_of_getElem? (i := 6) rfl)) (hw _ (List.mem_of_getElem? (i := 3) rfl)) (by decide) (by decide)) (g := (mkF m 116 #[.val (.int p0), .val (.int p1), .val (.int p2), .val (.int p3), .val (.int p4), .val (.int p5), .val (.int w.val.toInt32), .val (.int (2 : Int32)), .val (.int (1 : Int32)), .val (.int cc.val.toInt32), .val (.ref b56), .val (.ref b60), .val (.ref b64), .unset, .unset] [(.int w.val.toInt32), (.ref b68), (.ref b68)])) rfl (by rw [hml]; rfl) (Steps.refl _) (a := b68) (argsL := [(.int w.val.toInt32)]) (rest := [(.ref b68)]) (lenOf pd_1 rfl) rfl (by show 2 * 0 + _ ≤ _; exact Nat.le_of_eq rfl) (hb hby at_116) (fun _ _ => ⟨rfl, e68, (by decide : 4 + 1 ≤ _), (by decide : 13 + 24 ≤ _)⟩)
  dsimp only [Pt.U, Pt.locs, Pt.cells, Pt.slots] at X69 l69 y69 z69 st69 hQ69
  subst l69 y69 z69
  obtain ⟨rfl, N69q, ac, kc, ⟨g_ac, l1, gh⟩, K69, E_, F_w, F_c, F_n, V_c⟩ := hQ69
  have N69 := Fr.app N67 N69q
  have lt_b68_ac : ∀ x, x < h68.size → x < ac := fun x q => Nat.lt_of_lt_of_le q gh
  obtain ⟨cq70, kq70, q70a, q70b, q70c⟩ := isOf hZ rfl E_
  obtain ⟨_, _, ⟨T70, L70, k70, n70⟩, -, X70, ⟨Lc70, hQ70, l70, y70, z70⟩, st70⟩ := X69.virtualBack hx (y := (⟨"com/example/factwell/factwell/pql/Rows", "add", "([I)V"⟩ : MethodName)) (z := (⟨"com/example/factwell/factwell/pql/Rows", "add", "([I)V"⟩ : MethodName)) hown (mvT hZ (hw _ (List.mem_of_getElem? (i := 19) rfl))) (mvT hZ (hw _ (List.mem_of_getElem? (i := 20) rfl))) (notFace_of_selects (args := #[]) (mvT hZ (hw _ (List.mem_of_getElem? (i := 22) rfl)))) (mvT hZ (hw _ (List.mem_of_getElem? (i := 22) rfl))) (mvT hZ (hw _ (List.mem_of_getElem? (i := 21) rfl))) (by decide) (backOf (W := 0) (own_add l Z a0 hw [] b68 b56 0 w ac kc k56 (fun _ => Value.int 0) (upd (upd (upd (fun _ => (.int 0)) 0 (.int p0)) 1 (.int p1)) 2 (.int p2)) T69.heap n0 (Nat.le_trans (Nat.le_trans (Nat.le_trans (Nat.le_trans (Nat.le_trans (Nat.le_trans (Nat.le_trans (Nat.le_trans (Nat.le_trans (Nat.le_trans (Nat.le_trans (Nat.le_trans (Nat.le_trans (Nat.le_trans Z0 E56.1) (Keep.of_wr W57).1) (Keep.of_wr W58).1) (Keep.of_wr W59).1) E60.1) (Keep.of_wr W61).1) (Keep.of_wr W62).1) (Keep.of_wr W63).1) E64.1) (Keep.of_wr W65).1) (Keep.of_wr W66).1) (Keep.of_wr W67).1) E68.1) K69.1) g_b68 g_ac l1 (Nat.ne_of_lt (lt_b68_ac _ (((((((((V59.ext E60).other W61 (Nat.ne_of_lt lt_b56_b60)).other W62 (Nat.ne_of_lt lt_b56_b60)).other W63 (Nat.ne_of_lt lt_b56_b60)).ext E64).other W65 (Nat.ne_of_lt lt_b56_b64)).other W66 (Nat.ne_of_lt lt_b56_b64)).other W67 (Nat.ne_of_lt lt_b56_b64)).ext E68).lt)) (Nat.ne_of_lt lt_b56_b68) E_ F_w F_c F_n V_c ((((((((((V59.ext E60).other W61 (Nat.ne_of_lt lt_b56_b60)).other W62 (Nat.ne_of_lt lt_b56_b60)).other W63 (Nat.ne_of_lt lt_b56_b60)).ext E64).other W65 (Nat.ne_of_lt lt_b56_b64)).other W66 (Nat.ne_of_lt lt_b56_b64)).other W67 (Nat.ne_of_lt lt_b56_b64)).ext E68).keep K69 (ninS (Nat.ne_of_lt lt_b56_b68) nin0))) hZ (hw _ (List.mem_of_getElem? (i := 23) rfl)) (hw _ (List.mem_of_getElem? (i := 3) rfl)) (by decide) (by decide)) q70a q70c (g := (mkF m 125 #[.val (.int p0), .val (.int p1), .val (.int p2), .val (.int p3), .val (.int p4), .val (.int p5), .val (.int w.val.toInt32), .val (.int (2 : Int32)), .val (.int (1 : Int32)), .val (.int cc.val.toInt32), .val (.ref b56), .val (.ref b60), .val (.ref b64), .val (.ref b68), .unset] [(.ref b56), (.ref b68)])) rfl (by rw [hml]; rfl) (Steps.refl _) (argsL := [(.ref b56)]) (rest := []) (lenOf pd_2 rfl) rfl (by show 2 * 0 + _ ≤ _; exact Nat.le_of_eq rfl) (hb hby at_125) (fun _ _ => ⟨rfl, rfl, (by decide : 5 + 0 ≤ _), (by decide : 37 + 0 ≤ _)⟩)
  dsimp only [Pt.U, Pt.locs, Pt.cells, Pt.slots] at X70 l70 y70 z70 st70 hQ70
  subst l70 y70 z70
  obtain ⟨rfl, N70q, K70, E_0, F_w0, F_c0, F_n0, V_c0⟩ := hQ70
  have N70 := Fr.app N69 N70q
  obtain ⟨cq71, kq71, q71a, q71b, q71c⟩ := isOf hZ rfl E_0
  obtain ⟨_, _, ⟨T71, L71, k71, n71⟩, -, X71, ⟨Lc71, hQ71, l71, y71, z71⟩, st71⟩ := X70.virtualBack hx (y := (⟨"com/example/factwell/factwell/pql/Rows", "add", "([I)V"⟩ : MethodName)) (z := (⟨"com/example/factwell/factwell/pql/Rows", "add", "([I)V"⟩ : MethodName)) hown (mvT hZ (hw _ (List.mem_of_getElem? (i := 19) rfl))) (mvT hZ (hw _ (List.mem_of_getElem? (i := 20) rfl))) (notFace_of_selects (args := #[]) (mvT hZ (hw _ (List.mem_of_getElem? (i := 22) rfl)))) (mvT hZ (hw _ (List.mem_of_getElem? (i := 22) rfl))) (mvT hZ (hw _ (List.mem_of_getElem? (i := 21) rfl))) (by decide) (backOf (W := 0) (own_add l Z a0 hw [] b68 b60 1 w ac kc k60 (fun j => if (0 * w.val) ≤ j ∧ j < (0 * w.val) + w.val then (upd (upd (upd (fun _ => (.int 0)) 0 (.int p0)) 1 (.int p1)) 2 (.int p2)) (0 + (j - (0 * w.val))) else (fun _ => Value.int 0) j) (upd (upd (upd (fun _ => (.int 0)) 0 (.int p3)) 1 (.int p4)) 2 (.int (p0 ^^^ (-1 : Int32)))) T70.heap n0 (Nat.le_trans (Nat.le_trans (Nat.le_trans (Nat.le_trans (Nat.le_trans (Nat.le_trans (Nat.le_trans (Nat.le_trans (Nat.le_trans (Nat.le_trans (Nat.le_trans (Nat.le_trans (Nat.le_trans (Nat.le_trans (Nat.le_trans Z0 E56.1) (Keep.of_wr W57).1) (Keep.of_wr W58).1) (Keep.of_wr W59).1) E60.1) (Keep.of_wr W61).1) (Keep.of_wr W62).1) (Keep.of_wr W63).1) E64.1) (Keep.of_wr W65).1) (Keep.of_wr W66).1) (Keep.of_wr W67).1) E68.1) K69.1) K70.1) g_b68 g_ac l1 (Nat.ne_of_lt (lt_b68_ac _ (((((V63.ext E64).other W65 (Nat.ne_of_lt lt_b60_b64)).other W66 (Nat.ne_of_lt lt_b60_b64)).other W67 (Nat.ne_of_lt lt_b60_b64)).ext E68).lt)) (Nat.ne_of_lt lt_b60_b68) E_0 F_w0 F_c0 F_n0 V_c0 (((((((V63.ext E64).other W65 (Nat.ne_of_lt lt_b60_b64)).other W66 (Nat.ne_of_lt lt_b60_b64)).other W67 (Nat.ne_of_lt lt_b60_b64)).ext E68).keep K69 (ninS (Nat.ne_of_lt lt_b60_b68) nin0)).keep K70 (ninS (Nat.ne_of_lt lt_b60_b68) (ninS (Nat.ne_of_lt (lt_b68_ac _ (((((V63.ext E64).other W65 (Nat.ne_of_lt lt_b60_b64)).other W66 (Nat.ne_of_lt lt_b60_b64)).other W67 (Nat.ne_of_lt lt_b60_b64)).ext E68).lt)) nin0)))) hZ (hw _ (List.mem_of_getElem? (i := 23) rfl)) (hw _ (List.mem_of_getElem? (i := 3) rfl)) (by decide) (by decide)) q71a q71c (g := (mkF m 138 #[.val (.int p0), .val (.int p1), .val (.int p2), .val (.int p3), .val (.int p4), .val (.int p5), .val (.int w.val.toInt32), .val (.int (2 : Int32)), .val (.int (1 : Int32)), .val (.int cc.val.toInt32), .val (.ref b56), .val (.ref b60), .val (.ref b64), .val (.ref b68), .unset] [(.ref b60), (.ref b68)])) rfl (by rw [hml]; rfl) (Steps.refl _) (argsL := [(.ref b60)]) (rest := []) (lenOf pd_2 rfl) rfl (by show 2 * 0 + _ ≤ _; exact Nat.le_of_eq rfl) (hb hby at_138) (fun _ _ => ⟨rfl, rfl, (by decide : 5 + 0 ≤ _), (by decide : 37 + 0 ≤ _)⟩)
  dsimp only [Pt.U, Pt.locs, Pt.cells, Pt.slots] at X71 l71 y71 z71 st71 hQ71
  subst l71 y71 z71
  obtain ⟨rfl, N71q, K71, E_1, F_w1, F_c1, F_n1, V_c1⟩ := hQ71
  have N71 := Fr.app N70 N71q
  obtain ⟨cl72, Ar72, qk72, S72, B72, H72, G72⟩ := id ((((((((V63.ext E64).other W65 (Nat.ne_of_lt lt_b60_b64)).other W66 (Nat.ne_of_lt lt_b60_b64)).other W67 (Nat.ne_of_lt lt_b60_b64)).ext E68).keep K69 (ninS (Nat.ne_of_lt lt_b60_b68) nin0)).keep K70 (ninS (Nat.ne_of_lt lt_b60_b68) (ninS (Nat.ne_of_lt (lt_b68_ac _ (((((V63.ext E64).other W65 (Nat.ne_of_lt lt_b60_b64)).other W66 (Nat.ne_of_lt lt_b60_b64)).other W67 (Nat.ne_of_lt lt_b60_b64)).ext E68).lt)) nin0))).keep K71 (ninS (Nat.ne_of_lt lt_b60_b68) (ninS (Nat.ne_of_lt (lt_b68_ac _ (((((V63.ext E64).other W65 (Nat.ne_of_lt lt_b60_b64)).other W66 (Nat.ne_of_lt lt_b60_b64)).other W67 (Nat.ne_of_lt lt_b60_b64)).ext E68).lt)) nin0)))
  have hin72 : ¬ (cc.val.toInt32 < 0 ∨ cl72.slots.size ≤ (cc.val.toInt32).toNatClampNeg) := own_inb S72 (own_cix cc) cc.isLt
  have hat72 : cl72.slots[(cc.val.toInt32).toNatClampNeg]? = some (.int (own_x (upd (upd (upd (fun _ => (.int 0)) 0 (.int p3)) 1 (.int p4)) 2 (.int (p0 ^^^ (-1 : Int32)))) cc.val)) := own_hat H72 (own_cix cc) cc.isLt (own_three rfl rfl rfl cc)
  have hv_ : (fun j => if (1 * w.val) ≤ j ∧ j < (1 * w.val) + w.val then (upd (upd (upd (fun _ => (.int 0)) 0 (.int p3)) 1 (.int p4)) 2 (.int (p0 ^^^ (-1 : Int32)))) (0 + (j - (1 * w.val))) else (fun j => if (0 * w.val) ≤ j ∧ j < (0 * w.val) + w.val then (upd (upd (upd (fun _ => (.int 0)) 0 (.int p0)) 1 (.int p1)) 2 (.int p2)) (0 + (j - (0 * w.val))) else (fun _ => Value.int 0) j) j) (1 * w.val + cc.val) = .int (own_x (upd (upd (upd (fun _ => (.int 0)) 0 (.int p3)) 1 (.int p4)) 2 (.int (p0 ^^^ (-1 : Int32)))) cc.val) := by
    rw [← own_three (x := p3) (y := p4) (z := (p0 ^^^ (-1 : Int32))) (f := (upd (upd (upd (fun _ => (.int 0)) 0 (.int p3)) 1 (.int p4)) 2 (.int (p0 ^^^ (-1 : Int32))))) rfl rfl rfl cc]
    show (if (1 * w.val) ≤ (1 * w.val + cc.val) ∧ (1 * w.val + cc.val) < (1 * w.val) + w.val then (upd (upd (upd (fun _ => (.int 0)) 0 (.int p3)) 1 (.int p4)) 2 (.int (p0 ^^^ (-1 : Int32)))) (0 + ((1 * w.val + cc.val) - (1 * w.val))) else (if (0 * w.val) ≤ (1 * w.val + cc.val) ∧ (1 * w.val + cc.val) < (0 * w.val) + w.val then (upd (upd (upd (fun _ => (.int 0)) 0 (.int p0)) 1 (.int p1)) 2 (.int p2)) (0 + ((1 * w.val + cc.val) - (0 * w.val))) else Value.int 0)) = _
    rw [if_pos (by omega)]
    congr 1; omega
  obtain ⟨cq73, kq73, q73a, q73b, q73c⟩ := isOf hZ rfl E_1
  obtain ⟨_, _, ⟨T73, L73, k73, n73⟩, -, X73, ⟨Lc73, hQ73, l73, y73, z73⟩, st73⟩ := X71.virtualBack hx (y := (⟨"com/example/factwell/factwell/pql/Rows", "get", "(II)I"⟩ : MethodName)) (z := (⟨"com/example/factwell/factwell/pql/Rows", "get", "(II)I"⟩ : MethodName)) hown (mvT hZ (hw _ (List.mem_of_getElem? (i := 30) rfl))) (mvT hZ (hw _ (List.mem_of_getElem? (i := 31) rfl))) (notFace_of_selects (args := #[]) (mvT hZ (hw _ (List.mem_of_getElem? (i := 33) rfl)))) (mvT hZ (hw _ (List.mem_of_getElem? (i := 33) rfl))) (mvT hZ (hw _ (List.mem_of_getElem? (i := 32) rfl))) (by decide) (backOf (W := 0) (own_get l Z a0 hw [] b68 (1 : Int32) cc.val.toInt32 (own_x (upd (upd (upd (fun _ => (.int 0)) 0 (.int p3)) 1 (.int p4)) 2 (.int (p0 ^^^ (-1 : Int32)))) cc.val) (1 * w.val + cc.val) w ac kc (fun j => if (1 * w.val) ≤ j ∧ j < (1 * w.val) + w.val then (upd (upd (upd (fun _ => (.int 0)) 0 (.int p3)) 1 (.int p4)) 2 (.int (p0 ^^^ (-1 : Int32)))) (0 + (j - (1 * w.val))) else (fun j => if (0 * w.val) ≤ j ∧ j < (0 * w.val) + w.val then (upd (upd (upd (fun _ => (.int 0)) 0 (.int p0)) 1 (.int p1)) 2 (.int p2)) (0 + (j - (0 * w.val))) else (fun _ => Value.int 0) j) j) T71.heap n0 (Nat.le_trans (Nat.le_trans (Nat.le_trans (Nat.le_trans (Nat.le_trans (Nat.le_trans (Nat.le_trans (Nat.le_trans (Nat.le_trans (Nat.le_trans (Nat.le_trans (Nat.le_trans (Nat.le_trans (Nat.le_trans (Nat.le_trans (Nat.le_trans Z0 E56.1) (Keep.of_wr W57).1) (Keep.of_wr W58).1) (Keep.of_wr W59).1) E60.1) (Keep.of_wr W61).1) (Keep.of_wr W62).1) (Keep.of_wr W63).1) E64.1) (Keep.of_wr W65).1) (Keep.of_wr W66).1) (Keep.of_wr W67).1) E68.1) K69.1) K70.1) K71.1) (own_gix 1 w cc) (own_lt 1 w cc hcw (by decide)) hv_ F_w1 F_c1 V_c1) hZ (hw _ (List.mem_of_getElem? (i := 34) rfl)) (hw _ (List.mem_of_getElem? (i := 3) rfl)) (by decide) (by decide)) q73a q73c (g := (mkF m 198 #[.val (.int p0), .val (.int p1), .val (.int p2), .val (.int p3), .val (.int p4), .val (.int p5), .val (.int w.val.toInt32), .val (.int (2 : Int32)), .val (.int (1 : Int32)), .val (.int cc.val.toInt32), .val (.ref b56), .val (.ref b60), .val (.ref b64), .val (.ref b68), .val (.int (own_x (upd (upd (upd (fun _ => (.int 0)) 0 (.int p3)) 1 (.int p4)) 2 (.int (p0 ^^^ (-1 : Int32)))) cc.val))] [(.int cc.val.toInt32), (.int (1 : Int32)), (.ref b68)])) rfl (by rw [hml]; rfl) (Steps.refl _) (argsL := [(.int (1 : Int32)), (.int cc.val.toInt32)]) (rest := []) (lenOf pd_3 rfl) rfl (by show 2 * 0 + _ ≤ _; exact Nat.le_of_eq rfl) (hb hby at_198) (fun _ _ => ⟨rfl, rfl, (by decide : 5 + 0 ≤ _), (by decide : 37 + 0 ≤ _)⟩)
  dsimp only [Pt.U, Pt.locs, Pt.cells, Pt.slots] at X73 l73 y73 z73 st73 hQ73
  subst l73 y73 z73
  obtain ⟨rfl, N73q, eh73⟩ := hQ73
  have N73 := Fr.app N71 N73q
  obtain ⟨fs, hr, hrun, hended, hW, hsame⟩ := X73.leave (v := some (.int (1 : Int32))) (fun h => by rw [Bd.returns] at h; cases h)
  refine ⟨_, _, pre0 _ ?_, hrun, hended, _, _, rfl, ?_, ⟨_, rfl⟩, hW, hsame.mono (by decide) (by decide)⟩
  · show Steps p.tables e below (s₁.setTop (mkF m 0 #[.val (.int p0), .val (.int p1), .val (.int p2), .val (.int p3), .val (.int p4), .val (.int p5), .unset, .unset, .unset, .unset, .unset, .unset, .unset, .unset, .unset] [])) _
    refine XS.iconst X0.here hx rfl (hb hby at_0) ?_
    show Steps p.tables e below (s₁.setTop (mkF m 1 #[.val (.int p0), .val (.int p1), .val (.int p2), .val (.int p3), .val (.int p4), .val (.int p5), .unset, .unset, .unset, .unset, .unset, .unset, .unset, .unset, .unset] [(.int (1 : Int32))])) _
    refine XS.iload X0.here hx rfl (hb hby at_1) rfl ?_
    show Steps p.tables e below (s₁.setTop (mkF m 3 #[.val (.int p0), .val (.int p1), .val (.int p2), .val (.int p3), .val (.int p4), .val (.int p5), .unset, .unset, .unset, .unset, .unset, .unset, .unset, .unset, .unset] [(.int p5), (.int (1 : Int32))])) _
    refine XS.bipush X0.here hx rfl (hb hby at_3) ?_
    show Steps p.tables e below (s₁.setTop (mkF m 5 #[.val (.int p0), .val (.int p1), .val (.int p2), .val (.int p3), .val (.int p4), .val (.int p5), .unset, .unset, .unset, .unset, .unset, .unset, .unset, .unset, .unset] [(.int (15 : Int32)), (.int p5), (.int (1 : Int32))])) _
    refine XS.iand X0.here hx rfl (hb hby at_5) rfl ?_
    show Steps p.tables e below (s₁.setTop (mkF m 6 #[.val (.int p0), .val (.int p1), .val (.int p2), .val (.int p3), .val (.int p4), .val (.int p5), .unset, .unset, .unset, .unset, .unset, .unset, .unset, .unset, .unset] [(.int (p5 &&& (15 : Int32))), (.int (1 : Int32))])) _
    refine XS.iconst X0.here hx rfl (hb hby at_6) ?_
    show Steps p.tables e below (s₁.setTop (mkF m 7 #[.val (.int p0), .val (.int p1), .val (.int p2), .val (.int p3), .val (.int p4), .val (.int p5), .unset, .unset, .unset, .unset, .unset, .unset, .unset, .unset, .unset] [(.int (3 : Int32)), (.int (p5 &&& (15 : Int32))), (.int (1 : Int32))])) _
    refine Jvm.RoadKit.iremM (g := (mkF m 7 #[.val (.int p0), .val (.int p1), .val (.int p2), .val (.int p3), .val (.int p4), .val (.int p5), .unset, .unset, .unset, .unset, .unset, .unset, .unset, .unset, .unset] [(.int (3 : Int32)), (.int (p5 &&& (15 : Int32))), (.int (1 : Int32))])) X0 hx rfl (hb hby at_7) rfl (by decide) ?_
    show Steps p.tables e below (s₁.setTop (mkF m 8 #[.val (.int p0), .val (.int p1), .val (.int p2), .val (.int p3), .val (.int p4), .val (.int p5), .unset, .unset, .unset, .unset, .unset, .unset, .unset, .unset, .unset] [(.int ((p5 &&& (15 : Int32)) % (3 : Int32))), (.int (1 : Int32))])) _
    refine XS.iadd X0.here hx rfl (hb hby at_8) rfl ?_
    show Steps p.tables e below (s₁.setTop (mkF m 9 #[.val (.int p0), .val (.int p1), .val (.int p2), .val (.int p3), .val (.int p4), .val (.int p5), .unset, .unset, .unset, .unset, .unset, .unset, .unset, .unset, .unset] [(.int ((1 : Int32) + ((p5 &&& (15 : Int32)) % (3 : Int32))))])) _
    rw [hW_]
    show Steps p.tables e below (s₁.setTop (mkF m 9 #[.val (.int p0), .val (.int p1), .val (.int p2), .val (.int p3), .val (.int p4), .val (.int p5), .unset, .unset, .unset, .unset, .unset, .unset, .unset, .unset, .unset] [(.int w.val.toInt32)])) _
    refine XS.istore X0.here hx rfl (hb hby at_9) rfl (l' := #[.val (.int p0), .val (.int p1), .val (.int p2), .val (.int p3), .val (.int p4), .val (.int p5), .val (.int w.val.toInt32), .unset, .unset, .unset, .unset, .unset, .unset, .unset, .unset]) rfl ?_
    show Steps p.tables e below (s₁.setTop (mkF m 11 #[.val (.int p0), .val (.int p1), .val (.int p2), .val (.int p3), .val (.int p4), .val (.int p5), .val (.int w.val.toInt32), .unset, .unset, .unset, .unset, .unset, .unset, .unset, .unset] [])) _
    refine XS.iconst X0.here hx rfl (hb hby at_11) ?_
    show Steps p.tables e below (s₁.setTop (mkF m 12 #[.val (.int p0), .val (.int p1), .val (.int p2), .val (.int p3), .val (.int p4), .val (.int p5), .val (.int w.val.toInt32), .unset, .unset, .unset, .unset, .unset, .unset, .unset, .unset] [(.int (1 : Int32))])) _
    refine XS.iload X0.here hx rfl (hb hby at_12) rfl ?_
    show Steps p.tables e below (s₁.setTop (mkF m 14 #[.val (.int p0), .val (.int p1), .val (.int p2), .val (.int p3), .val (.int p4), .val (.int p5), .val (.int w.val.toInt32), .unset, .unset, .unset, .unset, .unset, .unset, .unset, .unset] [(.int p5), (.int (1 : Int32))])) _
    refine XS.iconst X0.here hx rfl (hb hby at_14) ?_
    show Steps p.tables e below (s₁.setTop (mkF m 15 #[.val (.int p0), .val (.int p1), .val (.int p2), .val (.int p3), .val (.int p4), .val (.int p5), .val (.int w.val.toInt32), .unset, .unset, .unset, .unset, .unset, .unset, .unset, .unset] [(.int (4 : Int32)), (.int p5), (.int (1 : Int32))])) _
    refine XT.iushr X0.here hx rfl (hb hby at_15) rfl ?_
    show Steps p.tables e below (s₁.setTop (mkF m 16 #[.val (.int p0), .val (.int p1), .val (.int p2), .val (.int p3), .val (.int p4), .val (.int p5), .val (.int w.val.toInt32), .unset, .unset, .unset, .unset, .unset, .unset, .unset, .unset] [(.int (XT.ushr p5 (4 : Int32))), (.int (1 : Int32))])) _
    refine XS.bipush X0.here hx rfl (hb hby at_16) ?_
    show Steps p.tables e below (s₁.setTop (mkF m 18 #[.val (.int p0), .val (.int p1), .val (.int p2), .val (.int p3), .val (.int p4), .val (.int p5), .val (.int w.val.toInt32), .unset, .unset, .unset, .unset, .unset, .unset, .unset, .unset] [(.int (15 : Int32)), (.int (XT.ushr p5 (4 : Int32))), (.int (1 : Int32))])) _
    refine XS.iand X0.here hx rfl (hb hby at_18) rfl ?_
    show Steps p.tables e below (s₁.setTop (mkF m 19 #[.val (.int p0), .val (.int p1), .val (.int p2), .val (.int p3), .val (.int p4), .val (.int p5), .val (.int w.val.toInt32), .unset, .unset, .unset, .unset, .unset, .unset, .unset, .unset] [(.int ((XT.ushr p5 (4 : Int32)) &&& (15 : Int32))), (.int (1 : Int32))])) _
    refine XS.iconst X0.here hx rfl (hb hby at_19) ?_
    show Steps p.tables e below (s₁.setTop (mkF m 20 #[.val (.int p0), .val (.int p1), .val (.int p2), .val (.int p3), .val (.int p4), .val (.int p5), .val (.int w.val.toInt32), .unset, .unset, .unset, .unset, .unset, .unset, .unset, .unset] [(.int (3 : Int32)), (.int ((XT.ushr p5 (4 : Int32)) &&& (15 : Int32))), (.int (1 : Int32))])) _
    refine Jvm.RoadKit.iremM (g := (mkF m 20 #[.val (.int p0), .val (.int p1), .val (.int p2), .val (.int p3), .val (.int p4), .val (.int p5), .val (.int w.val.toInt32), .unset, .unset, .unset, .unset, .unset, .unset, .unset, .unset] [(.int (3 : Int32)), (.int ((XT.ushr p5 (4 : Int32)) &&& (15 : Int32))), (.int (1 : Int32))])) X0 hx rfl (hb hby at_20) rfl (by decide) ?_
    show Steps p.tables e below (s₁.setTop (mkF m 21 #[.val (.int p0), .val (.int p1), .val (.int p2), .val (.int p3), .val (.int p4), .val (.int p5), .val (.int w.val.toInt32), .unset, .unset, .unset, .unset, .unset, .unset, .unset, .unset] [(.int (((XT.ushr p5 (4 : Int32)) &&& (15 : Int32)) % (3 : Int32))), (.int (1 : Int32))])) _
    refine XS.iadd X0.here hx rfl (hb hby at_21) rfl ?_
    show Steps p.tables e below (s₁.setTop (mkF m 22 #[.val (.int p0), .val (.int p1), .val (.int p2), .val (.int p3), .val (.int p4), .val (.int p5), .val (.int w.val.toInt32), .unset, .unset, .unset, .unset, .unset, .unset, .unset, .unset] [(.int ((1 : Int32) + (((XT.ushr p5 (4 : Int32)) &&& (15 : Int32)) % (3 : Int32))))])) _
    rw [hN_]
    show Steps p.tables e below (s₁.setTop (mkF m 22 #[.val (.int p0), .val (.int p1), .val (.int p2), .val (.int p3), .val (.int p4), .val (.int p5), .val (.int w.val.toInt32), .unset, .unset, .unset, .unset, .unset, .unset, .unset, .unset] [(.int (2 : Int32))])) _
    refine XS.istore X0.here hx rfl (hb hby at_22) rfl (l' := #[.val (.int p0), .val (.int p1), .val (.int p2), .val (.int p3), .val (.int p4), .val (.int p5), .val (.int w.val.toInt32), .val (.int (2 : Int32)), .unset, .unset, .unset, .unset, .unset, .unset, .unset]) rfl ?_
    show Steps p.tables e below (s₁.setTop (mkF m 24 #[.val (.int p0), .val (.int p1), .val (.int p2), .val (.int p3), .val (.int p4), .val (.int p5), .val (.int w.val.toInt32), .val (.int (2 : Int32)), .unset, .unset, .unset, .unset, .unset, .unset, .unset] [])) _
    refine XS.iload X0.here hx rfl (hb hby at_24) rfl ?_
    show Steps p.tables e below (s₁.setTop (mkF m 26 #[.val (.int p0), .val (.int p1), .val (.int p2), .val (.int p3), .val (.int p4), .val (.int p5), .val (.int w.val.toInt32), .val (.int (2 : Int32)), .unset, .unset, .unset, .unset, .unset, .unset, .unset] [(.int p5)])) _
    refine XS.bipush X0.here hx rfl (hb hby at_26) ?_
    show Steps p.tables e below (s₁.setTop (mkF m 28 #[.val (.int p0), .val (.int p1), .val (.int p2), .val (.int p3), .val (.int p4), .val (.int p5), .val (.int w.val.toInt32), .val (.int (2 : Int32)), .unset, .unset, .unset, .unset, .unset, .unset, .unset] [(.int (8 : Int32)), (.int p5)])) _
    refine XT.iushr X0.here hx rfl (hb hby at_28) rfl ?_
    show Steps p.tables e below (s₁.setTop (mkF m 29 #[.val (.int p0), .val (.int p1), .val (.int p2), .val (.int p3), .val (.int p4), .val (.int p5), .val (.int w.val.toInt32), .val (.int (2 : Int32)), .unset, .unset, .unset, .unset, .unset, .unset, .unset] [(.int (XT.ushr p5 (8 : Int32)))])) _
    refine XS.bipush X0.here hx rfl (hb hby at_29) ?_
    show Steps p.tables e below (s₁.setTop (mkF m 31 #[.val (.int p0), .val (.int p1), .val (.int p2), .val (.int p3), .val (.int p4), .val (.int p5), .val (.int w.val.toInt32), .val (.int (2 : Int32)), .unset, .unset, .unset, .unset, .unset, .unset, .unset] [(.int (15 : Int32)), (.int (XT.ushr p5 (8 : Int32)))])) _
    refine XS.iand X0.here hx rfl (hb hby at_31) rfl ?_
    show Steps p.tables e below (s₁.setTop (mkF m 32 #[.val (.int p0), .val (.int p1), .val (.int p2), .val (.int p3), .val (.int p4), .val (.int p5), .val (.int w.val.toInt32), .val (.int (2 : Int32)), .unset, .unset, .unset, .unset, .unset, .unset, .unset] [(.int ((XT.ushr p5 (8 : Int32)) &&& (15 : Int32)))])) _
    refine XS.iload X0.here hx rfl (hb hby at_32) rfl ?_
    show Steps p.tables e below (s₁.setTop (mkF m 34 #[.val (.int p0), .val (.int p1), .val (.int p2), .val (.int p3), .val (.int p4), .val (.int p5), .val (.int w.val.toInt32), .val (.int (2 : Int32)), .unset, .unset, .unset, .unset, .unset, .unset, .unset] [(.int (2 : Int32)), (.int ((XT.ushr p5 (8 : Int32)) &&& (15 : Int32)))])) _
    refine Jvm.RoadKit.iremM (g := (mkF m 34 #[.val (.int p0), .val (.int p1), .val (.int p2), .val (.int p3), .val (.int p4), .val (.int p5), .val (.int w.val.toInt32), .val (.int (2 : Int32)), .unset, .unset, .unset, .unset, .unset, .unset, .unset] [(.int (2 : Int32)), (.int ((XT.ushr p5 (8 : Int32)) &&& (15 : Int32)))])) X0 hx rfl (hb hby at_34) rfl (by decide) ?_
    show Steps p.tables e below (s₁.setTop (mkF m 35 #[.val (.int p0), .val (.int p1), .val (.int p2), .val (.int p3), .val (.int p4), .val (.int p5), .val (.int w.val.toInt32), .val (.int (2 : Int32)), .unset, .unset, .unset, .unset, .unset, .unset, .unset] [(.int (((XT.ushr p5 (8 : Int32)) &&& (15 : Int32)) % (2 : Int32)))])) _
    rw [hR_]
    show Steps p.tables e below (s₁.setTop (mkF m 35 #[.val (.int p0), .val (.int p1), .val (.int p2), .val (.int p3), .val (.int p4), .val (.int p5), .val (.int w.val.toInt32), .val (.int (2 : Int32)), .unset, .unset, .unset, .unset, .unset, .unset, .unset] [(.int (1 : Int32))])) _
    refine XS.istore X0.here hx rfl (hb hby at_35) rfl (l' := #[.val (.int p0), .val (.int p1), .val (.int p2), .val (.int p3), .val (.int p4), .val (.int p5), .val (.int w.val.toInt32), .val (.int (2 : Int32)), .val (.int (1 : Int32)), .unset, .unset, .unset, .unset, .unset, .unset]) rfl ?_
    show Steps p.tables e below (s₁.setTop (mkF m 37 #[.val (.int p0), .val (.int p1), .val (.int p2), .val (.int p3), .val (.int p4), .val (.int p5), .val (.int w.val.toInt32), .val (.int (2 : Int32)), .val (.int (1 : Int32)), .unset, .unset, .unset, .unset, .unset, .unset] [])) _
    refine XS.iload X0.here hx rfl (hb hby at_37) rfl ?_
    show Steps p.tables e below (s₁.setTop (mkF m 39 #[.val (.int p0), .val (.int p1), .val (.int p2), .val (.int p3), .val (.int p4), .val (.int p5), .val (.int w.val.toInt32), .val (.int (2 : Int32)), .val (.int (1 : Int32)), .unset, .unset, .unset, .unset, .unset, .unset] [(.int p5)])) _
    refine XS.bipush X0.here hx rfl (hb hby at_39) ?_
    show Steps p.tables e below (s₁.setTop (mkF m 41 #[.val (.int p0), .val (.int p1), .val (.int p2), .val (.int p3), .val (.int p4), .val (.int p5), .val (.int w.val.toInt32), .val (.int (2 : Int32)), .val (.int (1 : Int32)), .unset, .unset, .unset, .unset, .unset, .unset] [(.int (12 : Int32)), (.int p5)])) _
    refine XT.iushr X0.here hx rfl (hb hby at_41) rfl ?_
    show Steps p.tables e below (s₁.setTop (mkF m 42 #[.val (.int p0), .val (.int p1), .val (.int p2), .val (.int p3), .val (.int p4), .val (.int p5), .val (.int w.val.toInt32), .val (.int (2 : Int32)), .val (.int (1 : Int32)), .unset, .unset, .unset, .unset, .unset, .unset] [(.int (XT.ushr p5 (12 : Int32)))])) _
    refine XS.bipush X0.here hx rfl (hb hby at_42) ?_
    show Steps p.tables e below (s₁.setTop (mkF m 44 #[.val (.int p0), .val (.int p1), .val (.int p2), .val (.int p3), .val (.int p4), .val (.int p5), .val (.int w.val.toInt32), .val (.int (2 : Int32)), .val (.int (1 : Int32)), .unset, .unset, .unset, .unset, .unset, .unset] [(.int (15 : Int32)), (.int (XT.ushr p5 (12 : Int32)))])) _
    refine XS.iand X0.here hx rfl (hb hby at_44) rfl ?_
    show Steps p.tables e below (s₁.setTop (mkF m 45 #[.val (.int p0), .val (.int p1), .val (.int p2), .val (.int p3), .val (.int p4), .val (.int p5), .val (.int w.val.toInt32), .val (.int (2 : Int32)), .val (.int (1 : Int32)), .unset, .unset, .unset, .unset, .unset, .unset] [(.int ((XT.ushr p5 (12 : Int32)) &&& (15 : Int32)))])) _
    refine XS.iload X0.here hx rfl (hb hby at_45) rfl ?_
    show Steps p.tables e below (s₁.setTop (mkF m 47 #[.val (.int p0), .val (.int p1), .val (.int p2), .val (.int p3), .val (.int p4), .val (.int p5), .val (.int w.val.toInt32), .val (.int (2 : Int32)), .val (.int (1 : Int32)), .unset, .unset, .unset, .unset, .unset, .unset] [(.int w.val.toInt32), (.int ((XT.ushr p5 (12 : Int32)) &&& (15 : Int32)))])) _
    refine Jvm.RoadKit.iremM (g := (mkF m 47 #[.val (.int p0), .val (.int p1), .val (.int p2), .val (.int p3), .val (.int p4), .val (.int p5), .val (.int w.val.toInt32), .val (.int (2 : Int32)), .val (.int (1 : Int32)), .unset, .unset, .unset, .unset, .unset, .unset] [(.int w.val.toInt32), (.int ((XT.ushr p5 (12 : Int32)) &&& (15 : Int32)))])) X0 hx rfl (hb hby at_47) rfl (own_wne w hw1) ?_
    show Steps p.tables e below (s₁.setTop (mkF m 48 #[.val (.int p0), .val (.int p1), .val (.int p2), .val (.int p3), .val (.int p4), .val (.int p5), .val (.int w.val.toInt32), .val (.int (2 : Int32)), .val (.int (1 : Int32)), .unset, .unset, .unset, .unset, .unset, .unset] [(.int (((XT.ushr p5 (12 : Int32)) &&& (15 : Int32)) % w.val.toInt32))])) _
    rw [hC_]
    show Steps p.tables e below (s₁.setTop (mkF m 48 #[.val (.int p0), .val (.int p1), .val (.int p2), .val (.int p3), .val (.int p4), .val (.int p5), .val (.int w.val.toInt32), .val (.int (2 : Int32)), .val (.int (1 : Int32)), .unset, .unset, .unset, .unset, .unset, .unset] [(.int cc.val.toInt32)])) _
    refine XS.istore X0.here hx rfl (hb hby at_48) rfl (l' := #[.val (.int p0), .val (.int p1), .val (.int p2), .val (.int p3), .val (.int p4), .val (.int p5), .val (.int w.val.toInt32), .val (.int (2 : Int32)), .val (.int (1 : Int32)), .val (.int cc.val.toInt32), .unset, .unset, .unset, .unset, .unset]) rfl ?_
    show Steps p.tables e below (s₁.setTop (mkF m 50 #[.val (.int p0), .val (.int p1), .val (.int p2), .val (.int p3), .val (.int p4), .val (.int p5), .val (.int w.val.toInt32), .val (.int (2 : Int32)), .val (.int (1 : Int32)), .val (.int cc.val.toInt32), .unset, .unset, .unset, .unset, .unset] [])) _
    refine XS.iconst X0.here hx rfl (hb hby at_50) ?_
    show Steps p.tables e below (s₁.setTop (mkF m 51 #[.val (.int p0), .val (.int p1), .val (.int p2), .val (.int p3), .val (.int p4), .val (.int p5), .val (.int w.val.toInt32), .val (.int (2 : Int32)), .val (.int (1 : Int32)), .val (.int cc.val.toInt32), .unset, .unset, .unset, .unset, .unset] [(.int (3 : Int32))])) _
    refine st56 _ ?_
    show Steps p.tables e below (T56.setTop (mkF m 53 #[.val (.int p0), .val (.int p1), .val (.int p2), .val (.int p3), .val (.int p4), .val (.int p5), .val (.int w.val.toInt32), .val (.int (2 : Int32)), .val (.int (1 : Int32)), .val (.int cc.val.toInt32), .unset, .unset, .unset, .unset, .unset] [(.ref b56)])) _
    refine XS.dup X56.here hx rfl (hb hby at_53) rfl rfl ?_
    show Steps p.tables e below (T56.setTop (mkF m 54 #[.val (.int p0), .val (.int p1), .val (.int p2), .val (.int p3), .val (.int p4), .val (.int p5), .val (.int w.val.toInt32), .val (.int (2 : Int32)), .val (.int (1 : Int32)), .val (.int cc.val.toInt32), .unset, .unset, .unset, .unset, .unset] [(.ref b56), (.ref b56)])) _
    refine XS.iconst X56.here hx rfl (hb hby at_54) ?_
    show Steps p.tables e below (T56.setTop (mkF m 55 #[.val (.int p0), .val (.int p1), .val (.int p2), .val (.int p3), .val (.int p4), .val (.int p5), .val (.int w.val.toInt32), .val (.int (2 : Int32)), .val (.int (1 : Int32)), .val (.int cc.val.toInt32), .unset, .unset, .unset, .unset, .unset] [(.int (0 : Int32)), (.ref b56), (.ref b56)])) _
    refine XS.iloadN X56.here hx rfl (hb hby at_55) rfl ?_
    show Steps p.tables e below (T56.setTop (mkF m 56 #[.val (.int p0), .val (.int p1), .val (.int p2), .val (.int p3), .val (.int p4), .val (.int p5), .val (.int w.val.toInt32), .val (.int (2 : Int32)), .val (.int (1 : Int32)), .val (.int cc.val.toInt32), .unset, .unset, .unset, .unset, .unset] [(.int p0), (.int (0 : Int32)), (.ref b56), (.ref b56)])) _
    refine st57 _ ?_
    show Steps p.tables e below (T57.setTop (mkF m 57 #[.val (.int p0), .val (.int p1), .val (.int p2), .val (.int p3), .val (.int p4), .val (.int p5), .val (.int w.val.toInt32), .val (.int (2 : Int32)), .val (.int (1 : Int32)), .val (.int cc.val.toInt32), .unset, .unset, .unset, .unset, .unset] [(.ref b56)])) _
    refine XS.dup X57.here hx rfl (hb hby at_57) rfl rfl ?_
    show Steps p.tables e below (T57.setTop (mkF m 58 #[.val (.int p0), .val (.int p1), .val (.int p2), .val (.int p3), .val (.int p4), .val (.int p5), .val (.int w.val.toInt32), .val (.int (2 : Int32)), .val (.int (1 : Int32)), .val (.int cc.val.toInt32), .unset, .unset, .unset, .unset, .unset] [(.ref b56), (.ref b56)])) _
    refine XS.iconst X57.here hx rfl (hb hby at_58) ?_
    show Steps p.tables e below (T57.setTop (mkF m 59 #[.val (.int p0), .val (.int p1), .val (.int p2), .val (.int p3), .val (.int p4), .val (.int p5), .val (.int w.val.toInt32), .val (.int (2 : Int32)), .val (.int (1 : Int32)), .val (.int cc.val.toInt32), .unset, .unset, .unset, .unset, .unset] [(.int (1 : Int32)), (.ref b56), (.ref b56)])) _
    refine XS.iloadN X57.here hx rfl (hb hby at_59) rfl ?_
    show Steps p.tables e below (T57.setTop (mkF m 60 #[.val (.int p0), .val (.int p1), .val (.int p2), .val (.int p3), .val (.int p4), .val (.int p5), .val (.int w.val.toInt32), .val (.int (2 : Int32)), .val (.int (1 : Int32)), .val (.int cc.val.toInt32), .unset, .unset, .unset, .unset, .unset] [(.int p1), (.int (1 : Int32)), (.ref b56), (.ref b56)])) _
    refine st58 _ ?_
    show Steps p.tables e below (T58.setTop (mkF m 61 #[.val (.int p0), .val (.int p1), .val (.int p2), .val (.int p3), .val (.int p4), .val (.int p5), .val (.int w.val.toInt32), .val (.int (2 : Int32)), .val (.int (1 : Int32)), .val (.int cc.val.toInt32), .unset, .unset, .unset, .unset, .unset] [(.ref b56)])) _
    refine XS.dup X58.here hx rfl (hb hby at_61) rfl rfl ?_
    show Steps p.tables e below (T58.setTop (mkF m 62 #[.val (.int p0), .val (.int p1), .val (.int p2), .val (.int p3), .val (.int p4), .val (.int p5), .val (.int w.val.toInt32), .val (.int (2 : Int32)), .val (.int (1 : Int32)), .val (.int cc.val.toInt32), .unset, .unset, .unset, .unset, .unset] [(.ref b56), (.ref b56)])) _
    refine XS.iconst X58.here hx rfl (hb hby at_62) ?_
    show Steps p.tables e below (T58.setTop (mkF m 63 #[.val (.int p0), .val (.int p1), .val (.int p2), .val (.int p3), .val (.int p4), .val (.int p5), .val (.int w.val.toInt32), .val (.int (2 : Int32)), .val (.int (1 : Int32)), .val (.int cc.val.toInt32), .unset, .unset, .unset, .unset, .unset] [(.int (2 : Int32)), (.ref b56), (.ref b56)])) _
    refine XS.iloadN X58.here hx rfl (hb hby at_63) rfl ?_
    show Steps p.tables e below (T58.setTop (mkF m 64 #[.val (.int p0), .val (.int p1), .val (.int p2), .val (.int p3), .val (.int p4), .val (.int p5), .val (.int w.val.toInt32), .val (.int (2 : Int32)), .val (.int (1 : Int32)), .val (.int cc.val.toInt32), .unset, .unset, .unset, .unset, .unset] [(.int p2), (.int (2 : Int32)), (.ref b56), (.ref b56)])) _
    refine st59 _ ?_
    show Steps p.tables e below (T59.setTop (mkF m 65 #[.val (.int p0), .val (.int p1), .val (.int p2), .val (.int p3), .val (.int p4), .val (.int p5), .val (.int w.val.toInt32), .val (.int (2 : Int32)), .val (.int (1 : Int32)), .val (.int cc.val.toInt32), .unset, .unset, .unset, .unset, .unset] [(.ref b56)])) _
    refine XS.astore X59.here hx rfl (hb hby at_65) rfl rfl (l' := #[.val (.int p0), .val (.int p1), .val (.int p2), .val (.int p3), .val (.int p4), .val (.int p5), .val (.int w.val.toInt32), .val (.int (2 : Int32)), .val (.int (1 : Int32)), .val (.int cc.val.toInt32), .val (.ref b56), .unset, .unset, .unset, .unset]) rfl ?_
    show Steps p.tables e below (T59.setTop (mkF m 67 #[.val (.int p0), .val (.int p1), .val (.int p2), .val (.int p3), .val (.int p4), .val (.int p5), .val (.int w.val.toInt32), .val (.int (2 : Int32)), .val (.int (1 : Int32)), .val (.int cc.val.toInt32), .val (.ref b56), .unset, .unset, .unset, .unset] [])) _
    refine XS.iconst X59.here hx rfl (hb hby at_67) ?_
    show Steps p.tables e below (T59.setTop (mkF m 68 #[.val (.int p0), .val (.int p1), .val (.int p2), .val (.int p3), .val (.int p4), .val (.int p5), .val (.int w.val.toInt32), .val (.int (2 : Int32)), .val (.int (1 : Int32)), .val (.int cc.val.toInt32), .val (.ref b56), .unset, .unset, .unset, .unset] [(.int (3 : Int32))])) _
    refine st60 _ ?_
    show Steps p.tables e below (T60.setTop (mkF m 70 #[.val (.int p0), .val (.int p1), .val (.int p2), .val (.int p3), .val (.int p4), .val (.int p5), .val (.int w.val.toInt32), .val (.int (2 : Int32)), .val (.int (1 : Int32)), .val (.int cc.val.toInt32), .val (.ref b56), .unset, .unset, .unset, .unset] [(.ref b60)])) _
    refine XS.dup X60.here hx rfl (hb hby at_70) rfl rfl ?_
    show Steps p.tables e below (T60.setTop (mkF m 71 #[.val (.int p0), .val (.int p1), .val (.int p2), .val (.int p3), .val (.int p4), .val (.int p5), .val (.int w.val.toInt32), .val (.int (2 : Int32)), .val (.int (1 : Int32)), .val (.int cc.val.toInt32), .val (.ref b56), .unset, .unset, .unset, .unset] [(.ref b60), (.ref b60)])) _
    refine XS.iconst X60.here hx rfl (hb hby at_71) ?_
    show Steps p.tables e below (T60.setTop (mkF m 72 #[.val (.int p0), .val (.int p1), .val (.int p2), .val (.int p3), .val (.int p4), .val (.int p5), .val (.int w.val.toInt32), .val (.int (2 : Int32)), .val (.int (1 : Int32)), .val (.int cc.val.toInt32), .val (.ref b56), .unset, .unset, .unset, .unset] [(.int (0 : Int32)), (.ref b60), (.ref b60)])) _
    refine XS.iloadN X60.here hx rfl (hb hby at_72) rfl ?_
    show Steps p.tables e below (T60.setTop (mkF m 73 #[.val (.int p0), .val (.int p1), .val (.int p2), .val (.int p3), .val (.int p4), .val (.int p5), .val (.int w.val.toInt32), .val (.int (2 : Int32)), .val (.int (1 : Int32)), .val (.int cc.val.toInt32), .val (.ref b56), .unset, .unset, .unset, .unset] [(.int p3), (.int (0 : Int32)), (.ref b60), (.ref b60)])) _
    refine st61 _ ?_
    show Steps p.tables e below (T61.setTop (mkF m 74 #[.val (.int p0), .val (.int p1), .val (.int p2), .val (.int p3), .val (.int p4), .val (.int p5), .val (.int w.val.toInt32), .val (.int (2 : Int32)), .val (.int (1 : Int32)), .val (.int cc.val.toInt32), .val (.ref b56), .unset, .unset, .unset, .unset] [(.ref b60)])) _
    refine XS.dup X61.here hx rfl (hb hby at_74) rfl rfl ?_
    show Steps p.tables e below (T61.setTop (mkF m 75 #[.val (.int p0), .val (.int p1), .val (.int p2), .val (.int p3), .val (.int p4), .val (.int p5), .val (.int w.val.toInt32), .val (.int (2 : Int32)), .val (.int (1 : Int32)), .val (.int cc.val.toInt32), .val (.ref b56), .unset, .unset, .unset, .unset] [(.ref b60), (.ref b60)])) _
    refine XS.iconst X61.here hx rfl (hb hby at_75) ?_
    show Steps p.tables e below (T61.setTop (mkF m 76 #[.val (.int p0), .val (.int p1), .val (.int p2), .val (.int p3), .val (.int p4), .val (.int p5), .val (.int w.val.toInt32), .val (.int (2 : Int32)), .val (.int (1 : Int32)), .val (.int cc.val.toInt32), .val (.ref b56), .unset, .unset, .unset, .unset] [(.int (1 : Int32)), (.ref b60), (.ref b60)])) _
    refine XS.iload X61.here hx rfl (hb hby at_76) rfl ?_
    show Steps p.tables e below (T61.setTop (mkF m 78 #[.val (.int p0), .val (.int p1), .val (.int p2), .val (.int p3), .val (.int p4), .val (.int p5), .val (.int w.val.toInt32), .val (.int (2 : Int32)), .val (.int (1 : Int32)), .val (.int cc.val.toInt32), .val (.ref b56), .unset, .unset, .unset, .unset] [(.int p4), (.int (1 : Int32)), (.ref b60), (.ref b60)])) _
    refine st62 _ ?_
    show Steps p.tables e below (T62.setTop (mkF m 79 #[.val (.int p0), .val (.int p1), .val (.int p2), .val (.int p3), .val (.int p4), .val (.int p5), .val (.int w.val.toInt32), .val (.int (2 : Int32)), .val (.int (1 : Int32)), .val (.int cc.val.toInt32), .val (.ref b56), .unset, .unset, .unset, .unset] [(.ref b60)])) _
    refine XS.dup X62.here hx rfl (hb hby at_79) rfl rfl ?_
    show Steps p.tables e below (T62.setTop (mkF m 80 #[.val (.int p0), .val (.int p1), .val (.int p2), .val (.int p3), .val (.int p4), .val (.int p5), .val (.int w.val.toInt32), .val (.int (2 : Int32)), .val (.int (1 : Int32)), .val (.int cc.val.toInt32), .val (.ref b56), .unset, .unset, .unset, .unset] [(.ref b60), (.ref b60)])) _
    refine XS.iconst X62.here hx rfl (hb hby at_80) ?_
    show Steps p.tables e below (T62.setTop (mkF m 81 #[.val (.int p0), .val (.int p1), .val (.int p2), .val (.int p3), .val (.int p4), .val (.int p5), .val (.int w.val.toInt32), .val (.int (2 : Int32)), .val (.int (1 : Int32)), .val (.int cc.val.toInt32), .val (.ref b56), .unset, .unset, .unset, .unset] [(.int (2 : Int32)), (.ref b60), (.ref b60)])) _
    refine XS.iloadN X62.here hx rfl (hb hby at_81) rfl ?_
    show Steps p.tables e below (T62.setTop (mkF m 82 #[.val (.int p0), .val (.int p1), .val (.int p2), .val (.int p3), .val (.int p4), .val (.int p5), .val (.int w.val.toInt32), .val (.int (2 : Int32)), .val (.int (1 : Int32)), .val (.int cc.val.toInt32), .val (.ref b56), .unset, .unset, .unset, .unset] [(.int p0), (.int (2 : Int32)), (.ref b60), (.ref b60)])) _
    refine XS.iconst X62.here hx rfl (hb hby at_82) ?_
    show Steps p.tables e below (T62.setTop (mkF m 83 #[.val (.int p0), .val (.int p1), .val (.int p2), .val (.int p3), .val (.int p4), .val (.int p5), .val (.int w.val.toInt32), .val (.int (2 : Int32)), .val (.int (1 : Int32)), .val (.int cc.val.toInt32), .val (.ref b56), .unset, .unset, .unset, .unset] [(.int (-1 : Int32)), (.int p0), (.int (2 : Int32)), (.ref b60), (.ref b60)])) _
    refine XT.ixor X62.here hx rfl (hb hby at_83) rfl ?_
    show Steps p.tables e below (T62.setTop (mkF m 84 #[.val (.int p0), .val (.int p1), .val (.int p2), .val (.int p3), .val (.int p4), .val (.int p5), .val (.int w.val.toInt32), .val (.int (2 : Int32)), .val (.int (1 : Int32)), .val (.int cc.val.toInt32), .val (.ref b56), .unset, .unset, .unset, .unset] [(.int (p0 ^^^ (-1 : Int32))), (.int (2 : Int32)), (.ref b60), (.ref b60)])) _
    refine st63 _ ?_
    show Steps p.tables e below (T63.setTop (mkF m 85 #[.val (.int p0), .val (.int p1), .val (.int p2), .val (.int p3), .val (.int p4), .val (.int p5), .val (.int w.val.toInt32), .val (.int (2 : Int32)), .val (.int (1 : Int32)), .val (.int cc.val.toInt32), .val (.ref b56), .unset, .unset, .unset, .unset] [(.ref b60)])) _
    refine XS.astore X63.here hx rfl (hb hby at_85) rfl rfl (l' := #[.val (.int p0), .val (.int p1), .val (.int p2), .val (.int p3), .val (.int p4), .val (.int p5), .val (.int w.val.toInt32), .val (.int (2 : Int32)), .val (.int (1 : Int32)), .val (.int cc.val.toInt32), .val (.ref b56), .val (.ref b60), .unset, .unset, .unset]) rfl ?_
    show Steps p.tables e below (T63.setTop (mkF m 87 #[.val (.int p0), .val (.int p1), .val (.int p2), .val (.int p3), .val (.int p4), .val (.int p5), .val (.int w.val.toInt32), .val (.int (2 : Int32)), .val (.int (1 : Int32)), .val (.int cc.val.toInt32), .val (.ref b56), .val (.ref b60), .unset, .unset, .unset] [])) _
    refine XS.iconst X63.here hx rfl (hb hby at_87) ?_
    show Steps p.tables e below (T63.setTop (mkF m 88 #[.val (.int p0), .val (.int p1), .val (.int p2), .val (.int p3), .val (.int p4), .val (.int p5), .val (.int w.val.toInt32), .val (.int (2 : Int32)), .val (.int (1 : Int32)), .val (.int cc.val.toInt32), .val (.ref b56), .val (.ref b60), .unset, .unset, .unset] [(.int (3 : Int32))])) _
    refine st64 _ ?_
    show Steps p.tables e below (T64.setTop (mkF m 90 #[.val (.int p0), .val (.int p1), .val (.int p2), .val (.int p3), .val (.int p4), .val (.int p5), .val (.int w.val.toInt32), .val (.int (2 : Int32)), .val (.int (1 : Int32)), .val (.int cc.val.toInt32), .val (.ref b56), .val (.ref b60), .unset, .unset, .unset] [(.ref b64)])) _
    refine XS.dup X64.here hx rfl (hb hby at_90) rfl rfl ?_
    show Steps p.tables e below (T64.setTop (mkF m 91 #[.val (.int p0), .val (.int p1), .val (.int p2), .val (.int p3), .val (.int p4), .val (.int p5), .val (.int w.val.toInt32), .val (.int (2 : Int32)), .val (.int (1 : Int32)), .val (.int cc.val.toInt32), .val (.ref b56), .val (.ref b60), .unset, .unset, .unset] [(.ref b64), (.ref b64)])) _
    refine XS.iconst X64.here hx rfl (hb hby at_91) ?_
    show Steps p.tables e below (T64.setTop (mkF m 92 #[.val (.int p0), .val (.int p1), .val (.int p2), .val (.int p3), .val (.int p4), .val (.int p5), .val (.int w.val.toInt32), .val (.int (2 : Int32)), .val (.int (1 : Int32)), .val (.int cc.val.toInt32), .val (.ref b56), .val (.ref b60), .unset, .unset, .unset] [(.int (0 : Int32)), (.ref b64), (.ref b64)])) _
    refine XS.iloadN X64.here hx rfl (hb hby at_92) rfl ?_
    show Steps p.tables e below (T64.setTop (mkF m 93 #[.val (.int p0), .val (.int p1), .val (.int p2), .val (.int p3), .val (.int p4), .val (.int p5), .val (.int w.val.toInt32), .val (.int (2 : Int32)), .val (.int (1 : Int32)), .val (.int cc.val.toInt32), .val (.ref b56), .val (.ref b60), .unset, .unset, .unset] [(.int p1), (.int (0 : Int32)), (.ref b64), (.ref b64)])) _
    refine XS.iconst X64.here hx rfl (hb hby at_93) ?_
    show Steps p.tables e below (T64.setTop (mkF m 94 #[.val (.int p0), .val (.int p1), .val (.int p2), .val (.int p3), .val (.int p4), .val (.int p5), .val (.int w.val.toInt32), .val (.int (2 : Int32)), .val (.int (1 : Int32)), .val (.int cc.val.toInt32), .val (.ref b56), .val (.ref b60), .unset, .unset, .unset] [(.int (-1 : Int32)), (.int p1), (.int (0 : Int32)), (.ref b64), (.ref b64)])) _
    refine XT.ixor X64.here hx rfl (hb hby at_94) rfl ?_
    show Steps p.tables e below (T64.setTop (mkF m 95 #[.val (.int p0), .val (.int p1), .val (.int p2), .val (.int p3), .val (.int p4), .val (.int p5), .val (.int w.val.toInt32), .val (.int (2 : Int32)), .val (.int (1 : Int32)), .val (.int cc.val.toInt32), .val (.ref b56), .val (.ref b60), .unset, .unset, .unset] [(.int (p1 ^^^ (-1 : Int32))), (.int (0 : Int32)), (.ref b64), (.ref b64)])) _
    refine st65 _ ?_
    show Steps p.tables e below (T65.setTop (mkF m 96 #[.val (.int p0), .val (.int p1), .val (.int p2), .val (.int p3), .val (.int p4), .val (.int p5), .val (.int w.val.toInt32), .val (.int (2 : Int32)), .val (.int (1 : Int32)), .val (.int cc.val.toInt32), .val (.ref b56), .val (.ref b60), .unset, .unset, .unset] [(.ref b64)])) _
    refine XS.dup X65.here hx rfl (hb hby at_96) rfl rfl ?_
    show Steps p.tables e below (T65.setTop (mkF m 97 #[.val (.int p0), .val (.int p1), .val (.int p2), .val (.int p3), .val (.int p4), .val (.int p5), .val (.int w.val.toInt32), .val (.int (2 : Int32)), .val (.int (1 : Int32)), .val (.int cc.val.toInt32), .val (.ref b56), .val (.ref b60), .unset, .unset, .unset] [(.ref b64), (.ref b64)])) _
    refine XS.iconst X65.here hx rfl (hb hby at_97) ?_
    show Steps p.tables e below (T65.setTop (mkF m 98 #[.val (.int p0), .val (.int p1), .val (.int p2), .val (.int p3), .val (.int p4), .val (.int p5), .val (.int w.val.toInt32), .val (.int (2 : Int32)), .val (.int (1 : Int32)), .val (.int cc.val.toInt32), .val (.ref b56), .val (.ref b60), .unset, .unset, .unset] [(.int (1 : Int32)), (.ref b64), (.ref b64)])) _
    refine XS.iloadN X65.here hx rfl (hb hby at_98) rfl ?_
    show Steps p.tables e below (T65.setTop (mkF m 99 #[.val (.int p0), .val (.int p1), .val (.int p2), .val (.int p3), .val (.int p4), .val (.int p5), .val (.int w.val.toInt32), .val (.int (2 : Int32)), .val (.int (1 : Int32)), .val (.int cc.val.toInt32), .val (.ref b56), .val (.ref b60), .unset, .unset, .unset] [(.int p2), (.int (1 : Int32)), (.ref b64), (.ref b64)])) _
    refine XS.iconst X65.here hx rfl (hb hby at_99) ?_
    show Steps p.tables e below (T65.setTop (mkF m 100 #[.val (.int p0), .val (.int p1), .val (.int p2), .val (.int p3), .val (.int p4), .val (.int p5), .val (.int w.val.toInt32), .val (.int (2 : Int32)), .val (.int (1 : Int32)), .val (.int cc.val.toInt32), .val (.ref b56), .val (.ref b60), .unset, .unset, .unset] [(.int (-1 : Int32)), (.int p2), (.int (1 : Int32)), (.ref b64), (.ref b64)])) _
    refine XT.ixor X65.here hx rfl (hb hby at_100) rfl ?_
    show Steps p.tables e below (T65.setTop (mkF m 101 #[.val (.int p0), .val (.int p1), .val (.int p2), .val (.int p3), .val (.int p4), .val (.int p5), .val (.int w.val.toInt32), .val (.int (2 : Int32)), .val (.int (1 : Int32)), .val (.int cc.val.toInt32), .val (.ref b56), .val (.ref b60), .unset, .unset, .unset] [(.int (p2 ^^^ (-1 : Int32))), (.int (1 : Int32)), (.ref b64), (.ref b64)])) _
    refine st66 _ ?_
    show Steps p.tables e below (T66.setTop (mkF m 102 #[.val (.int p0), .val (.int p1), .val (.int p2), .val (.int p3), .val (.int p4), .val (.int p5), .val (.int w.val.toInt32), .val (.int (2 : Int32)), .val (.int (1 : Int32)), .val (.int cc.val.toInt32), .val (.ref b56), .val (.ref b60), .unset, .unset, .unset] [(.ref b64)])) _
    refine XS.dup X66.here hx rfl (hb hby at_102) rfl rfl ?_
    show Steps p.tables e below (T66.setTop (mkF m 103 #[.val (.int p0), .val (.int p1), .val (.int p2), .val (.int p3), .val (.int p4), .val (.int p5), .val (.int w.val.toInt32), .val (.int (2 : Int32)), .val (.int (1 : Int32)), .val (.int cc.val.toInt32), .val (.ref b56), .val (.ref b60), .unset, .unset, .unset] [(.ref b64), (.ref b64)])) _
    refine XS.iconst X66.here hx rfl (hb hby at_103) ?_
    show Steps p.tables e below (T66.setTop (mkF m 104 #[.val (.int p0), .val (.int p1), .val (.int p2), .val (.int p3), .val (.int p4), .val (.int p5), .val (.int w.val.toInt32), .val (.int (2 : Int32)), .val (.int (1 : Int32)), .val (.int cc.val.toInt32), .val (.ref b56), .val (.ref b60), .unset, .unset, .unset] [(.int (2 : Int32)), (.ref b64), (.ref b64)])) _
    refine XS.iloadN X66.here hx rfl (hb hby at_104) rfl ?_
    show Steps p.tables e below (T66.setTop (mkF m 105 #[.val (.int p0), .val (.int p1), .val (.int p2), .val (.int p3), .val (.int p4), .val (.int p5), .val (.int w.val.toInt32), .val (.int (2 : Int32)), .val (.int (1 : Int32)), .val (.int cc.val.toInt32), .val (.ref b56), .val (.ref b60), .unset, .unset, .unset] [(.int p3), (.int (2 : Int32)), (.ref b64), (.ref b64)])) _
    refine XS.iconst X66.here hx rfl (hb hby at_105) ?_
    show Steps p.tables e below (T66.setTop (mkF m 106 #[.val (.int p0), .val (.int p1), .val (.int p2), .val (.int p3), .val (.int p4), .val (.int p5), .val (.int w.val.toInt32), .val (.int (2 : Int32)), .val (.int (1 : Int32)), .val (.int cc.val.toInt32), .val (.ref b56), .val (.ref b60), .unset, .unset, .unset] [(.int (-1 : Int32)), (.int p3), (.int (2 : Int32)), (.ref b64), (.ref b64)])) _
    refine XT.ixor X66.here hx rfl (hb hby at_106) rfl ?_
    show Steps p.tables e below (T66.setTop (mkF m 107 #[.val (.int p0), .val (.int p1), .val (.int p2), .val (.int p3), .val (.int p4), .val (.int p5), .val (.int w.val.toInt32), .val (.int (2 : Int32)), .val (.int (1 : Int32)), .val (.int cc.val.toInt32), .val (.ref b56), .val (.ref b60), .unset, .unset, .unset] [(.int (p3 ^^^ (-1 : Int32))), (.int (2 : Int32)), (.ref b64), (.ref b64)])) _
    refine st67 _ ?_
    show Steps p.tables e below (T67.setTop (mkF m 108 #[.val (.int p0), .val (.int p1), .val (.int p2), .val (.int p3), .val (.int p4), .val (.int p5), .val (.int w.val.toInt32), .val (.int (2 : Int32)), .val (.int (1 : Int32)), .val (.int cc.val.toInt32), .val (.ref b56), .val (.ref b60), .unset, .unset, .unset] [(.ref b64)])) _
    refine XS.astore X67.here hx rfl (hb hby at_108) rfl rfl (l' := #[.val (.int p0), .val (.int p1), .val (.int p2), .val (.int p3), .val (.int p4), .val (.int p5), .val (.int w.val.toInt32), .val (.int (2 : Int32)), .val (.int (1 : Int32)), .val (.int cc.val.toInt32), .val (.ref b56), .val (.ref b60), .val (.ref b64), .unset, .unset]) rfl ?_
    show Steps p.tables e below (T67.setTop (mkF m 110 #[.val (.int p0), .val (.int p1), .val (.int p2), .val (.int p3), .val (.int p4), .val (.int p5), .val (.int w.val.toInt32), .val (.int (2 : Int32)), .val (.int (1 : Int32)), .val (.int cc.val.toInt32), .val (.ref b56), .val (.ref b60), .val (.ref b64), .unset, .unset] [])) _
    refine st68 _ ?_
    show Steps p.tables e below (T68.setTop (mkF m 113 #[.val (.int p0), .val (.int p1), .val (.int p2), .val (.int p3), .val (.int p4), .val (.int p5), .val (.int w.val.toInt32), .val (.int (2 : Int32)), .val (.int (1 : Int32)), .val (.int cc.val.toInt32), .val (.ref b56), .val (.ref b60), .val (.ref b64), .unset, .unset] [(.ref b68)])) _
    refine XS.dup X68.here hx rfl (hb hby at_113) rfl rfl ?_
    show Steps p.tables e below (T68.setTop (mkF m 114 #[.val (.int p0), .val (.int p1), .val (.int p2), .val (.int p3), .val (.int p4), .val (.int p5), .val (.int w.val.toInt32), .val (.int (2 : Int32)), .val (.int (1 : Int32)), .val (.int cc.val.toInt32), .val (.ref b56), .val (.ref b60), .val (.ref b64), .unset, .unset] [(.ref b68), (.ref b68)])) _
    refine XS.iload X68.here hx rfl (hb hby at_114) rfl ?_
    show Steps p.tables e below (T68.setTop (mkF m 116 #[.val (.int p0), .val (.int p1), .val (.int p2), .val (.int p3), .val (.int p4), .val (.int p5), .val (.int w.val.toInt32), .val (.int (2 : Int32)), .val (.int (1 : Int32)), .val (.int cc.val.toInt32), .val (.ref b56), .val (.ref b60), .val (.ref b64), .unset, .unset] [(.int w.val.toInt32), (.ref b68), (.ref b68)])) _
    refine st69.trans ?_
    show Steps p.tables e below (T69.setTop (mkF m 119 #[.val (.int p0), .val (.int p1), .val (.int p2), .val (.int p3), .val (.int p4), .val (.int p5), .val (.int w.val.toInt32), .val (.int (2 : Int32)), .val (.int (1 : Int32)), .val (.int cc.val.toInt32), .val (.ref b56), .val (.ref b60), .val (.ref b64), .unset, .unset] [(.ref b68)])) _
    refine XS.astore X69.here hx rfl (hb hby at_119) rfl rfl (l' := #[.val (.int p0), .val (.int p1), .val (.int p2), .val (.int p3), .val (.int p4), .val (.int p5), .val (.int w.val.toInt32), .val (.int (2 : Int32)), .val (.int (1 : Int32)), .val (.int cc.val.toInt32), .val (.ref b56), .val (.ref b60), .val (.ref b64), .val (.ref b68), .unset]) rfl ?_
    show Steps p.tables e below (T69.setTop (mkF m 121 #[.val (.int p0), .val (.int p1), .val (.int p2), .val (.int p3), .val (.int p4), .val (.int p5), .val (.int w.val.toInt32), .val (.int (2 : Int32)), .val (.int (1 : Int32)), .val (.int cc.val.toInt32), .val (.ref b56), .val (.ref b60), .val (.ref b64), .val (.ref b68), .unset] [])) _
    refine XS.aload X69.here hx rfl (hb hby at_121) rfl rfl ?_
    show Steps p.tables e below (T69.setTop (mkF m 123 #[.val (.int p0), .val (.int p1), .val (.int p2), .val (.int p3), .val (.int p4), .val (.int p5), .val (.int w.val.toInt32), .val (.int (2 : Int32)), .val (.int (1 : Int32)), .val (.int cc.val.toInt32), .val (.ref b56), .val (.ref b60), .val (.ref b64), .val (.ref b68), .unset] [(.ref b68)])) _
    refine XS.aload X69.here hx rfl (hb hby at_123) rfl rfl ?_
    show Steps p.tables e below (T69.setTop (mkF m 125 #[.val (.int p0), .val (.int p1), .val (.int p2), .val (.int p3), .val (.int p4), .val (.int p5), .val (.int w.val.toInt32), .val (.int (2 : Int32)), .val (.int (1 : Int32)), .val (.int cc.val.toInt32), .val (.ref b56), .val (.ref b60), .val (.ref b64), .val (.ref b68), .unset] [(.ref b56), (.ref b68)])) _
    refine st70.trans ?_
    show Steps p.tables e below (T70.setTop (mkF m 128 #[.val (.int p0), .val (.int p1), .val (.int p2), .val (.int p3), .val (.int p4), .val (.int p5), .val (.int w.val.toInt32), .val (.int (2 : Int32)), .val (.int (1 : Int32)), .val (.int cc.val.toInt32), .val (.ref b56), .val (.ref b60), .val (.ref b64), .val (.ref b68), .unset] [])) _
    refine XS.iload X70.here hx rfl (hb hby at_128) rfl ?_
    show Steps p.tables e below (T70.setTop (mkF m 130 #[.val (.int p0), .val (.int p1), .val (.int p2), .val (.int p3), .val (.int p4), .val (.int p5), .val (.int w.val.toInt32), .val (.int (2 : Int32)), .val (.int (1 : Int32)), .val (.int cc.val.toInt32), .val (.ref b56), .val (.ref b60), .val (.ref b64), .val (.ref b68), .unset] [(.int (2 : Int32))])) _
    refine XS.iconst X70.here hx rfl (hb hby at_130) ?_
    show Steps p.tables e below (T70.setTop (mkF m 131 #[.val (.int p0), .val (.int p1), .val (.int p2), .val (.int p3), .val (.int p4), .val (.int p5), .val (.int w.val.toInt32), .val (.int (2 : Int32)), .val (.int (1 : Int32)), .val (.int cc.val.toInt32), .val (.ref b56), .val (.ref b60), .val (.ref b64), .val (.ref b68), .unset] [(.int (2 : Int32)), (.int (2 : Int32))])) _
    refine XS.icmpNo X70.here hx rfl (hb hby at_131) rfl (XT.ii_lt_f (by decide)) ?_
    show Steps p.tables e below (T70.setTop (mkF m 134 #[.val (.int p0), .val (.int p1), .val (.int p2), .val (.int p3), .val (.int p4), .val (.int p5), .val (.int w.val.toInt32), .val (.int (2 : Int32)), .val (.int (1 : Int32)), .val (.int cc.val.toInt32), .val (.ref b56), .val (.ref b60), .val (.ref b64), .val (.ref b68), .unset] [])) _
    refine XS.aload X70.here hx rfl (hb hby at_134) rfl rfl ?_
    show Steps p.tables e below (T70.setTop (mkF m 136 #[.val (.int p0), .val (.int p1), .val (.int p2), .val (.int p3), .val (.int p4), .val (.int p5), .val (.int w.val.toInt32), .val (.int (2 : Int32)), .val (.int (1 : Int32)), .val (.int cc.val.toInt32), .val (.ref b56), .val (.ref b60), .val (.ref b64), .val (.ref b68), .unset] [(.ref b68)])) _
    refine XS.aload X70.here hx rfl (hb hby at_136) rfl rfl ?_
    show Steps p.tables e below (T70.setTop (mkF m 138 #[.val (.int p0), .val (.int p1), .val (.int p2), .val (.int p3), .val (.int p4), .val (.int p5), .val (.int w.val.toInt32), .val (.int (2 : Int32)), .val (.int (1 : Int32)), .val (.int cc.val.toInt32), .val (.ref b56), .val (.ref b60), .val (.ref b64), .val (.ref b68), .unset] [(.ref b60), (.ref b68)])) _
    refine st71.trans ?_
    show Steps p.tables e below (T71.setTop (mkF m 141 #[.val (.int p0), .val (.int p1), .val (.int p2), .val (.int p3), .val (.int p4), .val (.int p5), .val (.int w.val.toInt32), .val (.int (2 : Int32)), .val (.int (1 : Int32)), .val (.int cc.val.toInt32), .val (.ref b56), .val (.ref b60), .val (.ref b64), .val (.ref b68), .unset] [])) _
    refine XS.iload X71.here hx rfl (hb hby at_141) rfl ?_
    show Steps p.tables e below (T71.setTop (mkF m 143 #[.val (.int p0), .val (.int p1), .val (.int p2), .val (.int p3), .val (.int p4), .val (.int p5), .val (.int w.val.toInt32), .val (.int (2 : Int32)), .val (.int (1 : Int32)), .val (.int cc.val.toInt32), .val (.ref b56), .val (.ref b60), .val (.ref b64), .val (.ref b68), .unset] [(.int (2 : Int32))])) _
    refine XS.iconst X71.here hx rfl (hb hby at_143) ?_
    show Steps p.tables e below (T71.setTop (mkF m 144 #[.val (.int p0), .val (.int p1), .val (.int p2), .val (.int p3), .val (.int p4), .val (.int p5), .val (.int w.val.toInt32), .val (.int (2 : Int32)), .val (.int (1 : Int32)), .val (.int cc.val.toInt32), .val (.ref b56), .val (.ref b60), .val (.ref b64), .val (.ref b68), .unset] [(.int (3 : Int32)), (.int (2 : Int32))])) _
    refine XS.icmpYes X71.here hx rfl (pc0 := 144) (pc' := 154) rfl (hb hby at_144) rfl (XT.ii_lt_t (by decide)) (by decide) (by decide) ?_
    show Steps p.tables e below (T71.setTop (mkF m 154 #[.val (.int p0), .val (.int p1), .val (.int p2), .val (.int p3), .val (.int p4), .val (.int p5), .val (.int w.val.toInt32), .val (.int (2 : Int32)), .val (.int (1 : Int32)), .val (.int cc.val.toInt32), .val (.ref b56), .val (.ref b60), .val (.ref b64), .val (.ref b68), .unset] [])) _
    refine XS.iload X71.here hx rfl (hb hby at_154) rfl ?_
    show Steps p.tables e below (T71.setTop (mkF m 156 #[.val (.int p0), .val (.int p1), .val (.int p2), .val (.int p3), .val (.int p4), .val (.int p5), .val (.int w.val.toInt32), .val (.int (2 : Int32)), .val (.int (1 : Int32)), .val (.int cc.val.toInt32), .val (.ref b56), .val (.ref b60), .val (.ref b64), .val (.ref b68), .unset] [(.int (1 : Int32))])) _
    refine XS.ifYes X71.here hx rfl (pc0 := 156) (pc' := 169) rfl (hb hby at_156) rfl (XT.i0_ne_t (by decide)) (by decide) (by decide) ?_
    show Steps p.tables e below (T71.setTop (mkF m 169 #[.val (.int p0), .val (.int p1), .val (.int p2), .val (.int p3), .val (.int p4), .val (.int p5), .val (.int w.val.toInt32), .val (.int (2 : Int32)), .val (.int (1 : Int32)), .val (.int cc.val.toInt32), .val (.ref b56), .val (.ref b60), .val (.ref b64), .val (.ref b68), .unset] [])) _
    refine XS.iload X71.here hx rfl (hb hby at_169) rfl ?_
    show Steps p.tables e below (T71.setTop (mkF m 171 #[.val (.int p0), .val (.int p1), .val (.int p2), .val (.int p3), .val (.int p4), .val (.int p5), .val (.int w.val.toInt32), .val (.int (2 : Int32)), .val (.int (1 : Int32)), .val (.int cc.val.toInt32), .val (.ref b56), .val (.ref b60), .val (.ref b64), .val (.ref b68), .unset] [(.int (1 : Int32))])) _
    refine XS.iconst X71.here hx rfl (hb hby at_171) ?_
    show Steps p.tables e below (T71.setTop (mkF m 172 #[.val (.int p0), .val (.int p1), .val (.int p2), .val (.int p3), .val (.int p4), .val (.int p5), .val (.int w.val.toInt32), .val (.int (2 : Int32)), .val (.int (1 : Int32)), .val (.int cc.val.toInt32), .val (.ref b56), .val (.ref b60), .val (.ref b64), .val (.ref b68), .unset] [(.int (1 : Int32)), (.int (1 : Int32))])) _
    refine XS.icmpNo X71.here hx rfl (hb hby at_172) rfl (XT.ii_ne_f (by decide)) ?_
    show Steps p.tables e below (T71.setTop (mkF m 175 #[.val (.int p0), .val (.int p1), .val (.int p2), .val (.int p3), .val (.int p4), .val (.int p5), .val (.int w.val.toInt32), .val (.int (2 : Int32)), .val (.int (1 : Int32)), .val (.int cc.val.toInt32), .val (.ref b56), .val (.ref b60), .val (.ref b64), .val (.ref b68), .unset] [])) _
    refine XS.aload X71.here hx rfl (hb hby at_175) rfl rfl ?_
    show Steps p.tables e below (T71.setTop (mkF m 177 #[.val (.int p0), .val (.int p1), .val (.int p2), .val (.int p3), .val (.int p4), .val (.int p5), .val (.int w.val.toInt32), .val (.int (2 : Int32)), .val (.int (1 : Int32)), .val (.int cc.val.toInt32), .val (.ref b56), .val (.ref b60), .val (.ref b64), .val (.ref b68), .unset] [(.ref b60)])) _
    refine XS.iload X71.here hx rfl (hb hby at_177) rfl ?_
    show Steps p.tables e below (T71.setTop (mkF m 179 #[.val (.int p0), .val (.int p1), .val (.int p2), .val (.int p3), .val (.int p4), .val (.int p5), .val (.int w.val.toInt32), .val (.int (2 : Int32)), .val (.int (1 : Int32)), .val (.int cc.val.toInt32), .val (.ref b56), .val (.ref b60), .val (.ref b64), .val (.ref b68), .unset] [(.int cc.val.toInt32), (.ref b60)])) _
    refine X71.iaload hx (j := cc.val.toInt32) (v := (.int (own_x (upd (upd (upd (fun _ => (.int 0)) 0 (.int p3)) 1 (.int p4)) 2 (.int (p0 ^^^ (-1 : Int32)))) cc.val))) Ar72.1 (State.isArrayOf_alike hZ.alike Ar72.2.1) Ar72.2.2 hin72 hat72 (g := (mkF m 179 #[.val (.int p0), .val (.int p1), .val (.int p2), .val (.int p3), .val (.int p4), .val (.int p5), .val (.int w.val.toInt32), .val (.int (2 : Int32)), .val (.int (1 : Int32)), .val (.int cc.val.toInt32), .val (.ref b56), .val (.ref b60), .val (.ref b64), .val (.ref b68), .unset] [(.int cc.val.toInt32), (.ref b60)])) rfl rfl (hb hby at_179) _ ?_
    show Steps p.tables e below (T71.setTop (mkF m 180 #[.val (.int p0), .val (.int p1), .val (.int p2), .val (.int p3), .val (.int p4), .val (.int p5), .val (.int w.val.toInt32), .val (.int (2 : Int32)), .val (.int (1 : Int32)), .val (.int cc.val.toInt32), .val (.ref b56), .val (.ref b60), .val (.ref b64), .val (.ref b68), .unset] [(.int (own_x (upd (upd (upd (fun _ => (.int 0)) 0 (.int p3)) 1 (.int p4)) 2 (.int (p0 ^^^ (-1 : Int32)))) cc.val))])) _
    refine XS.istore X71.here hx rfl (hb hby at_180) rfl (l' := #[.val (.int p0), .val (.int p1), .val (.int p2), .val (.int p3), .val (.int p4), .val (.int p5), .val (.int w.val.toInt32), .val (.int (2 : Int32)), .val (.int (1 : Int32)), .val (.int cc.val.toInt32), .val (.ref b56), .val (.ref b60), .val (.ref b64), .val (.ref b68), .val (.int (own_x (upd (upd (upd (fun _ => (.int 0)) 0 (.int p3)) 1 (.int p4)) 2 (.int (p0 ^^^ (-1 : Int32)))) cc.val))]) rfl ?_
    show Steps p.tables e below (T71.setTop (mkF m 182 #[.val (.int p0), .val (.int p1), .val (.int p2), .val (.int p3), .val (.int p4), .val (.int p5), .val (.int w.val.toInt32), .val (.int (2 : Int32)), .val (.int (1 : Int32)), .val (.int cc.val.toInt32), .val (.ref b56), .val (.ref b60), .val (.ref b64), .val (.ref b68), .val (.int (own_x (upd (upd (upd (fun _ => (.int 0)) 0 (.int p3)) 1 (.int p4)) 2 (.int (p0 ^^^ (-1 : Int32)))) cc.val))] [])) _
    refine XS.goto X71.here hx rfl (pc0 := 182) (pc' := 192) rfl (hb hby at_182) (by decide) (by decide) ?_
    show Steps p.tables e below (T71.setTop (mkF m 192 #[.val (.int p0), .val (.int p1), .val (.int p2), .val (.int p3), .val (.int p4), .val (.int p5), .val (.int w.val.toInt32), .val (.int (2 : Int32)), .val (.int (1 : Int32)), .val (.int cc.val.toInt32), .val (.ref b56), .val (.ref b60), .val (.ref b64), .val (.ref b68), .val (.int (own_x (upd (upd (upd (fun _ => (.int 0)) 0 (.int p3)) 1 (.int p4)) 2 (.int (p0 ^^^ (-1 : Int32)))) cc.val))] [])) _
    refine XS.aload X71.here hx rfl (hb hby at_192) rfl rfl ?_
    show Steps p.tables e below (T71.setTop (mkF m 194 #[.val (.int p0), .val (.int p1), .val (.int p2), .val (.int p3), .val (.int p4), .val (.int p5), .val (.int w.val.toInt32), .val (.int (2 : Int32)), .val (.int (1 : Int32)), .val (.int cc.val.toInt32), .val (.ref b56), .val (.ref b60), .val (.ref b64), .val (.ref b68), .val (.int (own_x (upd (upd (upd (fun _ => (.int 0)) 0 (.int p3)) 1 (.int p4)) 2 (.int (p0 ^^^ (-1 : Int32)))) cc.val))] [(.ref b68)])) _
    refine XS.iload X71.here hx rfl (hb hby at_194) rfl ?_
    show Steps p.tables e below (T71.setTop (mkF m 196 #[.val (.int p0), .val (.int p1), .val (.int p2), .val (.int p3), .val (.int p4), .val (.int p5), .val (.int w.val.toInt32), .val (.int (2 : Int32)), .val (.int (1 : Int32)), .val (.int cc.val.toInt32), .val (.ref b56), .val (.ref b60), .val (.ref b64), .val (.ref b68), .val (.int (own_x (upd (upd (upd (fun _ => (.int 0)) 0 (.int p3)) 1 (.int p4)) 2 (.int (p0 ^^^ (-1 : Int32)))) cc.val))] [(.int (1 : Int32)), (.ref b68)])) _
    refine XS.iload X71.here hx rfl (hb hby at_196) rfl ?_
    show Steps p.tables e below (T71.setTop (mkF m 198 #[.val (.int p0), .val (.int p1), .val (.int p2), .val (.int p3), .val (.int p4), .val (.int p5), .val (.int w.val.toInt32), .val (.int (2 : Int32)), .val (.int (1 : Int32)), .val (.int cc.val.toInt32), .val (.ref b56), .val (.ref b60), .val (.ref b64), .val (.ref b68), .val (.int (own_x (upd (upd (upd (fun _ => (.int 0)) 0 (.int p3)) 1 (.int p4)) 2 (.int (p0 ^^^ (-1 : Int32)))) cc.val))] [(.int cc.val.toInt32), (.int (1 : Int32)), (.ref b68)])) _
    refine st73.trans ?_
    show Steps p.tables e below (T73.setTop (mkF m 201 #[.val (.int p0), .val (.int p1), .val (.int p2), .val (.int p3), .val (.int p4), .val (.int p5), .val (.int w.val.toInt32), .val (.int (2 : Int32)), .val (.int (1 : Int32)), .val (.int cc.val.toInt32), .val (.ref b56), .val (.ref b60), .val (.ref b64), .val (.ref b68), .val (.int (own_x (upd (upd (upd (fun _ => (.int 0)) 0 (.int p3)) 1 (.int p4)) 2 (.int (p0 ^^^ (-1 : Int32)))) cc.val))] [(.int (own_x (upd (upd (upd (fun _ => (.int 0)) 0 (.int p3)) 1 (.int p4)) 2 (.int (p0 ^^^ (-1 : Int32)))) cc.val))])) _
    refine XS.iload X73.here hx rfl (hb hby at_201) rfl ?_
    show Steps p.tables e below (T73.setTop (mkF m 203 #[.val (.int p0), .val (.int p1), .val (.int p2), .val (.int p3), .val (.int p4), .val (.int p5), .val (.int w.val.toInt32), .val (.int (2 : Int32)), .val (.int (1 : Int32)), .val (.int cc.val.toInt32), .val (.ref b56), .val (.ref b60), .val (.ref b64), .val (.ref b68), .val (.int (own_x (upd (upd (upd (fun _ => (.int 0)) 0 (.int p3)) 1 (.int p4)) 2 (.int (p0 ^^^ (-1 : Int32)))) cc.val))] [(.int (own_x (upd (upd (upd (fun _ => (.int 0)) 0 (.int p3)) 1 (.int p4)) 2 (.int (p0 ^^^ (-1 : Int32)))) cc.val)), (.int (own_x (upd (upd (upd (fun _ => (.int 0)) 0 (.int p3)) 1 (.int p4)) 2 (.int (p0 ^^^ (-1 : Int32)))) cc.val))])) _
    refine XS.icmpNo X73.here hx rfl (hb hby at_203) rfl (XT.ii_ne_f rfl) ?_
    show Steps p.tables e below (T73.setTop (mkF m 206 #[.val (.int p0), .val (.int p1), .val (.int p2), .val (.int p3), .val (.int p4), .val (.int p5), .val (.int w.val.toInt32), .val (.int (2 : Int32)), .val (.int (1 : Int32)), .val (.int cc.val.toInt32), .val (.ref b56), .val (.ref b60), .val (.ref b64), .val (.ref b68), .val (.int (own_x (upd (upd (upd (fun _ => (.int 0)) 0 (.int p3)) 1 (.int p4)) 2 (.int (p0 ^^^ (-1 : Int32)))) cc.val))] [])) _
    refine XS.iconst X73.here hx rfl (hb hby at_206) ?_
    show Steps p.tables e below (T73.setTop (mkF m 207 #[.val (.int p0), .val (.int p1), .val (.int p2), .val (.int p3), .val (.int p4), .val (.int p5), .val (.int w.val.toInt32), .val (.int (2 : Int32)), .val (.int (1 : Int32)), .val (.int cc.val.toInt32), .val (.ref b56), .val (.ref b60), .val (.ref b64), .val (.ref b68), .val (.int (own_x (upd (upd (upd (fun _ => (.int 0)) 0 (.int p3)) 1 (.int p4)) 2 (.int (p0 ^^^ (-1 : Int32)))) cc.val))] [(.int (1 : Int32))])) _
    refine XS.goto X73.here hx rfl (pc0 := 207) (pc' := 211) rfl (hb hby at_207) (by decide) (by decide) ?_
    show Steps p.tables e below (T73.setTop (mkF m 211 #[.val (.int p0), .val (.int p1), .val (.int p2), .val (.int p3), .val (.int p4), .val (.int p5), .val (.int w.val.toInt32), .val (.int (2 : Int32)), .val (.int (1 : Int32)), .val (.int cc.val.toInt32), .val (.ref b56), .val (.ref b60), .val (.ref b64), .val (.ref b68), .val (.int (own_x (upd (upd (upd (fun _ => (.int 0)) 0 (.int p3)) 1 (.int p4)) 2 (.int (p0 ^^^ (-1 : Int32)))) cc.val))] [(.int (1 : Int32))])) _
    exact retN X73 hx (t := .boolean) Bd.returns (by simp) (hb hby at_211) hr
  · show Q_own_law_2_1 Z p0 p1 p2 p3 p4 p5 w cc h0 n0 _ T73.heap _
    rw [eh73]
    exact ⟨rfl, N73⟩
theorem pn_own_law_3_0 : plainName "com/example/factwell/factwell/pql/RowsGetPinLaw" = true := by first | (simp [plainName, overriddenIn]; done) | decide +kernel
theorem ef_own_law_3_0 (m : MethodId) (x0 : Int32) (x1 : Int32) (x2 : Int32) (x3 : Int32) (x4 : Int32) (x5 : Int32) : entryFrame m #[(.int x0), (.int x1), (.int x2), (.int x3), (.int x4), (.int x5)] maxLocals = mkF m 0 #[.val (.int x0), .val (.int x1), .val (.int x2), .val (.int x3), .val (.int x4), .val (.int x5), .unset, .unset, .unset, .unset, .unset, .unset, .unset, .unset, .unset] [] := by first | (simp [entryFrame, mkF, argsToLocals, Value.category, maxLocals]; done) | rfl
def Q_own_law_3_0 (Z : State) (p0 : Int32) (p1 : Int32) (p2 : Int32) (p3 : Int32) (p4 : Int32) (p5 : Int32) (w : Fin 4) (cc : Fin 3) (h0 : Heap) (n0 : Nat) (v : Option Value) (h : Heap) (L : List Loc) : Prop := v = some (.int 1) ∧ Fr n0 L
set_option maxRecDepth 65536 in
set_option maxHeartbeats 40000000 in
theorem own_law_3_0 (l : Launch) (Z : State) (a0 : Array Value) (hw : ∀ d ∈ tables_1, d.before a0 Z = true) (ws : List Jvm.Cond) (p0 : Int32) (p1 : Int32) (p2 : Int32) (p3 : Int32) (p4 : Int32) (p5 : Int32) (w : Fin 4) (cc : Fin 3) (h0 : Heap) (n0 : Nat) (Z0 : n0 ≤ h0.size) (hW_ : ((1 : Int32) + ((p5 &&& (15 : Int32)) % (3 : Int32))) = w.val.toInt32) (hN_ : ((1 : Int32) + (((XT.ushr p5 (4 : Int32)) &&& (15 : Int32)) % (3 : Int32))) = (3 : Int32)) (hR_ : (((XT.ushr p5 (8 : Int32)) &&& (15 : Int32)) % (3 : Int32)) = (0 : Int32)) (hC_ : (((XT.ushr p5 (12 : Int32)) &&& (15 : Int32)) % w.val.toInt32) = cc.val.toInt32) (hw1 : 1 ≤ w.val) (hcw : cc.val < w.val) :
    MetFree l x (head1 (Jvm.Cond.code x code maxLocals ret :: ws) room_1) (fun a U => a = #[(.int p0), (.int p1), (.int p2), (.int p3), (.int p4), (.int p5)] ∧ Z.Warmed39 U.vm ∧ U.heap = h0) (fun _ _ _ _ _ => True) (fun _ U o U' => ∃ v L, o = .returned v ∧ Q_own_law_3_0 Z p0 p1 p2 p3 p4 p5 w cc h0 n0 v U'.heap L ∧ FrameEnd U o U' L 24 192) := by
  refine MetFree.of_bodySF (plainFor_of_name pn_own_law_3_0) hisR ?_
  intro p e s m args below meth c s₁ Bd hml0 hP hK
  obtain ⟨rfl, hZ, hh⟩ := hP
  have hx := Bd.exec
  have hby := Bd.bytes
  have hml : c.maxLocals = 15 := hml0
  have hown : s.vm.findClass "com/example/factwell/factwell/pql/RowsGetPinLaw" = some m.cls := findClass_of_methodNamed Bd.named
  have hnm := (name_of_methodNamed Bd.named Bd.method).1
  have X0 : Stand p l e room_1 s m #[(.int p0), (.int p1), (.int p2), (.int p3), (.int p4), (.int p5)] below meth c s₁ [] 0 0 := Stand.of_body Bd
  have e0 : s₁.heap = h0 := by rw [← hh, Bd.state]; rfl
  have N0 := Fr.nil n0
  have pre0 : ∀ t, Steps p.tables e below (s₁.setTop (mkF m 0 #[.val (.int p0), .val (.int p1), .val (.int p2), .val (.int p3), .val (.int p4), .val (.int p5), .unset, .unset, .unset, .unset, .unset, .unset, .unset, .unset, .unset] [])) t → Steps p.tables e below (s₁.setTop (entryFrame m #[(.int p0), (.int p1), (.int p2), (.int p3), (.int p4), (.int p5)] maxLocals)) t := fun t k => castTop (ef_own_law_3_0 m (p0) (p1) (p2) (p3) (p4) (p5)) k
  obtain ⟨T74, h74, k74, X74, e74, E74, A74, st74⟩ := newP X0 hx hZ (hw _ (List.mem_of_getElem? (i := 0) rfl)) e0 (g := (mkF m 51 #[.val (.int p0), .val (.int p1), .val (.int p2), .val (.int p3), .val (.int p4), .val (.int p5), .val (.int w.val.toInt32), .val (.int (3 : Int32)), .val (.int (0 : Int32)), .val (.int cc.val.toInt32), .unset, .unset, .unset, .unset, .unset] [(.int (3 : Int32))])) rfl (hb hby at_51) rfl (by decide) (cap := 3) (by decide) (by decide) (by decide) (by decide)
  obtain ⟨b74, g74⟩ : ∃ z, z = h0.size := ⟨_, rfl⟩
  rw [← g74] at A74 st74
  have g_b74 : n0 ≤ b74 := Nat.le_trans Z0 (Nat.le_of_eq g74.symm)
  have V74 := Arf.new (n := 3) A74 (by decide) rfl
  obtain ⟨cl75, Ar75, qk75, S75, B75, H75, G75⟩ := id V74
  have hin75 : ¬ ((0 : Int32) < 0 ∨ cl75.slots.size ≤ ((0 : Int32)).toNatClampNeg) := own_inb S75 ⟨by decide, rfl⟩ (by decide)
  obtain ⟨T75, h75, X75, e75, W75, st75⟩ := stI X74 hx hZ e74 Ar75 (j := (0 : Int32)) hin75 (g := (mkF m 56 #[.val (.int p0), .val (.int p1), .val (.int p2), .val (.int p3), .val (.int p4), .val (.int p5), .val (.int w.val.toInt32), .val (.int (3 : Int32)), .val (.int (0 : Int32)), .val (.int cc.val.toInt32), .unset, .unset, .unset, .unset, .unset] [(.int p0), (.int (0 : Int32)), (.ref b74), (.ref b74)])) rfl rfl (hb hby at_56)
  have V75 := own_set Ar75 qk75 S75 B75 H75 G75 rfl ⟨by decide, rfl⟩ W75
  have N75 := Fr.snoc X75 N0 g_b74
  obtain ⟨cl76, Ar76, qk76, S76, B76, H76, G76⟩ := id V75
  have hin76 : ¬ ((1 : Int32) < 0 ∨ cl76.slots.size ≤ ((1 : Int32)).toNatClampNeg) := own_inb S76 ⟨by decide, rfl⟩ (by decide)
  obtain ⟨T76, h76, X76, e76, W76, st76⟩ := stI X75 hx hZ e75 Ar76 (j := (1 : Int32)) hin76 (g := (mkF m 60 #[.val (.int p0), .val (.int p1), .val (.int p2), .val (.int p3), .val (.int p4), .val (.int p5), .val (.int w.val.toInt32), .val (.int (3 : Int32)), .val (.int (0 : Int32)), .val (.int cc.val.toInt32), .unset, .unset, .unset, .unset, .unset] [(.int p1), (.int (1 : Int32)), (.ref b74), (.ref b74)])) rfl rfl (hb hby at_60)
  have V76 := own_set Ar76 qk76 S76 B76 H76 G76 rfl ⟨by decide, rfl⟩ W76
  have N76 := Fr.snoc X76 N75 g_b74
  obtain ⟨cl77, Ar77, qk77, S77, B77, H77, G77⟩ := id V76
  have hin77 : ¬ ((2 : Int32) < 0 ∨ cl77.slots.size ≤ ((2 : Int32)).toNatClampNeg) := own_inb S77 ⟨by decide, rfl⟩ (by decide)
  obtain ⟨T77, h77, X77, e77, W77, st77⟩ := stI X76 hx hZ e76 Ar77 (j := (2 : Int32)) hin77 (g := (mkF m 64 #[.val (.int p0), .val (.int p1), .val (.int p2), .val (.int p3), .val (.int p4), .val (.int p5), .val (.int w.val.toInt32), .val (.int (3 : Int32)), .val (.int (0 : Int32)), .val (.int cc.val.toInt32), .unset, .unset, .unset, .unset, .unset] [(.int p2), (.int (2 : Int32)), (.ref b74), (.ref b74)])) rfl rfl (hb hby at_64)
  have V77 := own_set Ar77 qk77 S77 B77 H77 G77 rfl ⟨by decide, rfl⟩ W77
  have N77 := Fr.snoc X77 N76 g_b74
  obtain ⟨T78, h78, k78, X78, e78, E78, A78, st78⟩ := newP X77 hx hZ (hw _ (List.mem_of_getElem? (i := 0) rfl)) e77 (g := (mkF m 68 #[.val (.int p0), .val (.int p1), .val (.int p2), .val (.int p3), .val (.int p4), .val (.int p5), .val (.int w.val.toInt32), .val (.int (3 : Int32)), .val (.int (0 : Int32)), .val (.int cc.val.toInt32), .val (.ref b74), .unset, .unset, .unset, .unset] [(.int (3 : Int32))])) rfl (hb hby at_68) rfl (by decide) (cap := 3) (by decide) (by decide) (by decide) (by decide)
  obtain ⟨b78, g78⟩ : ∃ z, z = h77.size := ⟨_, rfl⟩
  rw [← g78] at A78 st78
  have g_b78 : n0 ≤ b78 := Nat.le_trans (Nat.le_trans (Nat.le_trans (Nat.le_trans (Nat.le_trans Z0 E74.1) (Keep.of_wr W75).1) (Keep.of_wr W76).1) (Keep.of_wr W77).1) (Nat.le_of_eq g78.symm)
  have lt_b74_b78 : b74 < b78 := Nat.lt_of_lt_of_eq V77.lt g78.symm
  have V78 := Arf.new (n := 3) A78 (by decide) rfl
  obtain ⟨cl79, Ar79, qk79, S79, B79, H79, G79⟩ := id V78
  have hin79 : ¬ ((0 : Int32) < 0 ∨ cl79.slots.size ≤ ((0 : Int32)).toNatClampNeg) := own_inb S79 ⟨by decide, rfl⟩ (by decide)
  obtain ⟨T79, h79, X79, e79, W79, st79⟩ := stI X78 hx hZ e78 Ar79 (j := (0 : Int32)) hin79 (g := (mkF m 73 #[.val (.int p0), .val (.int p1), .val (.int p2), .val (.int p3), .val (.int p4), .val (.int p5), .val (.int w.val.toInt32), .val (.int (3 : Int32)), .val (.int (0 : Int32)), .val (.int cc.val.toInt32), .val (.ref b74), .unset, .unset, .unset, .unset] [(.int p3), (.int (0 : Int32)), (.ref b78), (.ref b78)])) rfl rfl (hb hby at_73)
  have V79 := own_set Ar79 qk79 S79 B79 H79 G79 rfl ⟨by decide, rfl⟩ W79
  have N79 := Fr.snoc X79 N77 g_b78
  obtain ⟨cl80, Ar80, qk80, S80, B80, H80, G80⟩ := id V79
  have hin80 : ¬ ((1 : Int32) < 0 ∨ cl80.slots.size ≤ ((1 : Int32)).toNatClampNeg) := own_inb S80 ⟨by decide, rfl⟩ (by decide)
  obtain ⟨T80, h80, X80, e80, W80, st80⟩ := stI X79 hx hZ e79 Ar80 (j := (1 : Int32)) hin80 (g := (mkF m 78 #[.val (.int p0), .val (.int p1), .val (.int p2), .val (.int p3), .val (.int p4), .val (.int p5), .val (.int w.val.toInt32), .val (.int (3 : Int32)), .val (.int (0 : Int32)), .val (.int cc.val.toInt32), .val (.ref b74), .unset, .unset, .unset, .unset] [(.int p4), (.int (1 : Int32)), (.ref b78), (.ref b78)])) rfl rfl (hb hby at_78)
  have V80 := own_set Ar80 qk80 S80 B80 H80 G80 rfl ⟨by decide, rfl⟩ W80
  have N80 := Fr.snoc X80 N79 g_b78
  obtain ⟨cl81, Ar81, qk81, S81, B81, H81, G81⟩ := id V80
  have hin81 : ¬ ((2 : Int32) < 0 ∨ cl81.slots.size ≤ ((2 : Int32)).toNatClampNeg) := own_inb S81 ⟨by decide, rfl⟩ (by decide)
  obtain ⟨T81, h81, X81, e81, W81, st81⟩ := stI X80 hx hZ e80 Ar81 (j := (2 : Int32)) hin81 (g := (mkF m 84 #[.val (.int p0), .val (.int p1), .val (.int p2), .val (.int p3), .val (.int p4), .val (.int p5), .val (.int w.val.toInt32), .val (.int (3 : Int32)), .val (.int (0 : Int32)), .val (.int cc.val.toInt32), .val (.ref b74), .unset, .unset, .unset, .unset] [(.int (p0 ^^^ (-1 : Int32))), (.int (2 : Int32)), (.ref b78), (.ref b78)])) rfl rfl (hb hby at_84)
  have V81 := own_set Ar81 qk81 S81 B81 H81 G81 rfl ⟨by decide, rfl⟩ W81
  have N81 := Fr.snoc X81 N80 g_b78
  obtain ⟨T82, h82, k82, X82, e82, E82, A82, st82⟩ := newP X81 hx hZ (hw _ (List.mem_of_getElem? (i := 0) rfl)) e81 (g := (mkF m 88 #[.val (.int p0), .val (.int p1), .val (.int p2), .val (.int p3), .val (.int p4), .val (.int p5), .val (.int w.val.toInt32), .val (.int (3 : Int32)), .val (.int (0 : Int32)), .val (.int cc.val.toInt32), .val (.ref b74), .val (.ref b78), .unset, .unset, .unset] [(.int (3 : Int32))])) rfl (hb hby at_88) rfl (by decide) (cap := 3) (by decide) (by decide) (by decide) (by decide)
  obtain ⟨b82, g82⟩ : ∃ z, z = h81.size := ⟨_, rfl⟩
  rw [← g82] at A82 st82
  have g_b82 : n0 ≤ b82 := Nat.le_trans (Nat.le_trans (Nat.le_trans (Nat.le_trans (Nat.le_trans (Nat.le_trans (Nat.le_trans (Nat.le_trans (Nat.le_trans Z0 E74.1) (Keep.of_wr W75).1) (Keep.of_wr W76).1) (Keep.of_wr W77).1) E78.1) (Keep.of_wr W79).1) (Keep.of_wr W80).1) (Keep.of_wr W81).1) (Nat.le_of_eq g82.symm)
  have lt_b74_b82 : b74 < b82 := Nat.lt_of_lt_of_eq ((((V77.ext E78).other W79 (Nat.ne_of_lt lt_b74_b78)).other W80 (Nat.ne_of_lt lt_b74_b78)).other W81 (Nat.ne_of_lt lt_b74_b78)).lt g82.symm
  have lt_b78_b82 : b78 < b82 := Nat.lt_of_lt_of_eq V81.lt g82.symm
  have V82 := Arf.new (n := 3) A82 (by decide) rfl
  obtain ⟨cl83, Ar83, qk83, S83, B83, H83, G83⟩ := id V82
  have hin83 : ¬ ((0 : Int32) < 0 ∨ cl83.slots.size ≤ ((0 : Int32)).toNatClampNeg) := own_inb S83 ⟨by decide, rfl⟩ (by decide)
  obtain ⟨T83, h83, X83, e83, W83, st83⟩ := stI X82 hx hZ e82 Ar83 (j := (0 : Int32)) hin83 (g := (mkF m 95 #[.val (.int p0), .val (.int p1), .val (.int p2), .val (.int p3), .val (.int p4), .val (.int p5), .val (.int w.val.toInt32), .val (.int (3 : Int32)), .val (.int (0 : Int32)), .val (.int cc.val.toInt32), .val (.ref b74), .val (.ref b78), .unset, .unset, .unset] [(.int (p1 ^^^ (-1 : Int32))), (.int (0 : Int32)), (.ref b82), (.ref b82)])) rfl rfl (hb hby at_95)
  have V83 := own_set Ar83 qk83 S83 B83 H83 G83 rfl ⟨by decide, rfl⟩ W83
  have N83 := Fr.snoc X83 N81 g_b82
  obtain ⟨cl84, Ar84, qk84, S84, B84, H84, G84⟩ := id V83
  have hin84 : ¬ ((1 : Int32) < 0 ∨ cl84.slots.size ≤ ((1 : Int32)).toNatClampNeg) := own_inb S84 ⟨by decide, rfl⟩ (by decide)
  obtain ⟨T84, h84, X84, e84, W84, st84⟩ := stI X83 hx hZ e83 Ar84 (j := (1 : Int32)) hin84 (g := (mkF m 101 #[.val (.int p0), .val (.int p1), .val (.int p2), .val (.int p3), .val (.int p4), .val (.int p5), .val (.int w.val.toInt32), .val (.int (3 : Int32)), .val (.int (0 : Int32)), .val (.int cc.val.toInt32), .val (.ref b74), .val (.ref b78), .unset, .unset, .unset] [(.int (p2 ^^^ (-1 : Int32))), (.int (1 : Int32)), (.ref b82), (.ref b82)])) rfl rfl (hb hby at_101)
  have V84 := own_set Ar84 qk84 S84 B84 H84 G84 rfl ⟨by decide, rfl⟩ W84
  have N84 := Fr.snoc X84 N83 g_b82
  obtain ⟨cl85, Ar85, qk85, S85, B85, H85, G85⟩ := id V84
  have hin85 : ¬ ((2 : Int32) < 0 ∨ cl85.slots.size ≤ ((2 : Int32)).toNatClampNeg) := own_inb S85 ⟨by decide, rfl⟩ (by decide)
  obtain ⟨T85, h85, X85, e85, W85, st85⟩ := stI X84 hx hZ e84 Ar85 (j := (2 : Int32)) hin85 (g := (mkF m 107 #[.val (.int p0), .val (.int p1), .val (.int p2), .val (.int p3), .val (.int p4), .val (.int p5), .val (.int w.val.toInt32), .val (.int (3 : Int32)), .val (.int (0 : Int32)), .val (.int cc.val.toInt32), .val (.ref b74), .val (.ref b78), .unset, .unset, .unset] [(.int (p3 ^^^ (-1 : Int32))), (.int (2 : Int32)), (.ref b82), (.ref b82)])) rfl rfl (hb hby at_107)
  have V85 := own_set Ar85 qk85 S85 B85 H85 G85 rfl ⟨by decide, rfl⟩ W85
  have N85 := Fr.snoc X85 N84 g_b82
  obtain ⟨T86, h86, X86, e86, E86, A86, D86, -, st86⟩ := newO X85 hx hZ hown (hw _ (List.mem_of_getElem? (i := 1) rfl)) (hw _ (List.mem_of_getElem? (i := 2) rfl)) (hw _ (List.mem_of_getElem? (i := 3) rfl)) e85 (g := (mkF m 110 #[.val (.int p0), .val (.int p1), .val (.int p2), .val (.int p3), .val (.int p4), .val (.int p5), .val (.int w.val.toInt32), .val (.int (3 : Int32)), .val (.int (0 : Int32)), .val (.int cc.val.toInt32), .val (.ref b74), .val (.ref b78), .val (.ref b82), .unset, .unset] [])) rfl (hb hby at_110) (by decide) (by decide)
  obtain ⟨b86, g86⟩ : ∃ z, z = h85.size := ⟨_, rfl⟩
  rw [← g86] at A86 D86 st86
  have g_b86 : n0 ≤ b86 := Nat.le_trans (Nat.le_trans (Nat.le_trans (Nat.le_trans (Nat.le_trans (Nat.le_trans (Nat.le_trans (Nat.le_trans (Nat.le_trans (Nat.le_trans (Nat.le_trans (Nat.le_trans (Nat.le_trans Z0 E74.1) (Keep.of_wr W75).1) (Keep.of_wr W76).1) (Keep.of_wr W77).1) E78.1) (Keep.of_wr W79).1) (Keep.of_wr W80).1) (Keep.of_wr W81).1) E82.1) (Keep.of_wr W83).1) (Keep.of_wr W84).1) (Keep.of_wr W85).1) (Nat.le_of_eq g86.symm)
  have lt_b74_b86 : b74 < b86 := Nat.lt_of_lt_of_eq ((((((((V77.ext E78).other W79 (Nat.ne_of_lt lt_b74_b78)).other W80 (Nat.ne_of_lt lt_b74_b78)).other W81 (Nat.ne_of_lt lt_b74_b78)).ext E82).other W83 (Nat.ne_of_lt lt_b74_b82)).other W84 (Nat.ne_of_lt lt_b74_b82)).other W85 (Nat.ne_of_lt lt_b74_b82)).lt g86.symm
  have lt_b78_b86 : b78 < b86 := Nat.lt_of_lt_of_eq ((((V81.ext E82).other W83 (Nat.ne_of_lt lt_b78_b82)).other W84 (Nat.ne_of_lt lt_b78_b82)).other W85 (Nat.ne_of_lt lt_b78_b82)).lt g86.symm
  have lt_b82_b86 : b82 < b86 := Nat.lt_of_lt_of_eq V85.lt g86.symm
  have F86_width : Fld Z h86 b86 "com/example/factwell/factwell/pql/Rows" "width" "I" (.int (0 : Int32)) := D86 (Or.inr (hw _ (List.mem_of_getElem? (i := 14) rfl))) (ty := .int) (by decide)
  have F86_mayRepeat : Fld Z h86 b86 "com/example/factwell/factwell/pql/Rows" "mayRepeat" "Z" (.int (0 : Int32)) := D86 (Or.inr (hw _ (List.mem_of_getElem? (i := 16) rfl))) (ty := .boolean) (by decide)
  have F86_cells : Fld Z h86 b86 "com/example/factwell/factwell/pql/Rows" "cells" "[I" .null := D86 (Or.inl (hw _ (List.mem_of_getElem? (i := 18) rfl))) (ty := (.array .int)) (by decide)
  have F86_count : Fld Z h86 b86 "com/example/factwell/factwell/pql/Rows" "count" "I" (.int (0 : Int32)) := D86 (Or.inl (hw _ (List.mem_of_getElem? (i := 25) rfl))) (ty := .int) (by decide)
  obtain ⟨_, _, ⟨T87, L87, k87, n87⟩, -, X87, ⟨Lc87, hQ87, l87, y87, z87⟩, st87⟩ := X86.specialBack hx (y := (⟨"com/example/factwell/factwell/pql/Rows", "<init>", "(I)V"⟩ : MethodName)) rfl hown (mvT hZ (hw _ (List.mem_of_getElem? (i := 4) rfl))) (mvT hZ (hw _ (List.mem_of_getElem? (i := 5) rfl))) (mvT hZ (hw _ (List.mem_of_getElem? (i := 6) rfl))) (by decide) (backOf (W := 1) (own_i1 l Z a0 hw [] b86 w.val.toInt32 (8 * w.val) h86 n0 (Nat.le_trans (Nat.le_trans (Nat.le_trans (Nat.le_trans (Nat.le_trans (Nat.le_trans (Nat.le_trans (Nat.le_trans (Nat.le_trans (Nat.le_trans (Nat.le_trans (Nat.le_trans (Nat.le_trans Z0 E74.1) (Keep.of_wr W75).1) (Keep.of_wr W76).1) (Keep.of_wr W77).1) E78.1) (Keep.of_wr W79).1) (Keep.of_wr W80).1) (Keep.of_wr W81).1) E82.1) (Keep.of_wr W83).1) (Keep.of_wr W84).1) (Keep.of_wr W85).1) E86.1) (own_neg w) (own_cap w) (own_z w) A86 F86_width F86_mayRepeat F86_cells F86_count g_b86) hZ (hw _ (List.mem_of_getElem? (i := 6) rfl)) (hw _ (List.mem_of_getElem? (i := 3) rfl)) (by decide) (by decide)) (g := (mkF m 116 #[.val (.int p0), .val (.int p1), .val (.int p2), .val (.int p3), .val (.int p4), .val (.int p5), .val (.int w.val.toInt32), .val (.int (3 : Int32)), .val (.int (0 : Int32)), .val (.int cc.val.toInt32), .val (.ref b74), .val (.ref b78), .val (.ref b82), .unset, .unset] [(.int w.val.toInt32), (.ref b86), (.ref b86)])) rfl (by rw [hml]; rfl) (Steps.refl _) (a := b86) (argsL := [(.int w.val.toInt32)]) (rest := [(.ref b86)]) (lenOf pd_1 rfl) rfl (by show 2 * 0 + _ ≤ _; exact Nat.le_of_eq rfl) (hb hby at_116) (fun _ _ => ⟨rfl, e86, (by decide : 4 + 1 ≤ _), (by decide : 13 + 24 ≤ _)⟩)
  dsimp only [Pt.U, Pt.locs, Pt.cells, Pt.slots] at X87 l87 y87 z87 st87 hQ87
  subst l87 y87 z87
  obtain ⟨rfl, N87q, ac, kc, ⟨g_ac, l1, gh⟩, K87, E_, F_w, F_c, F_n, V_c⟩ := hQ87
  have N87 := Fr.app N85 N87q
  have lt_b86_ac : ∀ x, x < h86.size → x < ac := fun x q => Nat.lt_of_lt_of_le q gh
  obtain ⟨cq88, kq88, q88a, q88b, q88c⟩ := isOf hZ rfl E_
  obtain ⟨_, _, ⟨T88, L88, k88, n88⟩, -, X88, ⟨Lc88, hQ88, l88, y88, z88⟩, st88⟩ := X87.virtualBack hx (y := (⟨"com/example/factwell/factwell/pql/Rows", "add", "([I)V"⟩ : MethodName)) (z := (⟨"com/example/factwell/factwell/pql/Rows", "add", "([I)V"⟩ : MethodName)) hown (mvT hZ (hw _ (List.mem_of_getElem? (i := 19) rfl))) (mvT hZ (hw _ (List.mem_of_getElem? (i := 20) rfl))) (notFace_of_selects (args := #[]) (mvT hZ (hw _ (List.mem_of_getElem? (i := 22) rfl)))) (mvT hZ (hw _ (List.mem_of_getElem? (i := 22) rfl))) (mvT hZ (hw _ (List.mem_of_getElem? (i := 21) rfl))) (by decide) (backOf (W := 0) (own_add l Z a0 hw [] b86 b74 0 w ac kc k74 (fun _ => Value.int 0) (upd (upd (upd (fun _ => (.int 0)) 0 (.int p0)) 1 (.int p1)) 2 (.int p2)) T87.heap n0 (Nat.le_trans (Nat.le_trans (Nat.le_trans (Nat.le_trans (Nat.le_trans (Nat.le_trans (Nat.le_trans (Nat.le_trans (Nat.le_trans (Nat.le_trans (Nat.le_trans (Nat.le_trans (Nat.le_trans (Nat.le_trans Z0 E74.1) (Keep.of_wr W75).1) (Keep.of_wr W76).1) (Keep.of_wr W77).1) E78.1) (Keep.of_wr W79).1) (Keep.of_wr W80).1) (Keep.of_wr W81).1) E82.1) (Keep.of_wr W83).1) (Keep.of_wr W84).1) (Keep.of_wr W85).1) E86.1) K87.1) g_b86 g_ac l1 (Nat.ne_of_lt (lt_b86_ac _ (((((((((V77.ext E78).other W79 (Nat.ne_of_lt lt_b74_b78)).other W80 (Nat.ne_of_lt lt_b74_b78)).other W81 (Nat.ne_of_lt lt_b74_b78)).ext E82).other W83 (Nat.ne_of_lt lt_b74_b82)).other W84 (Nat.ne_of_lt lt_b74_b82)).other W85 (Nat.ne_of_lt lt_b74_b82)).ext E86).lt)) (Nat.ne_of_lt lt_b74_b86) E_ F_w F_c F_n V_c ((((((((((V77.ext E78).other W79 (Nat.ne_of_lt lt_b74_b78)).other W80 (Nat.ne_of_lt lt_b74_b78)).other W81 (Nat.ne_of_lt lt_b74_b78)).ext E82).other W83 (Nat.ne_of_lt lt_b74_b82)).other W84 (Nat.ne_of_lt lt_b74_b82)).other W85 (Nat.ne_of_lt lt_b74_b82)).ext E86).keep K87 (ninS (Nat.ne_of_lt lt_b74_b86) nin0))) hZ (hw _ (List.mem_of_getElem? (i := 23) rfl)) (hw _ (List.mem_of_getElem? (i := 3) rfl)) (by decide) (by decide)) q88a q88c (g := (mkF m 125 #[.val (.int p0), .val (.int p1), .val (.int p2), .val (.int p3), .val (.int p4), .val (.int p5), .val (.int w.val.toInt32), .val (.int (3 : Int32)), .val (.int (0 : Int32)), .val (.int cc.val.toInt32), .val (.ref b74), .val (.ref b78), .val (.ref b82), .val (.ref b86), .unset] [(.ref b74), (.ref b86)])) rfl (by rw [hml]; rfl) (Steps.refl _) (argsL := [(.ref b74)]) (rest := []) (lenOf pd_2 rfl) rfl (by show 2 * 0 + _ ≤ _; exact Nat.le_of_eq rfl) (hb hby at_125) (fun _ _ => ⟨rfl, rfl, (by decide : 5 + 0 ≤ _), (by decide : 37 + 0 ≤ _)⟩)
  dsimp only [Pt.U, Pt.locs, Pt.cells, Pt.slots] at X88 l88 y88 z88 st88 hQ88
  subst l88 y88 z88
  obtain ⟨rfl, N88q, K88, E_0, F_w0, F_c0, F_n0, V_c0⟩ := hQ88
  have N88 := Fr.app N87 N88q
  obtain ⟨cq89, kq89, q89a, q89b, q89c⟩ := isOf hZ rfl E_0
  obtain ⟨_, _, ⟨T89, L89, k89, n89⟩, -, X89, ⟨Lc89, hQ89, l89, y89, z89⟩, st89⟩ := X88.virtualBack hx (y := (⟨"com/example/factwell/factwell/pql/Rows", "add", "([I)V"⟩ : MethodName)) (z := (⟨"com/example/factwell/factwell/pql/Rows", "add", "([I)V"⟩ : MethodName)) hown (mvT hZ (hw _ (List.mem_of_getElem? (i := 19) rfl))) (mvT hZ (hw _ (List.mem_of_getElem? (i := 20) rfl))) (notFace_of_selects (args := #[]) (mvT hZ (hw _ (List.mem_of_getElem? (i := 22) rfl)))) (mvT hZ (hw _ (List.mem_of_getElem? (i := 22) rfl))) (mvT hZ (hw _ (List.mem_of_getElem? (i := 21) rfl))) (by decide) (backOf (W := 0) (own_add l Z a0 hw [] b86 b78 1 w ac kc k78 (fun j => if (0 * w.val) ≤ j ∧ j < (0 * w.val) + w.val then (upd (upd (upd (fun _ => (.int 0)) 0 (.int p0)) 1 (.int p1)) 2 (.int p2)) (0 + (j - (0 * w.val))) else (fun _ => Value.int 0) j) (upd (upd (upd (fun _ => (.int 0)) 0 (.int p3)) 1 (.int p4)) 2 (.int (p0 ^^^ (-1 : Int32)))) T88.heap n0 (Nat.le_trans (Nat.le_trans (Nat.le_trans (Nat.le_trans (Nat.le_trans (Nat.le_trans (Nat.le_trans (Nat.le_trans (Nat.le_trans (Nat.le_trans (Nat.le_trans (Nat.le_trans (Nat.le_trans (Nat.le_trans (Nat.le_trans Z0 E74.1) (Keep.of_wr W75).1) (Keep.of_wr W76).1) (Keep.of_wr W77).1) E78.1) (Keep.of_wr W79).1) (Keep.of_wr W80).1) (Keep.of_wr W81).1) E82.1) (Keep.of_wr W83).1) (Keep.of_wr W84).1) (Keep.of_wr W85).1) E86.1) K87.1) K88.1) g_b86 g_ac l1 (Nat.ne_of_lt (lt_b86_ac _ (((((V81.ext E82).other W83 (Nat.ne_of_lt lt_b78_b82)).other W84 (Nat.ne_of_lt lt_b78_b82)).other W85 (Nat.ne_of_lt lt_b78_b82)).ext E86).lt)) (Nat.ne_of_lt lt_b78_b86) E_0 F_w0 F_c0 F_n0 V_c0 (((((((V81.ext E82).other W83 (Nat.ne_of_lt lt_b78_b82)).other W84 (Nat.ne_of_lt lt_b78_b82)).other W85 (Nat.ne_of_lt lt_b78_b82)).ext E86).keep K87 (ninS (Nat.ne_of_lt lt_b78_b86) nin0)).keep K88 (ninS (Nat.ne_of_lt lt_b78_b86) (ninS (Nat.ne_of_lt (lt_b86_ac _ (((((V81.ext E82).other W83 (Nat.ne_of_lt lt_b78_b82)).other W84 (Nat.ne_of_lt lt_b78_b82)).other W85 (Nat.ne_of_lt lt_b78_b82)).ext E86).lt)) nin0)))) hZ (hw _ (List.mem_of_getElem? (i := 23) rfl)) (hw _ (List.mem_of_getElem? (i := 3) rfl)) (by decide) (by decide)) q89a q89c (g := (mkF m 138 #[.val (.int p0), .val (.int p1), .val (.int p2), .val (.int p3), .val (.int p4), .val (.int p5), .val (.int w.val.toInt32), .val (.int (3 : Int32)), .val (.int (0 : Int32)), .val (.int cc.val.toInt32), .val (.ref b74), .val (.ref b78), .val (.ref b82), .val (.ref b86), .unset] [(.ref b78), (.ref b86)])) rfl (by rw [hml]; rfl) (Steps.refl _) (argsL := [(.ref b78)]) (rest := []) (lenOf pd_2 rfl) rfl (by show 2 * 0 + _ ≤ _; exact Nat.le_of_eq rfl) (hb hby at_138) (fun _ _ => ⟨rfl, rfl, (by decide : 5 + 0 ≤ _), (by decide : 37 + 0 ≤ _)⟩)
  dsimp only [Pt.U, Pt.locs, Pt.cells, Pt.slots] at X89 l89 y89 z89 st89 hQ89
  subst l89 y89 z89
  obtain ⟨rfl, N89q, K89, E_1, F_w1, F_c1, F_n1, V_c1⟩ := hQ89
  have N89 := Fr.app N88 N89q
  obtain ⟨cq90, kq90, q90a, q90b, q90c⟩ := isOf hZ rfl E_1
  obtain ⟨_, _, ⟨T90, L90, k90, n90⟩, -, X90, ⟨Lc90, hQ90, l90, y90, z90⟩, st90⟩ := X89.virtualBack hx (y := (⟨"com/example/factwell/factwell/pql/Rows", "add", "([I)V"⟩ : MethodName)) (z := (⟨"com/example/factwell/factwell/pql/Rows", "add", "([I)V"⟩ : MethodName)) hown (mvT hZ (hw _ (List.mem_of_getElem? (i := 19) rfl))) (mvT hZ (hw _ (List.mem_of_getElem? (i := 20) rfl))) (notFace_of_selects (args := #[]) (mvT hZ (hw _ (List.mem_of_getElem? (i := 22) rfl)))) (mvT hZ (hw _ (List.mem_of_getElem? (i := 22) rfl))) (mvT hZ (hw _ (List.mem_of_getElem? (i := 21) rfl))) (by decide) (backOf (W := 0) (own_add l Z a0 hw [] b86 b82 2 w ac kc k82 (fun j => if (1 * w.val) ≤ j ∧ j < (1 * w.val) + w.val then (upd (upd (upd (fun _ => (.int 0)) 0 (.int p3)) 1 (.int p4)) 2 (.int (p0 ^^^ (-1 : Int32)))) (0 + (j - (1 * w.val))) else (fun j => if (0 * w.val) ≤ j ∧ j < (0 * w.val) + w.val then (upd (upd (upd (fun _ => (.int 0)) 0 (.int p0)) 1 (.int p1)) 2 (.int p2)) (0 + (j - (0 * w.val))) else (fun _ => Value.int 0) j) j) (upd (upd (upd (fun _ => (.int 0)) 0 (.int (p1 ^^^ (-1 : Int32)))) 1 (.int (p2 ^^^ (-1 : Int32)))) 2 (.int (p3 ^^^ (-1 : Int32)))) T89.heap n0 (Nat.le_trans (Nat.le_trans (Nat.le_trans (Nat.le_trans (Nat.le_trans (Nat.le_trans (Nat.le_trans (Nat.le_trans (Nat.le_trans (Nat.le_trans (Nat.le_trans (Nat.le_trans (Nat.le_trans (Nat.le_trans (Nat.le_trans (Nat.le_trans Z0 E74.1) (Keep.of_wr W75).1) (Keep.of_wr W76).1) (Keep.of_wr W77).1) E78.1) (Keep.of_wr W79).1) (Keep.of_wr W80).1) (Keep.of_wr W81).1) E82.1) (Keep.of_wr W83).1) (Keep.of_wr W84).1) (Keep.of_wr W85).1) E86.1) K87.1) K88.1) K89.1) g_b86 g_ac l1 (Nat.ne_of_lt (lt_b86_ac _ (V85.ext E86).lt)) (Nat.ne_of_lt lt_b82_b86) E_1 F_w1 F_c1 F_n1 V_c1 ((((V85.ext E86).keep K87 (ninS (Nat.ne_of_lt lt_b82_b86) nin0)).keep K88 (ninS (Nat.ne_of_lt lt_b82_b86) (ninS (Nat.ne_of_lt (lt_b86_ac _ (V85.ext E86).lt)) nin0))).keep K89 (ninS (Nat.ne_of_lt lt_b82_b86) (ninS (Nat.ne_of_lt (lt_b86_ac _ (V85.ext E86).lt)) nin0)))) hZ (hw _ (List.mem_of_getElem? (i := 23) rfl)) (hw _ (List.mem_of_getElem? (i := 3) rfl)) (by decide) (by decide)) q90a q90c (g := (mkF m 151 #[.val (.int p0), .val (.int p1), .val (.int p2), .val (.int p3), .val (.int p4), .val (.int p5), .val (.int w.val.toInt32), .val (.int (3 : Int32)), .val (.int (0 : Int32)), .val (.int cc.val.toInt32), .val (.ref b74), .val (.ref b78), .val (.ref b82), .val (.ref b86), .unset] [(.ref b82), (.ref b86)])) rfl (by rw [hml]; rfl) (Steps.refl _) (argsL := [(.ref b82)]) (rest := []) (lenOf pd_2 rfl) rfl (by show 2 * 0 + _ ≤ _; exact Nat.le_of_eq rfl) (hb hby at_151) (fun _ _ => ⟨rfl, rfl, (by decide : 5 + 0 ≤ _), (by decide : 37 + 0 ≤ _)⟩)
  dsimp only [Pt.U, Pt.locs, Pt.cells, Pt.slots] at X90 l90 y90 z90 st90 hQ90
  subst l90 y90 z90
  obtain ⟨rfl, N90q, K90, E_2, F_w2, F_c2, F_n2, V_c2⟩ := hQ90
  have N90 := Fr.app N89 N90q
  obtain ⟨cl91, Ar91, qk91, S91, B91, H91, G91⟩ := id (((((((((((((V77.ext E78).other W79 (Nat.ne_of_lt lt_b74_b78)).other W80 (Nat.ne_of_lt lt_b74_b78)).other W81 (Nat.ne_of_lt lt_b74_b78)).ext E82).other W83 (Nat.ne_of_lt lt_b74_b82)).other W84 (Nat.ne_of_lt lt_b74_b82)).other W85 (Nat.ne_of_lt lt_b74_b82)).ext E86).keep K87 (ninS (Nat.ne_of_lt lt_b74_b86) nin0)).keep K88 (ninS (Nat.ne_of_lt lt_b74_b86) (ninS (Nat.ne_of_lt (lt_b86_ac _ (((((((((V77.ext E78).other W79 (Nat.ne_of_lt lt_b74_b78)).other W80 (Nat.ne_of_lt lt_b74_b78)).other W81 (Nat.ne_of_lt lt_b74_b78)).ext E82).other W83 (Nat.ne_of_lt lt_b74_b82)).other W84 (Nat.ne_of_lt lt_b74_b82)).other W85 (Nat.ne_of_lt lt_b74_b82)).ext E86).lt)) nin0))).keep K89 (ninS (Nat.ne_of_lt lt_b74_b86) (ninS (Nat.ne_of_lt (lt_b86_ac _ (((((((((V77.ext E78).other W79 (Nat.ne_of_lt lt_b74_b78)).other W80 (Nat.ne_of_lt lt_b74_b78)).other W81 (Nat.ne_of_lt lt_b74_b78)).ext E82).other W83 (Nat.ne_of_lt lt_b74_b82)).other W84 (Nat.ne_of_lt lt_b74_b82)).other W85 (Nat.ne_of_lt lt_b74_b82)).ext E86).lt)) nin0))).keep K90 (ninS (Nat.ne_of_lt lt_b74_b86) (ninS (Nat.ne_of_lt (lt_b86_ac _ (((((((((V77.ext E78).other W79 (Nat.ne_of_lt lt_b74_b78)).other W80 (Nat.ne_of_lt lt_b74_b78)).other W81 (Nat.ne_of_lt lt_b74_b78)).ext E82).other W83 (Nat.ne_of_lt lt_b74_b82)).other W84 (Nat.ne_of_lt lt_b74_b82)).other W85 (Nat.ne_of_lt lt_b74_b82)).ext E86).lt)) nin0)))
  have hin91 : ¬ (cc.val.toInt32 < 0 ∨ cl91.slots.size ≤ (cc.val.toInt32).toNatClampNeg) := own_inb S91 (own_cix cc) cc.isLt
  have hat91 : cl91.slots[(cc.val.toInt32).toNatClampNeg]? = some (.int (own_x (upd (upd (upd (fun _ => (.int 0)) 0 (.int p0)) 1 (.int p1)) 2 (.int p2)) cc.val)) := own_hat H91 (own_cix cc) cc.isLt (own_three rfl rfl rfl cc)
  have hv_ : (fun j => if (2 * w.val) ≤ j ∧ j < (2 * w.val) + w.val then (upd (upd (upd (fun _ => (.int 0)) 0 (.int (p1 ^^^ (-1 : Int32)))) 1 (.int (p2 ^^^ (-1 : Int32)))) 2 (.int (p3 ^^^ (-1 : Int32)))) (0 + (j - (2 * w.val))) else (fun j => if (1 * w.val) ≤ j ∧ j < (1 * w.val) + w.val then (upd (upd (upd (fun _ => (.int 0)) 0 (.int p3)) 1 (.int p4)) 2 (.int (p0 ^^^ (-1 : Int32)))) (0 + (j - (1 * w.val))) else (fun j => if (0 * w.val) ≤ j ∧ j < (0 * w.val) + w.val then (upd (upd (upd (fun _ => (.int 0)) 0 (.int p0)) 1 (.int p1)) 2 (.int p2)) (0 + (j - (0 * w.val))) else (fun _ => Value.int 0) j) j) j) (0 * w.val + cc.val) = .int (own_x (upd (upd (upd (fun _ => (.int 0)) 0 (.int p0)) 1 (.int p1)) 2 (.int p2)) cc.val) := by
    rw [← own_three (x := p0) (y := p1) (z := p2) (f := (upd (upd (upd (fun _ => (.int 0)) 0 (.int p0)) 1 (.int p1)) 2 (.int p2))) rfl rfl rfl cc]
    show (if (2 * w.val) ≤ (0 * w.val + cc.val) ∧ (0 * w.val + cc.val) < (2 * w.val) + w.val then (upd (upd (upd (fun _ => (.int 0)) 0 (.int (p1 ^^^ (-1 : Int32)))) 1 (.int (p2 ^^^ (-1 : Int32)))) 2 (.int (p3 ^^^ (-1 : Int32)))) (0 + ((0 * w.val + cc.val) - (2 * w.val))) else (if (1 * w.val) ≤ (0 * w.val + cc.val) ∧ (0 * w.val + cc.val) < (1 * w.val) + w.val then (upd (upd (upd (fun _ => (.int 0)) 0 (.int p3)) 1 (.int p4)) 2 (.int (p0 ^^^ (-1 : Int32)))) (0 + ((0 * w.val + cc.val) - (1 * w.val))) else (if (0 * w.val) ≤ (0 * w.val + cc.val) ∧ (0 * w.val + cc.val) < (0 * w.val) + w.val then (upd (upd (upd (fun _ => (.int 0)) 0 (.int p0)) 1 (.int p1)) 2 (.int p2)) (0 + ((0 * w.val + cc.val) - (0 * w.val))) else Value.int 0))) = _
    rw [if_neg (by omega)]
    rw [if_neg (by omega)]
    rw [if_pos (by omega)]
    congr 1; omega
  obtain ⟨cq92, kq92, q92a, q92b, q92c⟩ := isOf hZ rfl E_2
  obtain ⟨_, _, ⟨T92, L92, k92, n92⟩, -, X92, ⟨Lc92, hQ92, l92, y92, z92⟩, st92⟩ := X90.virtualBack hx (y := (⟨"com/example/factwell/factwell/pql/Rows", "get", "(II)I"⟩ : MethodName)) (z := (⟨"com/example/factwell/factwell/pql/Rows", "get", "(II)I"⟩ : MethodName)) hown (mvT hZ (hw _ (List.mem_of_getElem? (i := 30) rfl))) (mvT hZ (hw _ (List.mem_of_getElem? (i := 31) rfl))) (notFace_of_selects (args := #[]) (mvT hZ (hw _ (List.mem_of_getElem? (i := 33) rfl)))) (mvT hZ (hw _ (List.mem_of_getElem? (i := 33) rfl))) (mvT hZ (hw _ (List.mem_of_getElem? (i := 32) rfl))) (by decide) (backOf (W := 0) (own_get l Z a0 hw [] b86 (0 : Int32) cc.val.toInt32 (own_x (upd (upd (upd (fun _ => (.int 0)) 0 (.int p0)) 1 (.int p1)) 2 (.int p2)) cc.val) (0 * w.val + cc.val) w ac kc (fun j => if (2 * w.val) ≤ j ∧ j < (2 * w.val) + w.val then (upd (upd (upd (fun _ => (.int 0)) 0 (.int (p1 ^^^ (-1 : Int32)))) 1 (.int (p2 ^^^ (-1 : Int32)))) 2 (.int (p3 ^^^ (-1 : Int32)))) (0 + (j - (2 * w.val))) else (fun j => if (1 * w.val) ≤ j ∧ j < (1 * w.val) + w.val then (upd (upd (upd (fun _ => (.int 0)) 0 (.int p3)) 1 (.int p4)) 2 (.int (p0 ^^^ (-1 : Int32)))) (0 + (j - (1 * w.val))) else (fun j => if (0 * w.val) ≤ j ∧ j < (0 * w.val) + w.val then (upd (upd (upd (fun _ => (.int 0)) 0 (.int p0)) 1 (.int p1)) 2 (.int p2)) (0 + (j - (0 * w.val))) else (fun _ => Value.int 0) j) j) j) T90.heap n0 (Nat.le_trans (Nat.le_trans (Nat.le_trans (Nat.le_trans (Nat.le_trans (Nat.le_trans (Nat.le_trans (Nat.le_trans (Nat.le_trans (Nat.le_trans (Nat.le_trans (Nat.le_trans (Nat.le_trans (Nat.le_trans (Nat.le_trans (Nat.le_trans (Nat.le_trans Z0 E74.1) (Keep.of_wr W75).1) (Keep.of_wr W76).1) (Keep.of_wr W77).1) E78.1) (Keep.of_wr W79).1) (Keep.of_wr W80).1) (Keep.of_wr W81).1) E82.1) (Keep.of_wr W83).1) (Keep.of_wr W84).1) (Keep.of_wr W85).1) E86.1) K87.1) K88.1) K89.1) K90.1) (own_gix 0 w cc) (own_lt 0 w cc hcw (by decide)) hv_ F_w2 F_c2 V_c2) hZ (hw _ (List.mem_of_getElem? (i := 34) rfl)) (hw _ (List.mem_of_getElem? (i := 3) rfl)) (by decide) (by decide)) q92a q92c (g := (mkF m 198 #[.val (.int p0), .val (.int p1), .val (.int p2), .val (.int p3), .val (.int p4), .val (.int p5), .val (.int w.val.toInt32), .val (.int (3 : Int32)), .val (.int (0 : Int32)), .val (.int cc.val.toInt32), .val (.ref b74), .val (.ref b78), .val (.ref b82), .val (.ref b86), .val (.int (own_x (upd (upd (upd (fun _ => (.int 0)) 0 (.int p0)) 1 (.int p1)) 2 (.int p2)) cc.val))] [(.int cc.val.toInt32), (.int (0 : Int32)), (.ref b86)])) rfl (by rw [hml]; rfl) (Steps.refl _) (argsL := [(.int (0 : Int32)), (.int cc.val.toInt32)]) (rest := []) (lenOf pd_3 rfl) rfl (by show 2 * 0 + _ ≤ _; exact Nat.le_of_eq rfl) (hb hby at_198) (fun _ _ => ⟨rfl, rfl, (by decide : 5 + 0 ≤ _), (by decide : 37 + 0 ≤ _)⟩)
  dsimp only [Pt.U, Pt.locs, Pt.cells, Pt.slots] at X92 l92 y92 z92 st92 hQ92
  subst l92 y92 z92
  obtain ⟨rfl, N92q, eh92⟩ := hQ92
  have N92 := Fr.app N90 N92q
  obtain ⟨fs, hr, hrun, hended, hW, hsame⟩ := X92.leave (v := some (.int (1 : Int32))) (fun h => by rw [Bd.returns] at h; cases h)
  refine ⟨_, _, pre0 _ ?_, hrun, hended, _, _, rfl, ?_, ⟨_, rfl⟩, hW, hsame.mono (by decide) (by decide)⟩
  · show Steps p.tables e below (s₁.setTop (mkF m 0 #[.val (.int p0), .val (.int p1), .val (.int p2), .val (.int p3), .val (.int p4), .val (.int p5), .unset, .unset, .unset, .unset, .unset, .unset, .unset, .unset, .unset] [])) _
    refine XS.iconst X0.here hx rfl (hb hby at_0) ?_
    show Steps p.tables e below (s₁.setTop (mkF m 1 #[.val (.int p0), .val (.int p1), .val (.int p2), .val (.int p3), .val (.int p4), .val (.int p5), .unset, .unset, .unset, .unset, .unset, .unset, .unset, .unset, .unset] [(.int (1 : Int32))])) _
    refine XS.iload X0.here hx rfl (hb hby at_1) rfl ?_
    show Steps p.tables e below (s₁.setTop (mkF m 3 #[.val (.int p0), .val (.int p1), .val (.int p2), .val (.int p3), .val (.int p4), .val (.int p5), .unset, .unset, .unset, .unset, .unset, .unset, .unset, .unset, .unset] [(.int p5), (.int (1 : Int32))])) _
    refine XS.bipush X0.here hx rfl (hb hby at_3) ?_
    show Steps p.tables e below (s₁.setTop (mkF m 5 #[.val (.int p0), .val (.int p1), .val (.int p2), .val (.int p3), .val (.int p4), .val (.int p5), .unset, .unset, .unset, .unset, .unset, .unset, .unset, .unset, .unset] [(.int (15 : Int32)), (.int p5), (.int (1 : Int32))])) _
    refine XS.iand X0.here hx rfl (hb hby at_5) rfl ?_
    show Steps p.tables e below (s₁.setTop (mkF m 6 #[.val (.int p0), .val (.int p1), .val (.int p2), .val (.int p3), .val (.int p4), .val (.int p5), .unset, .unset, .unset, .unset, .unset, .unset, .unset, .unset, .unset] [(.int (p5 &&& (15 : Int32))), (.int (1 : Int32))])) _
    refine XS.iconst X0.here hx rfl (hb hby at_6) ?_
    show Steps p.tables e below (s₁.setTop (mkF m 7 #[.val (.int p0), .val (.int p1), .val (.int p2), .val (.int p3), .val (.int p4), .val (.int p5), .unset, .unset, .unset, .unset, .unset, .unset, .unset, .unset, .unset] [(.int (3 : Int32)), (.int (p5 &&& (15 : Int32))), (.int (1 : Int32))])) _
    refine Jvm.RoadKit.iremM (g := (mkF m 7 #[.val (.int p0), .val (.int p1), .val (.int p2), .val (.int p3), .val (.int p4), .val (.int p5), .unset, .unset, .unset, .unset, .unset, .unset, .unset, .unset, .unset] [(.int (3 : Int32)), (.int (p5 &&& (15 : Int32))), (.int (1 : Int32))])) X0 hx rfl (hb hby at_7) rfl (by decide) ?_
    show Steps p.tables e below (s₁.setTop (mkF m 8 #[.val (.int p0), .val (.int p1), .val (.int p2), .val (.int p3), .val (.int p4), .val (.int p5), .unset, .unset, .unset, .unset, .unset, .unset, .unset, .unset, .unset] [(.int ((p5 &&& (15 : Int32)) % (3 : Int32))), (.int (1 : Int32))])) _
    refine XS.iadd X0.here hx rfl (hb hby at_8) rfl ?_
    show Steps p.tables e below (s₁.setTop (mkF m 9 #[.val (.int p0), .val (.int p1), .val (.int p2), .val (.int p3), .val (.int p4), .val (.int p5), .unset, .unset, .unset, .unset, .unset, .unset, .unset, .unset, .unset] [(.int ((1 : Int32) + ((p5 &&& (15 : Int32)) % (3 : Int32))))])) _
    rw [hW_]
    show Steps p.tables e below (s₁.setTop (mkF m 9 #[.val (.int p0), .val (.int p1), .val (.int p2), .val (.int p3), .val (.int p4), .val (.int p5), .unset, .unset, .unset, .unset, .unset, .unset, .unset, .unset, .unset] [(.int w.val.toInt32)])) _
    refine XS.istore X0.here hx rfl (hb hby at_9) rfl (l' := #[.val (.int p0), .val (.int p1), .val (.int p2), .val (.int p3), .val (.int p4), .val (.int p5), .val (.int w.val.toInt32), .unset, .unset, .unset, .unset, .unset, .unset, .unset, .unset]) rfl ?_
    show Steps p.tables e below (s₁.setTop (mkF m 11 #[.val (.int p0), .val (.int p1), .val (.int p2), .val (.int p3), .val (.int p4), .val (.int p5), .val (.int w.val.toInt32), .unset, .unset, .unset, .unset, .unset, .unset, .unset, .unset] [])) _
    refine XS.iconst X0.here hx rfl (hb hby at_11) ?_
    show Steps p.tables e below (s₁.setTop (mkF m 12 #[.val (.int p0), .val (.int p1), .val (.int p2), .val (.int p3), .val (.int p4), .val (.int p5), .val (.int w.val.toInt32), .unset, .unset, .unset, .unset, .unset, .unset, .unset, .unset] [(.int (1 : Int32))])) _
    refine XS.iload X0.here hx rfl (hb hby at_12) rfl ?_
    show Steps p.tables e below (s₁.setTop (mkF m 14 #[.val (.int p0), .val (.int p1), .val (.int p2), .val (.int p3), .val (.int p4), .val (.int p5), .val (.int w.val.toInt32), .unset, .unset, .unset, .unset, .unset, .unset, .unset, .unset] [(.int p5), (.int (1 : Int32))])) _
    refine XS.iconst X0.here hx rfl (hb hby at_14) ?_
    show Steps p.tables e below (s₁.setTop (mkF m 15 #[.val (.int p0), .val (.int p1), .val (.int p2), .val (.int p3), .val (.int p4), .val (.int p5), .val (.int w.val.toInt32), .unset, .unset, .unset, .unset, .unset, .unset, .unset, .unset] [(.int (4 : Int32)), (.int p5), (.int (1 : Int32))])) _
    refine XT.iushr X0.here hx rfl (hb hby at_15) rfl ?_
    show Steps p.tables e below (s₁.setTop (mkF m 16 #[.val (.int p0), .val (.int p1), .val (.int p2), .val (.int p3), .val (.int p4), .val (.int p5), .val (.int w.val.toInt32), .unset, .unset, .unset, .unset, .unset, .unset, .unset, .unset] [(.int (XT.ushr p5 (4 : Int32))), (.int (1 : Int32))])) _
    refine XS.bipush X0.here hx rfl (hb hby at_16) ?_
    show Steps p.tables e below (s₁.setTop (mkF m 18 #[.val (.int p0), .val (.int p1), .val (.int p2), .val (.int p3), .val (.int p4), .val (.int p5), .val (.int w.val.toInt32), .unset, .unset, .unset, .unset, .unset, .unset, .unset, .unset] [(.int (15 : Int32)), (.int (XT.ushr p5 (4 : Int32))), (.int (1 : Int32))])) _
    refine XS.iand X0.here hx rfl (hb hby at_18) rfl ?_
    show Steps p.tables e below (s₁.setTop (mkF m 19 #[.val (.int p0), .val (.int p1), .val (.int p2), .val (.int p3), .val (.int p4), .val (.int p5), .val (.int w.val.toInt32), .unset, .unset, .unset, .unset, .unset, .unset, .unset, .unset] [(.int ((XT.ushr p5 (4 : Int32)) &&& (15 : Int32))), (.int (1 : Int32))])) _
    refine XS.iconst X0.here hx rfl (hb hby at_19) ?_
    show Steps p.tables e below (s₁.setTop (mkF m 20 #[.val (.int p0), .val (.int p1), .val (.int p2), .val (.int p3), .val (.int p4), .val (.int p5), .val (.int w.val.toInt32), .unset, .unset, .unset, .unset, .unset, .unset, .unset, .unset] [(.int (3 : Int32)), (.int ((XT.ushr p5 (4 : Int32)) &&& (15 : Int32))), (.int (1 : Int32))])) _
    refine Jvm.RoadKit.iremM (g := (mkF m 20 #[.val (.int p0), .val (.int p1), .val (.int p2), .val (.int p3), .val (.int p4), .val (.int p5), .val (.int w.val.toInt32), .unset, .unset, .unset, .unset, .unset, .unset, .unset, .unset] [(.int (3 : Int32)), (.int ((XT.ushr p5 (4 : Int32)) &&& (15 : Int32))), (.int (1 : Int32))])) X0 hx rfl (hb hby at_20) rfl (by decide) ?_
    show Steps p.tables e below (s₁.setTop (mkF m 21 #[.val (.int p0), .val (.int p1), .val (.int p2), .val (.int p3), .val (.int p4), .val (.int p5), .val (.int w.val.toInt32), .unset, .unset, .unset, .unset, .unset, .unset, .unset, .unset] [(.int (((XT.ushr p5 (4 : Int32)) &&& (15 : Int32)) % (3 : Int32))), (.int (1 : Int32))])) _
    refine XS.iadd X0.here hx rfl (hb hby at_21) rfl ?_
    show Steps p.tables e below (s₁.setTop (mkF m 22 #[.val (.int p0), .val (.int p1), .val (.int p2), .val (.int p3), .val (.int p4), .val (.int p5), .val (.int w.val.toInt32), .unset, .unset, .unset, .unset, .unset, .unset, .unset, .unset] [(.int ((1 : Int32) + (((XT.ushr p5 (4 : Int32)) &&& (15 : Int32)) % (3 : Int32))))])) _
    rw [hN_]
    show Steps p.tables e below (s₁.setTop (mkF m 22 #[.val (.int p0), .val (.int p1), .val (.int p2), .val (.int p3), .val (.int p4), .val (.int p5), .val (.int w.val.toInt32), .unset, .unset, .unset, .unset, .unset, .unset, .unset, .unset] [(.int (3 : Int32))])) _
    refine XS.istore X0.here hx rfl (hb hby at_22) rfl (l' := #[.val (.int p0), .val (.int p1), .val (.int p2), .val (.int p3), .val (.int p4), .val (.int p5), .val (.int w.val.toInt32), .val (.int (3 : Int32)), .unset, .unset, .unset, .unset, .unset, .unset, .unset]) rfl ?_
    show Steps p.tables e below (s₁.setTop (mkF m 24 #[.val (.int p0), .val (.int p1), .val (.int p2), .val (.int p3), .val (.int p4), .val (.int p5), .val (.int w.val.toInt32), .val (.int (3 : Int32)), .unset, .unset, .unset, .unset, .unset, .unset, .unset] [])) _
    refine XS.iload X0.here hx rfl (hb hby at_24) rfl ?_
    show Steps p.tables e below (s₁.setTop (mkF m 26 #[.val (.int p0), .val (.int p1), .val (.int p2), .val (.int p3), .val (.int p4), .val (.int p5), .val (.int w.val.toInt32), .val (.int (3 : Int32)), .unset, .unset, .unset, .unset, .unset, .unset, .unset] [(.int p5)])) _
    refine XS.bipush X0.here hx rfl (hb hby at_26) ?_
    show Steps p.tables e below (s₁.setTop (mkF m 28 #[.val (.int p0), .val (.int p1), .val (.int p2), .val (.int p3), .val (.int p4), .val (.int p5), .val (.int w.val.toInt32), .val (.int (3 : Int32)), .unset, .unset, .unset, .unset, .unset, .unset, .unset] [(.int (8 : Int32)), (.int p5)])) _
    refine XT.iushr X0.here hx rfl (hb hby at_28) rfl ?_
    show Steps p.tables e below (s₁.setTop (mkF m 29 #[.val (.int p0), .val (.int p1), .val (.int p2), .val (.int p3), .val (.int p4), .val (.int p5), .val (.int w.val.toInt32), .val (.int (3 : Int32)), .unset, .unset, .unset, .unset, .unset, .unset, .unset] [(.int (XT.ushr p5 (8 : Int32)))])) _
    refine XS.bipush X0.here hx rfl (hb hby at_29) ?_
    show Steps p.tables e below (s₁.setTop (mkF m 31 #[.val (.int p0), .val (.int p1), .val (.int p2), .val (.int p3), .val (.int p4), .val (.int p5), .val (.int w.val.toInt32), .val (.int (3 : Int32)), .unset, .unset, .unset, .unset, .unset, .unset, .unset] [(.int (15 : Int32)), (.int (XT.ushr p5 (8 : Int32)))])) _
    refine XS.iand X0.here hx rfl (hb hby at_31) rfl ?_
    show Steps p.tables e below (s₁.setTop (mkF m 32 #[.val (.int p0), .val (.int p1), .val (.int p2), .val (.int p3), .val (.int p4), .val (.int p5), .val (.int w.val.toInt32), .val (.int (3 : Int32)), .unset, .unset, .unset, .unset, .unset, .unset, .unset] [(.int ((XT.ushr p5 (8 : Int32)) &&& (15 : Int32)))])) _
    refine XS.iload X0.here hx rfl (hb hby at_32) rfl ?_
    show Steps p.tables e below (s₁.setTop (mkF m 34 #[.val (.int p0), .val (.int p1), .val (.int p2), .val (.int p3), .val (.int p4), .val (.int p5), .val (.int w.val.toInt32), .val (.int (3 : Int32)), .unset, .unset, .unset, .unset, .unset, .unset, .unset] [(.int (3 : Int32)), (.int ((XT.ushr p5 (8 : Int32)) &&& (15 : Int32)))])) _
    refine Jvm.RoadKit.iremM (g := (mkF m 34 #[.val (.int p0), .val (.int p1), .val (.int p2), .val (.int p3), .val (.int p4), .val (.int p5), .val (.int w.val.toInt32), .val (.int (3 : Int32)), .unset, .unset, .unset, .unset, .unset, .unset, .unset] [(.int (3 : Int32)), (.int ((XT.ushr p5 (8 : Int32)) &&& (15 : Int32)))])) X0 hx rfl (hb hby at_34) rfl (by decide) ?_
    show Steps p.tables e below (s₁.setTop (mkF m 35 #[.val (.int p0), .val (.int p1), .val (.int p2), .val (.int p3), .val (.int p4), .val (.int p5), .val (.int w.val.toInt32), .val (.int (3 : Int32)), .unset, .unset, .unset, .unset, .unset, .unset, .unset] [(.int (((XT.ushr p5 (8 : Int32)) &&& (15 : Int32)) % (3 : Int32)))])) _
    rw [hR_]
    show Steps p.tables e below (s₁.setTop (mkF m 35 #[.val (.int p0), .val (.int p1), .val (.int p2), .val (.int p3), .val (.int p4), .val (.int p5), .val (.int w.val.toInt32), .val (.int (3 : Int32)), .unset, .unset, .unset, .unset, .unset, .unset, .unset] [(.int (0 : Int32))])) _
    refine XS.istore X0.here hx rfl (hb hby at_35) rfl (l' := #[.val (.int p0), .val (.int p1), .val (.int p2), .val (.int p3), .val (.int p4), .val (.int p5), .val (.int w.val.toInt32), .val (.int (3 : Int32)), .val (.int (0 : Int32)), .unset, .unset, .unset, .unset, .unset, .unset]) rfl ?_
    show Steps p.tables e below (s₁.setTop (mkF m 37 #[.val (.int p0), .val (.int p1), .val (.int p2), .val (.int p3), .val (.int p4), .val (.int p5), .val (.int w.val.toInt32), .val (.int (3 : Int32)), .val (.int (0 : Int32)), .unset, .unset, .unset, .unset, .unset, .unset] [])) _
    refine XS.iload X0.here hx rfl (hb hby at_37) rfl ?_
    show Steps p.tables e below (s₁.setTop (mkF m 39 #[.val (.int p0), .val (.int p1), .val (.int p2), .val (.int p3), .val (.int p4), .val (.int p5), .val (.int w.val.toInt32), .val (.int (3 : Int32)), .val (.int (0 : Int32)), .unset, .unset, .unset, .unset, .unset, .unset] [(.int p5)])) _
    refine XS.bipush X0.here hx rfl (hb hby at_39) ?_
    show Steps p.tables e below (s₁.setTop (mkF m 41 #[.val (.int p0), .val (.int p1), .val (.int p2), .val (.int p3), .val (.int p4), .val (.int p5), .val (.int w.val.toInt32), .val (.int (3 : Int32)), .val (.int (0 : Int32)), .unset, .unset, .unset, .unset, .unset, .unset] [(.int (12 : Int32)), (.int p5)])) _
    refine XT.iushr X0.here hx rfl (hb hby at_41) rfl ?_
    show Steps p.tables e below (s₁.setTop (mkF m 42 #[.val (.int p0), .val (.int p1), .val (.int p2), .val (.int p3), .val (.int p4), .val (.int p5), .val (.int w.val.toInt32), .val (.int (3 : Int32)), .val (.int (0 : Int32)), .unset, .unset, .unset, .unset, .unset, .unset] [(.int (XT.ushr p5 (12 : Int32)))])) _
    refine XS.bipush X0.here hx rfl (hb hby at_42) ?_
    show Steps p.tables e below (s₁.setTop (mkF m 44 #[.val (.int p0), .val (.int p1), .val (.int p2), .val (.int p3), .val (.int p4), .val (.int p5), .val (.int w.val.toInt32), .val (.int (3 : Int32)), .val (.int (0 : Int32)), .unset, .unset, .unset, .unset, .unset, .unset] [(.int (15 : Int32)), (.int (XT.ushr p5 (12 : Int32)))])) _
    refine XS.iand X0.here hx rfl (hb hby at_44) rfl ?_
    show Steps p.tables e below (s₁.setTop (mkF m 45 #[.val (.int p0), .val (.int p1), .val (.int p2), .val (.int p3), .val (.int p4), .val (.int p5), .val (.int w.val.toInt32), .val (.int (3 : Int32)), .val (.int (0 : Int32)), .unset, .unset, .unset, .unset, .unset, .unset] [(.int ((XT.ushr p5 (12 : Int32)) &&& (15 : Int32)))])) _
    refine XS.iload X0.here hx rfl (hb hby at_45) rfl ?_
    show Steps p.tables e below (s₁.setTop (mkF m 47 #[.val (.int p0), .val (.int p1), .val (.int p2), .val (.int p3), .val (.int p4), .val (.int p5), .val (.int w.val.toInt32), .val (.int (3 : Int32)), .val (.int (0 : Int32)), .unset, .unset, .unset, .unset, .unset, .unset] [(.int w.val.toInt32), (.int ((XT.ushr p5 (12 : Int32)) &&& (15 : Int32)))])) _
    refine Jvm.RoadKit.iremM (g := (mkF m 47 #[.val (.int p0), .val (.int p1), .val (.int p2), .val (.int p3), .val (.int p4), .val (.int p5), .val (.int w.val.toInt32), .val (.int (3 : Int32)), .val (.int (0 : Int32)), .unset, .unset, .unset, .unset, .unset, .unset] [(.int w.val.toInt32), (.int ((XT.ushr p5 (12 : Int32)) &&& (15 : Int32)))])) X0 hx rfl (hb hby at_47) rfl (own_wne w hw1) ?_
    show Steps p.tables e below (s₁.setTop (mkF m 48 #[.val (.int p0), .val (.int p1), .val (.int p2), .val (.int p3), .val (.int p4), .val (.int p5), .val (.int w.val.toInt32), .val (.int (3 : Int32)), .val (.int (0 : Int32)), .unset, .unset, .unset, .unset, .unset, .unset] [(.int (((XT.ushr p5 (12 : Int32)) &&& (15 : Int32)) % w.val.toInt32))])) _
    rw [hC_]
    show Steps p.tables e below (s₁.setTop (mkF m 48 #[.val (.int p0), .val (.int p1), .val (.int p2), .val (.int p3), .val (.int p4), .val (.int p5), .val (.int w.val.toInt32), .val (.int (3 : Int32)), .val (.int (0 : Int32)), .unset, .unset, .unset, .unset, .unset, .unset] [(.int cc.val.toInt32)])) _
    refine XS.istore X0.here hx rfl (hb hby at_48) rfl (l' := #[.val (.int p0), .val (.int p1), .val (.int p2), .val (.int p3), .val (.int p4), .val (.int p5), .val (.int w.val.toInt32), .val (.int (3 : Int32)), .val (.int (0 : Int32)), .val (.int cc.val.toInt32), .unset, .unset, .unset, .unset, .unset]) rfl ?_
    show Steps p.tables e below (s₁.setTop (mkF m 50 #[.val (.int p0), .val (.int p1), .val (.int p2), .val (.int p3), .val (.int p4), .val (.int p5), .val (.int w.val.toInt32), .val (.int (3 : Int32)), .val (.int (0 : Int32)), .val (.int cc.val.toInt32), .unset, .unset, .unset, .unset, .unset] [])) _
    refine XS.iconst X0.here hx rfl (hb hby at_50) ?_
    show Steps p.tables e below (s₁.setTop (mkF m 51 #[.val (.int p0), .val (.int p1), .val (.int p2), .val (.int p3), .val (.int p4), .val (.int p5), .val (.int w.val.toInt32), .val (.int (3 : Int32)), .val (.int (0 : Int32)), .val (.int cc.val.toInt32), .unset, .unset, .unset, .unset, .unset] [(.int (3 : Int32))])) _
    refine st74 _ ?_
    show Steps p.tables e below (T74.setTop (mkF m 53 #[.val (.int p0), .val (.int p1), .val (.int p2), .val (.int p3), .val (.int p4), .val (.int p5), .val (.int w.val.toInt32), .val (.int (3 : Int32)), .val (.int (0 : Int32)), .val (.int cc.val.toInt32), .unset, .unset, .unset, .unset, .unset] [(.ref b74)])) _
    refine XS.dup X74.here hx rfl (hb hby at_53) rfl rfl ?_
    show Steps p.tables e below (T74.setTop (mkF m 54 #[.val (.int p0), .val (.int p1), .val (.int p2), .val (.int p3), .val (.int p4), .val (.int p5), .val (.int w.val.toInt32), .val (.int (3 : Int32)), .val (.int (0 : Int32)), .val (.int cc.val.toInt32), .unset, .unset, .unset, .unset, .unset] [(.ref b74), (.ref b74)])) _
    refine XS.iconst X74.here hx rfl (hb hby at_54) ?_
    show Steps p.tables e below (T74.setTop (mkF m 55 #[.val (.int p0), .val (.int p1), .val (.int p2), .val (.int p3), .val (.int p4), .val (.int p5), .val (.int w.val.toInt32), .val (.int (3 : Int32)), .val (.int (0 : Int32)), .val (.int cc.val.toInt32), .unset, .unset, .unset, .unset, .unset] [(.int (0 : Int32)), (.ref b74), (.ref b74)])) _
    refine XS.iloadN X74.here hx rfl (hb hby at_55) rfl ?_
    show Steps p.tables e below (T74.setTop (mkF m 56 #[.val (.int p0), .val (.int p1), .val (.int p2), .val (.int p3), .val (.int p4), .val (.int p5), .val (.int w.val.toInt32), .val (.int (3 : Int32)), .val (.int (0 : Int32)), .val (.int cc.val.toInt32), .unset, .unset, .unset, .unset, .unset] [(.int p0), (.int (0 : Int32)), (.ref b74), (.ref b74)])) _
    refine st75 _ ?_
    show Steps p.tables e below (T75.setTop (mkF m 57 #[.val (.int p0), .val (.int p1), .val (.int p2), .val (.int p3), .val (.int p4), .val (.int p5), .val (.int w.val.toInt32), .val (.int (3 : Int32)), .val (.int (0 : Int32)), .val (.int cc.val.toInt32), .unset, .unset, .unset, .unset, .unset] [(.ref b74)])) _
    refine XS.dup X75.here hx rfl (hb hby at_57) rfl rfl ?_
    show Steps p.tables e below (T75.setTop (mkF m 58 #[.val (.int p0), .val (.int p1), .val (.int p2), .val (.int p3), .val (.int p4), .val (.int p5), .val (.int w.val.toInt32), .val (.int (3 : Int32)), .val (.int (0 : Int32)), .val (.int cc.val.toInt32), .unset, .unset, .unset, .unset, .unset] [(.ref b74), (.ref b74)])) _
    refine XS.iconst X75.here hx rfl (hb hby at_58) ?_
    show Steps p.tables e below (T75.setTop (mkF m 59 #[.val (.int p0), .val (.int p1), .val (.int p2), .val (.int p3), .val (.int p4), .val (.int p5), .val (.int w.val.toInt32), .val (.int (3 : Int32)), .val (.int (0 : Int32)), .val (.int cc.val.toInt32), .unset, .unset, .unset, .unset, .unset] [(.int (1 : Int32)), (.ref b74), (.ref b74)])) _
    refine XS.iloadN X75.here hx rfl (hb hby at_59) rfl ?_
    show Steps p.tables e below (T75.setTop (mkF m 60 #[.val (.int p0), .val (.int p1), .val (.int p2), .val (.int p3), .val (.int p4), .val (.int p5), .val (.int w.val.toInt32), .val (.int (3 : Int32)), .val (.int (0 : Int32)), .val (.int cc.val.toInt32), .unset, .unset, .unset, .unset, .unset] [(.int p1), (.int (1 : Int32)), (.ref b74), (.ref b74)])) _
    refine st76 _ ?_
    show Steps p.tables e below (T76.setTop (mkF m 61 #[.val (.int p0), .val (.int p1), .val (.int p2), .val (.int p3), .val (.int p4), .val (.int p5), .val (.int w.val.toInt32), .val (.int (3 : Int32)), .val (.int (0 : Int32)), .val (.int cc.val.toInt32), .unset, .unset, .unset, .unset, .unset] [(.ref b74)])) _
    refine XS.dup X76.here hx rfl (hb hby at_61) rfl rfl ?_
    show Steps p.tables e below (T76.setTop (mkF m 62 #[.val (.int p0), .val (.int p1), .val (.int p2), .val (.int p3), .val (.int p4), .val (.int p5), .val (.int w.val.toInt32), .val (.int (3 : Int32)), .val (.int (0 : Int32)), .val (.int cc.val.toInt32), .unset, .unset, .unset, .unset, .unset] [(.ref b74), (.ref b74)])) _
    refine XS.iconst X76.here hx rfl (hb hby at_62) ?_
    show Steps p.tables e below (T76.setTop (mkF m 63 #[.val (.int p0), .val (.int p1), .val (.int p2), .val (.int p3), .val (.int p4), .val (.int p5), .val (.int w.val.toInt32), .val (.int (3 : Int32)), .val (.int (0 : Int32)), .val (.int cc.val.toInt32), .unset, .unset, .unset, .unset, .unset] [(.int (2 : Int32)), (.ref b74), (.ref b74)])) _
    refine XS.iloadN X76.here hx rfl (hb hby at_63) rfl ?_
    show Steps p.tables e below (T76.setTop (mkF m 64 #[.val (.int p0), .val (.int p1), .val (.int p2), .val (.int p3), .val (.int p4), .val (.int p5), .val (.int w.val.toInt32), .val (.int (3 : Int32)), .val (.int (0 : Int32)), .val (.int cc.val.toInt32), .unset, .unset, .unset, .unset, .unset] [(.int p2), (.int (2 : Int32)), (.ref b74), (.ref b74)])) _
    refine st77 _ ?_
    show Steps p.tables e below (T77.setTop (mkF m 65 #[.val (.int p0), .val (.int p1), .val (.int p2), .val (.int p3), .val (.int p4), .val (.int p5), .val (.int w.val.toInt32), .val (.int (3 : Int32)), .val (.int (0 : Int32)), .val (.int cc.val.toInt32), .unset, .unset, .unset, .unset, .unset] [(.ref b74)])) _
    refine XS.astore X77.here hx rfl (hb hby at_65) rfl rfl (l' := #[.val (.int p0), .val (.int p1), .val (.int p2), .val (.int p3), .val (.int p4), .val (.int p5), .val (.int w.val.toInt32), .val (.int (3 : Int32)), .val (.int (0 : Int32)), .val (.int cc.val.toInt32), .val (.ref b74), .unset, .unset, .unset, .unset]) rfl ?_
    show Steps p.tables e below (T77.setTop (mkF m 67 #[.val (.int p0), .val (.int p1), .val (.int p2), .val (.int p3), .val (.int p4), .val (.int p5), .val (.int w.val.toInt32), .val (.int (3 : Int32)), .val (.int (0 : Int32)), .val (.int cc.val.toInt32), .val (.ref b74), .unset, .unset, .unset, .unset] [])) _
    refine XS.iconst X77.here hx rfl (hb hby at_67) ?_
    show Steps p.tables e below (T77.setTop (mkF m 68 #[.val (.int p0), .val (.int p1), .val (.int p2), .val (.int p3), .val (.int p4), .val (.int p5), .val (.int w.val.toInt32), .val (.int (3 : Int32)), .val (.int (0 : Int32)), .val (.int cc.val.toInt32), .val (.ref b74), .unset, .unset, .unset, .unset] [(.int (3 : Int32))])) _
    refine st78 _ ?_
    show Steps p.tables e below (T78.setTop (mkF m 70 #[.val (.int p0), .val (.int p1), .val (.int p2), .val (.int p3), .val (.int p4), .val (.int p5), .val (.int w.val.toInt32), .val (.int (3 : Int32)), .val (.int (0 : Int32)), .val (.int cc.val.toInt32), .val (.ref b74), .unset, .unset, .unset, .unset] [(.ref b78)])) _
    refine XS.dup X78.here hx rfl (hb hby at_70) rfl rfl ?_
    show Steps p.tables e below (T78.setTop (mkF m 71 #[.val (.int p0), .val (.int p1), .val (.int p2), .val (.int p3), .val (.int p4), .val (.int p5), .val (.int w.val.toInt32), .val (.int (3 : Int32)), .val (.int (0 : Int32)), .val (.int cc.val.toInt32), .val (.ref b74), .unset, .unset, .unset, .unset] [(.ref b78), (.ref b78)])) _
    refine XS.iconst X78.here hx rfl (hb hby at_71) ?_
    show Steps p.tables e below (T78.setTop (mkF m 72 #[.val (.int p0), .val (.int p1), .val (.int p2), .val (.int p3), .val (.int p4), .val (.int p5), .val (.int w.val.toInt32), .val (.int (3 : Int32)), .val (.int (0 : Int32)), .val (.int cc.val.toInt32), .val (.ref b74), .unset, .unset, .unset, .unset] [(.int (0 : Int32)), (.ref b78), (.ref b78)])) _
    refine XS.iloadN X78.here hx rfl (hb hby at_72) rfl ?_
    show Steps p.tables e below (T78.setTop (mkF m 73 #[.val (.int p0), .val (.int p1), .val (.int p2), .val (.int p3), .val (.int p4), .val (.int p5), .val (.int w.val.toInt32), .val (.int (3 : Int32)), .val (.int (0 : Int32)), .val (.int cc.val.toInt32), .val (.ref b74), .unset, .unset, .unset, .unset] [(.int p3), (.int (0 : Int32)), (.ref b78), (.ref b78)])) _
    refine st79 _ ?_
    show Steps p.tables e below (T79.setTop (mkF m 74 #[.val (.int p0), .val (.int p1), .val (.int p2), .val (.int p3), .val (.int p4), .val (.int p5), .val (.int w.val.toInt32), .val (.int (3 : Int32)), .val (.int (0 : Int32)), .val (.int cc.val.toInt32), .val (.ref b74), .unset, .unset, .unset, .unset] [(.ref b78)])) _
    refine XS.dup X79.here hx rfl (hb hby at_74) rfl rfl ?_
    show Steps p.tables e below (T79.setTop (mkF m 75 #[.val (.int p0), .val (.int p1), .val (.int p2), .val (.int p3), .val (.int p4), .val (.int p5), .val (.int w.val.toInt32), .val (.int (3 : Int32)), .val (.int (0 : Int32)), .val (.int cc.val.toInt32), .val (.ref b74), .unset, .unset, .unset, .unset] [(.ref b78), (.ref b78)])) _
    refine XS.iconst X79.here hx rfl (hb hby at_75) ?_
    show Steps p.tables e below (T79.setTop (mkF m 76 #[.val (.int p0), .val (.int p1), .val (.int p2), .val (.int p3), .val (.int p4), .val (.int p5), .val (.int w.val.toInt32), .val (.int (3 : Int32)), .val (.int (0 : Int32)), .val (.int cc.val.toInt32), .val (.ref b74), .unset, .unset, .unset, .unset] [(.int (1 : Int32)), (.ref b78), (.ref b78)])) _
    refine XS.iload X79.here hx rfl (hb hby at_76) rfl ?_
    show Steps p.tables e below (T79.setTop (mkF m 78 #[.val (.int p0), .val (.int p1), .val (.int p2), .val (.int p3), .val (.int p4), .val (.int p5), .val (.int w.val.toInt32), .val (.int (3 : Int32)), .val (.int (0 : Int32)), .val (.int cc.val.toInt32), .val (.ref b74), .unset, .unset, .unset, .unset] [(.int p4), (.int (1 : Int32)), (.ref b78), (.ref b78)])) _
    refine st80 _ ?_
    show Steps p.tables e below (T80.setTop (mkF m 79 #[.val (.int p0), .val (.int p1), .val (.int p2), .val (.int p3), .val (.int p4), .val (.int p5), .val (.int w.val.toInt32), .val (.int (3 : Int32)), .val (.int (0 : Int32)), .val (.int cc.val.toInt32), .val (.ref b74), .unset, .unset, .unset, .unset] [(.ref b78)])) _
    refine XS.dup X80.here hx rfl (hb hby at_79) rfl rfl ?_
    show Steps p.tables e below (T80.setTop (mkF m 80 #[.val (.int p0), .val (.int p1), .val (.int p2), .val (.int p3), .val (.int p4), .val (.int p5), .val (.int w.val.toInt32), .val (.int (3 : Int32)), .val (.int (0 : Int32)), .val (.int cc.val.toInt32), .val (.ref b74), .unset, .unset, .unset, .unset] [(.ref b78), (.ref b78)])) _
    refine XS.iconst X80.here hx rfl (hb hby at_80) ?_
    show Steps p.tables e below (T80.setTop (mkF m 81 #[.val (.int p0), .val (.int p1), .val (.int p2), .val (.int p3), .val (.int p4), .val (.int p5), .val (.int w.val.toInt32), .val (.int (3 : Int32)), .val (.int (0 : Int32)), .val (.int cc.val.toInt32), .val (.ref b74), .unset, .unset, .unset, .unset] [(.int (2 : Int32)), (.ref b78), (.ref b78)])) _
    refine XS.iloadN X80.here hx rfl (hb hby at_81) rfl ?_
    show Steps p.tables e below (T80.setTop (mkF m 82 #[.val (.int p0), .val (.int p1), .val (.int p2), .val (.int p3), .val (.int p4), .val (.int p5), .val (.int w.val.toInt32), .val (.int (3 : Int32)), .val (.int (0 : Int32)), .val (.int cc.val.toInt32), .val (.ref b74), .unset, .unset, .unset, .unset] [(.int p0), (.int (2 : Int32)), (.ref b78), (.ref b78)])) _
    refine XS.iconst X80.here hx rfl (hb hby at_82) ?_
    show Steps p.tables e below (T80.setTop (mkF m 83 #[.val (.int p0), .val (.int p1), .val (.int p2), .val (.int p3), .val (.int p4), .val (.int p5), .val (.int w.val.toInt32), .val (.int (3 : Int32)), .val (.int (0 : Int32)), .val (.int cc.val.toInt32), .val (.ref b74), .unset, .unset, .unset, .unset] [(.int (-1 : Int32)), (.int p0), (.int (2 : Int32)), (.ref b78), (.ref b78)])) _
    refine XT.ixor X80.here hx rfl (hb hby at_83) rfl ?_
    show Steps p.tables e below (T80.setTop (mkF m 84 #[.val (.int p0), .val (.int p1), .val (.int p2), .val (.int p3), .val (.int p4), .val (.int p5), .val (.int w.val.toInt32), .val (.int (3 : Int32)), .val (.int (0 : Int32)), .val (.int cc.val.toInt32), .val (.ref b74), .unset, .unset, .unset, .unset] [(.int (p0 ^^^ (-1 : Int32))), (.int (2 : Int32)), (.ref b78), (.ref b78)])) _
    refine st81 _ ?_
    show Steps p.tables e below (T81.setTop (mkF m 85 #[.val (.int p0), .val (.int p1), .val (.int p2), .val (.int p3), .val (.int p4), .val (.int p5), .val (.int w.val.toInt32), .val (.int (3 : Int32)), .val (.int (0 : Int32)), .val (.int cc.val.toInt32), .val (.ref b74), .unset, .unset, .unset, .unset] [(.ref b78)])) _
    refine XS.astore X81.here hx rfl (hb hby at_85) rfl rfl (l' := #[.val (.int p0), .val (.int p1), .val (.int p2), .val (.int p3), .val (.int p4), .val (.int p5), .val (.int w.val.toInt32), .val (.int (3 : Int32)), .val (.int (0 : Int32)), .val (.int cc.val.toInt32), .val (.ref b74), .val (.ref b78), .unset, .unset, .unset]) rfl ?_
    show Steps p.tables e below (T81.setTop (mkF m 87 #[.val (.int p0), .val (.int p1), .val (.int p2), .val (.int p3), .val (.int p4), .val (.int p5), .val (.int w.val.toInt32), .val (.int (3 : Int32)), .val (.int (0 : Int32)), .val (.int cc.val.toInt32), .val (.ref b74), .val (.ref b78), .unset, .unset, .unset] [])) _
    refine XS.iconst X81.here hx rfl (hb hby at_87) ?_
    show Steps p.tables e below (T81.setTop (mkF m 88 #[.val (.int p0), .val (.int p1), .val (.int p2), .val (.int p3), .val (.int p4), .val (.int p5), .val (.int w.val.toInt32), .val (.int (3 : Int32)), .val (.int (0 : Int32)), .val (.int cc.val.toInt32), .val (.ref b74), .val (.ref b78), .unset, .unset, .unset] [(.int (3 : Int32))])) _
    refine st82 _ ?_
    show Steps p.tables e below (T82.setTop (mkF m 90 #[.val (.int p0), .val (.int p1), .val (.int p2), .val (.int p3), .val (.int p4), .val (.int p5), .val (.int w.val.toInt32), .val (.int (3 : Int32)), .val (.int (0 : Int32)), .val (.int cc.val.toInt32), .val (.ref b74), .val (.ref b78), .unset, .unset, .unset] [(.ref b82)])) _
    refine XS.dup X82.here hx rfl (hb hby at_90) rfl rfl ?_
    show Steps p.tables e below (T82.setTop (mkF m 91 #[.val (.int p0), .val (.int p1), .val (.int p2), .val (.int p3), .val (.int p4), .val (.int p5), .val (.int w.val.toInt32), .val (.int (3 : Int32)), .val (.int (0 : Int32)), .val (.int cc.val.toInt32), .val (.ref b74), .val (.ref b78), .unset, .unset, .unset] [(.ref b82), (.ref b82)])) _
    refine XS.iconst X82.here hx rfl (hb hby at_91) ?_
    show Steps p.tables e below (T82.setTop (mkF m 92 #[.val (.int p0), .val (.int p1), .val (.int p2), .val (.int p3), .val (.int p4), .val (.int p5), .val (.int w.val.toInt32), .val (.int (3 : Int32)), .val (.int (0 : Int32)), .val (.int cc.val.toInt32), .val (.ref b74), .val (.ref b78), .unset, .unset, .unset] [(.int (0 : Int32)), (.ref b82), (.ref b82)])) _
    refine XS.iloadN X82.here hx rfl (hb hby at_92) rfl ?_
    show Steps p.tables e below (T82.setTop (mkF m 93 #[.val (.int p0), .val (.int p1), .val (.int p2), .val (.int p3), .val (.int p4), .val (.int p5), .val (.int w.val.toInt32), .val (.int (3 : Int32)), .val (.int (0 : Int32)), .val (.int cc.val.toInt32), .val (.ref b74), .val (.ref b78), .unset, .unset, .unset] [(.int p1), (.int (0 : Int32)), (.ref b82), (.ref b82)])) _
    refine XS.iconst X82.here hx rfl (hb hby at_93) ?_
    show Steps p.tables e below (T82.setTop (mkF m 94 #[.val (.int p0), .val (.int p1), .val (.int p2), .val (.int p3), .val (.int p4), .val (.int p5), .val (.int w.val.toInt32), .val (.int (3 : Int32)), .val (.int (0 : Int32)), .val (.int cc.val.toInt32), .val (.ref b74), .val (.ref b78), .unset, .unset, .unset] [(.int (-1 : Int32)), (.int p1), (.int (0 : Int32)), (.ref b82), (.ref b82)])) _
    refine XT.ixor X82.here hx rfl (hb hby at_94) rfl ?_
    show Steps p.tables e below (T82.setTop (mkF m 95 #[.val (.int p0), .val (.int p1), .val (.int p2), .val (.int p3), .val (.int p4), .val (.int p5), .val (.int w.val.toInt32), .val (.int (3 : Int32)), .val (.int (0 : Int32)), .val (.int cc.val.toInt32), .val (.ref b74), .val (.ref b78), .unset, .unset, .unset] [(.int (p1 ^^^ (-1 : Int32))), (.int (0 : Int32)), (.ref b82), (.ref b82)])) _
    refine st83 _ ?_
    show Steps p.tables e below (T83.setTop (mkF m 96 #[.val (.int p0), .val (.int p1), .val (.int p2), .val (.int p3), .val (.int p4), .val (.int p5), .val (.int w.val.toInt32), .val (.int (3 : Int32)), .val (.int (0 : Int32)), .val (.int cc.val.toInt32), .val (.ref b74), .val (.ref b78), .unset, .unset, .unset] [(.ref b82)])) _
    refine XS.dup X83.here hx rfl (hb hby at_96) rfl rfl ?_
    show Steps p.tables e below (T83.setTop (mkF m 97 #[.val (.int p0), .val (.int p1), .val (.int p2), .val (.int p3), .val (.int p4), .val (.int p5), .val (.int w.val.toInt32), .val (.int (3 : Int32)), .val (.int (0 : Int32)), .val (.int cc.val.toInt32), .val (.ref b74), .val (.ref b78), .unset, .unset, .unset] [(.ref b82), (.ref b82)])) _
    refine XS.iconst X83.here hx rfl (hb hby at_97) ?_
    show Steps p.tables e below (T83.setTop (mkF m 98 #[.val (.int p0), .val (.int p1), .val (.int p2), .val (.int p3), .val (.int p4), .val (.int p5), .val (.int w.val.toInt32), .val (.int (3 : Int32)), .val (.int (0 : Int32)), .val (.int cc.val.toInt32), .val (.ref b74), .val (.ref b78), .unset, .unset, .unset] [(.int (1 : Int32)), (.ref b82), (.ref b82)])) _
    refine XS.iloadN X83.here hx rfl (hb hby at_98) rfl ?_
    show Steps p.tables e below (T83.setTop (mkF m 99 #[.val (.int p0), .val (.int p1), .val (.int p2), .val (.int p3), .val (.int p4), .val (.int p5), .val (.int w.val.toInt32), .val (.int (3 : Int32)), .val (.int (0 : Int32)), .val (.int cc.val.toInt32), .val (.ref b74), .val (.ref b78), .unset, .unset, .unset] [(.int p2), (.int (1 : Int32)), (.ref b82), (.ref b82)])) _
    refine XS.iconst X83.here hx rfl (hb hby at_99) ?_
    show Steps p.tables e below (T83.setTop (mkF m 100 #[.val (.int p0), .val (.int p1), .val (.int p2), .val (.int p3), .val (.int p4), .val (.int p5), .val (.int w.val.toInt32), .val (.int (3 : Int32)), .val (.int (0 : Int32)), .val (.int cc.val.toInt32), .val (.ref b74), .val (.ref b78), .unset, .unset, .unset] [(.int (-1 : Int32)), (.int p2), (.int (1 : Int32)), (.ref b82), (.ref b82)])) _
    refine XT.ixor X83.here hx rfl (hb hby at_100) rfl ?_
    show Steps p.tables e below (T83.setTop (mkF m 101 #[.val (.int p0), .val (.int p1), .val (.int p2), .val (.int p3), .val (.int p4), .val (.int p5), .val (.int w.val.toInt32), .val (.int (3 : Int32)), .val (.int (0 : Int32)), .val (.int cc.val.toInt32), .val (.ref b74), .val (.ref b78), .unset, .unset, .unset] [(.int (p2 ^^^ (-1 : Int32))), (.int (1 : Int32)), (.ref b82), (.ref b82)])) _
    refine st84 _ ?_
    show Steps p.tables e below (T84.setTop (mkF m 102 #[.val (.int p0), .val (.int p1), .val (.int p2), .val (.int p3), .val (.int p4), .val (.int p5), .val (.int w.val.toInt32), .val (.int (3 : Int32)), .val (.int (0 : Int32)), .val (.int cc.val.toInt32), .val (.ref b74), .val (.ref b78), .unset, .unset, .unset] [(.ref b82)])) _
    refine XS.dup X84.here hx rfl (hb hby at_102) rfl rfl ?_
    show Steps p.tables e below (T84.setTop (mkF m 103 #[.val (.int p0), .val (.int p1), .val (.int p2), .val (.int p3), .val (.int p4), .val (.int p5), .val (.int w.val.toInt32), .val (.int (3 : Int32)), .val (.int (0 : Int32)), .val (.int cc.val.toInt32), .val (.ref b74), .val (.ref b78), .unset, .unset, .unset] [(.ref b82), (.ref b82)])) _
    refine XS.iconst X84.here hx rfl (hb hby at_103) ?_
    show Steps p.tables e below (T84.setTop (mkF m 104 #[.val (.int p0), .val (.int p1), .val (.int p2), .val (.int p3), .val (.int p4), .val (.int p5), .val (.int w.val.toInt32), .val (.int (3 : Int32)), .val (.int (0 : Int32)), .val (.int cc.val.toInt32), .val (.ref b74), .val (.ref b78), .unset, .unset, .unset] [(.int (2 : Int32)), (.ref b82), (.ref b82)])) _
    refine XS.iloadN X84.here hx rfl (hb hby at_104) rfl ?_
    show Steps p.tables e below (T84.setTop (mkF m 105 #[.val (.int p0), .val (.int p1), .val (.int p2), .val (.int p3), .val (.int p4), .val (.int p5), .val (.int w.val.toInt32), .val (.int (3 : Int32)), .val (.int (0 : Int32)), .val (.int cc.val.toInt32), .val (.ref b74), .val (.ref b78), .unset, .unset, .unset] [(.int p3), (.int (2 : Int32)), (.ref b82), (.ref b82)])) _
    refine XS.iconst X84.here hx rfl (hb hby at_105) ?_
    show Steps p.tables e below (T84.setTop (mkF m 106 #[.val (.int p0), .val (.int p1), .val (.int p2), .val (.int p3), .val (.int p4), .val (.int p5), .val (.int w.val.toInt32), .val (.int (3 : Int32)), .val (.int (0 : Int32)), .val (.int cc.val.toInt32), .val (.ref b74), .val (.ref b78), .unset, .unset, .unset] [(.int (-1 : Int32)), (.int p3), (.int (2 : Int32)), (.ref b82), (.ref b82)])) _
    refine XT.ixor X84.here hx rfl (hb hby at_106) rfl ?_
    show Steps p.tables e below (T84.setTop (mkF m 107 #[.val (.int p0), .val (.int p1), .val (.int p2), .val (.int p3), .val (.int p4), .val (.int p5), .val (.int w.val.toInt32), .val (.int (3 : Int32)), .val (.int (0 : Int32)), .val (.int cc.val.toInt32), .val (.ref b74), .val (.ref b78), .unset, .unset, .unset] [(.int (p3 ^^^ (-1 : Int32))), (.int (2 : Int32)), (.ref b82), (.ref b82)])) _
    refine st85 _ ?_
    show Steps p.tables e below (T85.setTop (mkF m 108 #[.val (.int p0), .val (.int p1), .val (.int p2), .val (.int p3), .val (.int p4), .val (.int p5), .val (.int w.val.toInt32), .val (.int (3 : Int32)), .val (.int (0 : Int32)), .val (.int cc.val.toInt32), .val (.ref b74), .val (.ref b78), .unset, .unset, .unset] [(.ref b82)])) _
    refine XS.astore X85.here hx rfl (hb hby at_108) rfl rfl (l' := #[.val (.int p0), .val (.int p1), .val (.int p2), .val (.int p3), .val (.int p4), .val (.int p5), .val (.int w.val.toInt32), .val (.int (3 : Int32)), .val (.int (0 : Int32)), .val (.int cc.val.toInt32), .val (.ref b74), .val (.ref b78), .val (.ref b82), .unset, .unset]) rfl ?_
    show Steps p.tables e below (T85.setTop (mkF m 110 #[.val (.int p0), .val (.int p1), .val (.int p2), .val (.int p3), .val (.int p4), .val (.int p5), .val (.int w.val.toInt32), .val (.int (3 : Int32)), .val (.int (0 : Int32)), .val (.int cc.val.toInt32), .val (.ref b74), .val (.ref b78), .val (.ref b82), .unset, .unset] [])) _
    refine st86 _ ?_
    show Steps p.tables e below (T86.setTop (mkF m 113 #[.val (.int p0), .val (.int p1), .val (.int p2), .val (.int p3), .val (.int p4), .val (.int p5), .val (.int w.val.toInt32), .val (.int (3 : Int32)), .val (.int (0 : Int32)), .val (.int cc.val.toInt32), .val (.ref b74), .val (.ref b78), .val (.ref b82), .unset, .unset] [(.ref b86)])) _
    refine XS.dup X86.here hx rfl (hb hby at_113) rfl rfl ?_
    show Steps p.tables e below (T86.setTop (mkF m 114 #[.val (.int p0), .val (.int p1), .val (.int p2), .val (.int p3), .val (.int p4), .val (.int p5), .val (.int w.val.toInt32), .val (.int (3 : Int32)), .val (.int (0 : Int32)), .val (.int cc.val.toInt32), .val (.ref b74), .val (.ref b78), .val (.ref b82), .unset, .unset] [(.ref b86), (.ref b86)])) _
    refine XS.iload X86.here hx rfl (hb hby at_114) rfl ?_
    show Steps p.tables e below (T86.setTop (mkF m 116 #[.val (.int p0), .val (.int p1), .val (.int p2), .val (.int p3), .val (.int p4), .val (.int p5), .val (.int w.val.toInt32), .val (.int (3 : Int32)), .val (.int (0 : Int32)), .val (.int cc.val.toInt32), .val (.ref b74), .val (.ref b78), .val (.ref b82), .unset, .unset] [(.int w.val.toInt32), (.ref b86), (.ref b86)])) _
    refine st87.trans ?_
    show Steps p.tables e below (T87.setTop (mkF m 119 #[.val (.int p0), .val (.int p1), .val (.int p2), .val (.int p3), .val (.int p4), .val (.int p5), .val (.int w.val.toInt32), .val (.int (3 : Int32)), .val (.int (0 : Int32)), .val (.int cc.val.toInt32), .val (.ref b74), .val (.ref b78), .val (.ref b82), .unset, .unset] [(.ref b86)])) _
    refine XS.astore X87.here hx rfl (hb hby at_119) rfl rfl (l' := #[.val (.int p0), .val (.int p1), .val (.int p2), .val (.int p3), .val (.int p4), .val (.int p5), .val (.int w.val.toInt32), .val (.int (3 : Int32)), .val (.int (0 : Int32)), .val (.int cc.val.toInt32), .val (.ref b74), .val (.ref b78), .val (.ref b82), .val (.ref b86), .unset]) rfl ?_
    show Steps p.tables e below (T87.setTop (mkF m 121 #[.val (.int p0), .val (.int p1), .val (.int p2), .val (.int p3), .val (.int p4), .val (.int p5), .val (.int w.val.toInt32), .val (.int (3 : Int32)), .val (.int (0 : Int32)), .val (.int cc.val.toInt32), .val (.ref b74), .val (.ref b78), .val (.ref b82), .val (.ref b86), .unset] [])) _
    refine XS.aload X87.here hx rfl (hb hby at_121) rfl rfl ?_
    show Steps p.tables e below (T87.setTop (mkF m 123 #[.val (.int p0), .val (.int p1), .val (.int p2), .val (.int p3), .val (.int p4), .val (.int p5), .val (.int w.val.toInt32), .val (.int (3 : Int32)), .val (.int (0 : Int32)), .val (.int cc.val.toInt32), .val (.ref b74), .val (.ref b78), .val (.ref b82), .val (.ref b86), .unset] [(.ref b86)])) _
    refine XS.aload X87.here hx rfl (hb hby at_123) rfl rfl ?_
    show Steps p.tables e below (T87.setTop (mkF m 125 #[.val (.int p0), .val (.int p1), .val (.int p2), .val (.int p3), .val (.int p4), .val (.int p5), .val (.int w.val.toInt32), .val (.int (3 : Int32)), .val (.int (0 : Int32)), .val (.int cc.val.toInt32), .val (.ref b74), .val (.ref b78), .val (.ref b82), .val (.ref b86), .unset] [(.ref b74), (.ref b86)])) _
    refine st88.trans ?_
    show Steps p.tables e below (T88.setTop (mkF m 128 #[.val (.int p0), .val (.int p1), .val (.int p2), .val (.int p3), .val (.int p4), .val (.int p5), .val (.int w.val.toInt32), .val (.int (3 : Int32)), .val (.int (0 : Int32)), .val (.int cc.val.toInt32), .val (.ref b74), .val (.ref b78), .val (.ref b82), .val (.ref b86), .unset] [])) _
    refine XS.iload X88.here hx rfl (hb hby at_128) rfl ?_
    show Steps p.tables e below (T88.setTop (mkF m 130 #[.val (.int p0), .val (.int p1), .val (.int p2), .val (.int p3), .val (.int p4), .val (.int p5), .val (.int w.val.toInt32), .val (.int (3 : Int32)), .val (.int (0 : Int32)), .val (.int cc.val.toInt32), .val (.ref b74), .val (.ref b78), .val (.ref b82), .val (.ref b86), .unset] [(.int (3 : Int32))])) _
    refine XS.iconst X88.here hx rfl (hb hby at_130) ?_
    show Steps p.tables e below (T88.setTop (mkF m 131 #[.val (.int p0), .val (.int p1), .val (.int p2), .val (.int p3), .val (.int p4), .val (.int p5), .val (.int w.val.toInt32), .val (.int (3 : Int32)), .val (.int (0 : Int32)), .val (.int cc.val.toInt32), .val (.ref b74), .val (.ref b78), .val (.ref b82), .val (.ref b86), .unset] [(.int (2 : Int32)), (.int (3 : Int32))])) _
    refine XS.icmpNo X88.here hx rfl (hb hby at_131) rfl (XT.ii_lt_f (by decide)) ?_
    show Steps p.tables e below (T88.setTop (mkF m 134 #[.val (.int p0), .val (.int p1), .val (.int p2), .val (.int p3), .val (.int p4), .val (.int p5), .val (.int w.val.toInt32), .val (.int (3 : Int32)), .val (.int (0 : Int32)), .val (.int cc.val.toInt32), .val (.ref b74), .val (.ref b78), .val (.ref b82), .val (.ref b86), .unset] [])) _
    refine XS.aload X88.here hx rfl (hb hby at_134) rfl rfl ?_
    show Steps p.tables e below (T88.setTop (mkF m 136 #[.val (.int p0), .val (.int p1), .val (.int p2), .val (.int p3), .val (.int p4), .val (.int p5), .val (.int w.val.toInt32), .val (.int (3 : Int32)), .val (.int (0 : Int32)), .val (.int cc.val.toInt32), .val (.ref b74), .val (.ref b78), .val (.ref b82), .val (.ref b86), .unset] [(.ref b86)])) _
    refine XS.aload X88.here hx rfl (hb hby at_136) rfl rfl ?_
    show Steps p.tables e below (T88.setTop (mkF m 138 #[.val (.int p0), .val (.int p1), .val (.int p2), .val (.int p3), .val (.int p4), .val (.int p5), .val (.int w.val.toInt32), .val (.int (3 : Int32)), .val (.int (0 : Int32)), .val (.int cc.val.toInt32), .val (.ref b74), .val (.ref b78), .val (.ref b82), .val (.ref b86), .unset] [(.ref b78), (.ref b86)])) _
    refine st89.trans ?_
    show Steps p.tables e below (T89.setTop (mkF m 141 #[.val (.int p0), .val (.int p1), .val (.int p2), .val (.int p3), .val (.int p4), .val (.int p5), .val (.int w.val.toInt32), .val (.int (3 : Int32)), .val (.int (0 : Int32)), .val (.int cc.val.toInt32), .val (.ref b74), .val (.ref b78), .val (.ref b82), .val (.ref b86), .unset] [])) _
    refine XS.iload X89.here hx rfl (hb hby at_141) rfl ?_
    show Steps p.tables e below (T89.setTop (mkF m 143 #[.val (.int p0), .val (.int p1), .val (.int p2), .val (.int p3), .val (.int p4), .val (.int p5), .val (.int w.val.toInt32), .val (.int (3 : Int32)), .val (.int (0 : Int32)), .val (.int cc.val.toInt32), .val (.ref b74), .val (.ref b78), .val (.ref b82), .val (.ref b86), .unset] [(.int (3 : Int32))])) _
    refine XS.iconst X89.here hx rfl (hb hby at_143) ?_
    show Steps p.tables e below (T89.setTop (mkF m 144 #[.val (.int p0), .val (.int p1), .val (.int p2), .val (.int p3), .val (.int p4), .val (.int p5), .val (.int w.val.toInt32), .val (.int (3 : Int32)), .val (.int (0 : Int32)), .val (.int cc.val.toInt32), .val (.ref b74), .val (.ref b78), .val (.ref b82), .val (.ref b86), .unset] [(.int (3 : Int32)), (.int (3 : Int32))])) _
    refine XS.icmpNo X89.here hx rfl (hb hby at_144) rfl (XT.ii_lt_f (by decide)) ?_
    show Steps p.tables e below (T89.setTop (mkF m 147 #[.val (.int p0), .val (.int p1), .val (.int p2), .val (.int p3), .val (.int p4), .val (.int p5), .val (.int w.val.toInt32), .val (.int (3 : Int32)), .val (.int (0 : Int32)), .val (.int cc.val.toInt32), .val (.ref b74), .val (.ref b78), .val (.ref b82), .val (.ref b86), .unset] [])) _
    refine XS.aload X89.here hx rfl (hb hby at_147) rfl rfl ?_
    show Steps p.tables e below (T89.setTop (mkF m 149 #[.val (.int p0), .val (.int p1), .val (.int p2), .val (.int p3), .val (.int p4), .val (.int p5), .val (.int w.val.toInt32), .val (.int (3 : Int32)), .val (.int (0 : Int32)), .val (.int cc.val.toInt32), .val (.ref b74), .val (.ref b78), .val (.ref b82), .val (.ref b86), .unset] [(.ref b86)])) _
    refine XS.aload X89.here hx rfl (hb hby at_149) rfl rfl ?_
    show Steps p.tables e below (T89.setTop (mkF m 151 #[.val (.int p0), .val (.int p1), .val (.int p2), .val (.int p3), .val (.int p4), .val (.int p5), .val (.int w.val.toInt32), .val (.int (3 : Int32)), .val (.int (0 : Int32)), .val (.int cc.val.toInt32), .val (.ref b74), .val (.ref b78), .val (.ref b82), .val (.ref b86), .unset] [(.ref b82), (.ref b86)])) _
    refine st90.trans ?_
    show Steps p.tables e below (T90.setTop (mkF m 154 #[.val (.int p0), .val (.int p1), .val (.int p2), .val (.int p3), .val (.int p4), .val (.int p5), .val (.int w.val.toInt32), .val (.int (3 : Int32)), .val (.int (0 : Int32)), .val (.int cc.val.toInt32), .val (.ref b74), .val (.ref b78), .val (.ref b82), .val (.ref b86), .unset] [])) _
    refine XS.iload X90.here hx rfl (hb hby at_154) rfl ?_
    show Steps p.tables e below (T90.setTop (mkF m 156 #[.val (.int p0), .val (.int p1), .val (.int p2), .val (.int p3), .val (.int p4), .val (.int p5), .val (.int w.val.toInt32), .val (.int (3 : Int32)), .val (.int (0 : Int32)), .val (.int cc.val.toInt32), .val (.ref b74), .val (.ref b78), .val (.ref b82), .val (.ref b86), .unset] [(.int (0 : Int32))])) _
    refine XS.ifNo X90.here hx rfl (hb hby at_156) rfl (XT.i0_ne_f (by decide)) ?_
    show Steps p.tables e below (T90.setTop (mkF m 159 #[.val (.int p0), .val (.int p1), .val (.int p2), .val (.int p3), .val (.int p4), .val (.int p5), .val (.int w.val.toInt32), .val (.int (3 : Int32)), .val (.int (0 : Int32)), .val (.int cc.val.toInt32), .val (.ref b74), .val (.ref b78), .val (.ref b82), .val (.ref b86), .unset] [])) _
    refine XS.aload X90.here hx rfl (hb hby at_159) rfl rfl ?_
    show Steps p.tables e below (T90.setTop (mkF m 161 #[.val (.int p0), .val (.int p1), .val (.int p2), .val (.int p3), .val (.int p4), .val (.int p5), .val (.int w.val.toInt32), .val (.int (3 : Int32)), .val (.int (0 : Int32)), .val (.int cc.val.toInt32), .val (.ref b74), .val (.ref b78), .val (.ref b82), .val (.ref b86), .unset] [(.ref b74)])) _
    refine XS.iload X90.here hx rfl (hb hby at_161) rfl ?_
    show Steps p.tables e below (T90.setTop (mkF m 163 #[.val (.int p0), .val (.int p1), .val (.int p2), .val (.int p3), .val (.int p4), .val (.int p5), .val (.int w.val.toInt32), .val (.int (3 : Int32)), .val (.int (0 : Int32)), .val (.int cc.val.toInt32), .val (.ref b74), .val (.ref b78), .val (.ref b82), .val (.ref b86), .unset] [(.int cc.val.toInt32), (.ref b74)])) _
    refine X90.iaload hx (j := cc.val.toInt32) (v := (.int (own_x (upd (upd (upd (fun _ => (.int 0)) 0 (.int p0)) 1 (.int p1)) 2 (.int p2)) cc.val))) Ar91.1 (State.isArrayOf_alike hZ.alike Ar91.2.1) Ar91.2.2 hin91 hat91 (g := (mkF m 163 #[.val (.int p0), .val (.int p1), .val (.int p2), .val (.int p3), .val (.int p4), .val (.int p5), .val (.int w.val.toInt32), .val (.int (3 : Int32)), .val (.int (0 : Int32)), .val (.int cc.val.toInt32), .val (.ref b74), .val (.ref b78), .val (.ref b82), .val (.ref b86), .unset] [(.int cc.val.toInt32), (.ref b74)])) rfl rfl (hb hby at_163) _ ?_
    show Steps p.tables e below (T90.setTop (mkF m 164 #[.val (.int p0), .val (.int p1), .val (.int p2), .val (.int p3), .val (.int p4), .val (.int p5), .val (.int w.val.toInt32), .val (.int (3 : Int32)), .val (.int (0 : Int32)), .val (.int cc.val.toInt32), .val (.ref b74), .val (.ref b78), .val (.ref b82), .val (.ref b86), .unset] [(.int (own_x (upd (upd (upd (fun _ => (.int 0)) 0 (.int p0)) 1 (.int p1)) 2 (.int p2)) cc.val))])) _
    refine XS.istore X90.here hx rfl (hb hby at_164) rfl (l' := #[.val (.int p0), .val (.int p1), .val (.int p2), .val (.int p3), .val (.int p4), .val (.int p5), .val (.int w.val.toInt32), .val (.int (3 : Int32)), .val (.int (0 : Int32)), .val (.int cc.val.toInt32), .val (.ref b74), .val (.ref b78), .val (.ref b82), .val (.ref b86), .val (.int (own_x (upd (upd (upd (fun _ => (.int 0)) 0 (.int p0)) 1 (.int p1)) 2 (.int p2)) cc.val))]) rfl ?_
    show Steps p.tables e below (T90.setTop (mkF m 166 #[.val (.int p0), .val (.int p1), .val (.int p2), .val (.int p3), .val (.int p4), .val (.int p5), .val (.int w.val.toInt32), .val (.int (3 : Int32)), .val (.int (0 : Int32)), .val (.int cc.val.toInt32), .val (.ref b74), .val (.ref b78), .val (.ref b82), .val (.ref b86), .val (.int (own_x (upd (upd (upd (fun _ => (.int 0)) 0 (.int p0)) 1 (.int p1)) 2 (.int p2)) cc.val))] [])) _
    refine XS.goto X90.here hx rfl (pc0 := 166) (pc' := 192) rfl (hb hby at_166) (by decide) (by decide) ?_
    show Steps p.tables e below (T90.setTop (mkF m 192 #[.val (.int p0), .val (.int p1), .val (.int p2), .val (.int p3), .val (.int p4), .val (.int p5), .val (.int w.val.toInt32), .val (.int (3 : Int32)), .val (.int (0 : Int32)), .val (.int cc.val.toInt32), .val (.ref b74), .val (.ref b78), .val (.ref b82), .val (.ref b86), .val (.int (own_x (upd (upd (upd (fun _ => (.int 0)) 0 (.int p0)) 1 (.int p1)) 2 (.int p2)) cc.val))] [])) _
    refine XS.aload X90.here hx rfl (hb hby at_192) rfl rfl ?_
    show Steps p.tables e below (T90.setTop (mkF m 194 #[.val (.int p0), .val (.int p1), .val (.int p2), .val (.int p3), .val (.int p4), .val (.int p5), .val (.int w.val.toInt32), .val (.int (3 : Int32)), .val (.int (0 : Int32)), .val (.int cc.val.toInt32), .val (.ref b74), .val (.ref b78), .val (.ref b82), .val (.ref b86), .val (.int (own_x (upd (upd (upd (fun _ => (.int 0)) 0 (.int p0)) 1 (.int p1)) 2 (.int p2)) cc.val))] [(.ref b86)])) _
    refine XS.iload X90.here hx rfl (hb hby at_194) rfl ?_
    show Steps p.tables e below (T90.setTop (mkF m 196 #[.val (.int p0), .val (.int p1), .val (.int p2), .val (.int p3), .val (.int p4), .val (.int p5), .val (.int w.val.toInt32), .val (.int (3 : Int32)), .val (.int (0 : Int32)), .val (.int cc.val.toInt32), .val (.ref b74), .val (.ref b78), .val (.ref b82), .val (.ref b86), .val (.int (own_x (upd (upd (upd (fun _ => (.int 0)) 0 (.int p0)) 1 (.int p1)) 2 (.int p2)) cc.val))] [(.int (0 : Int32)), (.ref b86)])) _
    refine XS.iload X90.here hx rfl (hb hby at_196) rfl ?_
    show Steps p.tables e below (T90.setTop (mkF m 198 #[.val (.int p0), .val (.int p1), .val (.int p2), .val (.int p3), .val (.int p4), .val (.int p5), .val (.int w.val.toInt32), .val (.int (3 : Int32)), .val (.int (0 : Int32)), .val (.int cc.val.toInt32), .val (.ref b74), .val (.ref b78), .val (.ref b82), .val (.ref b86), .val (.int (own_x (upd (upd (upd (fun _ => (.int 0)) 0 (.int p0)) 1 (.int p1)) 2 (.int p2)) cc.val))] [(.int cc.val.toInt32), (.int (0 : Int32)), (.ref b86)])) _
    refine st92.trans ?_
    show Steps p.tables e below (T92.setTop (mkF m 201 #[.val (.int p0), .val (.int p1), .val (.int p2), .val (.int p3), .val (.int p4), .val (.int p5), .val (.int w.val.toInt32), .val (.int (3 : Int32)), .val (.int (0 : Int32)), .val (.int cc.val.toInt32), .val (.ref b74), .val (.ref b78), .val (.ref b82), .val (.ref b86), .val (.int (own_x (upd (upd (upd (fun _ => (.int 0)) 0 (.int p0)) 1 (.int p1)) 2 (.int p2)) cc.val))] [(.int (own_x (upd (upd (upd (fun _ => (.int 0)) 0 (.int p0)) 1 (.int p1)) 2 (.int p2)) cc.val))])) _
    refine XS.iload X92.here hx rfl (hb hby at_201) rfl ?_
    show Steps p.tables e below (T92.setTop (mkF m 203 #[.val (.int p0), .val (.int p1), .val (.int p2), .val (.int p3), .val (.int p4), .val (.int p5), .val (.int w.val.toInt32), .val (.int (3 : Int32)), .val (.int (0 : Int32)), .val (.int cc.val.toInt32), .val (.ref b74), .val (.ref b78), .val (.ref b82), .val (.ref b86), .val (.int (own_x (upd (upd (upd (fun _ => (.int 0)) 0 (.int p0)) 1 (.int p1)) 2 (.int p2)) cc.val))] [(.int (own_x (upd (upd (upd (fun _ => (.int 0)) 0 (.int p0)) 1 (.int p1)) 2 (.int p2)) cc.val)), (.int (own_x (upd (upd (upd (fun _ => (.int 0)) 0 (.int p0)) 1 (.int p1)) 2 (.int p2)) cc.val))])) _
    refine XS.icmpNo X92.here hx rfl (hb hby at_203) rfl (XT.ii_ne_f rfl) ?_
    show Steps p.tables e below (T92.setTop (mkF m 206 #[.val (.int p0), .val (.int p1), .val (.int p2), .val (.int p3), .val (.int p4), .val (.int p5), .val (.int w.val.toInt32), .val (.int (3 : Int32)), .val (.int (0 : Int32)), .val (.int cc.val.toInt32), .val (.ref b74), .val (.ref b78), .val (.ref b82), .val (.ref b86), .val (.int (own_x (upd (upd (upd (fun _ => (.int 0)) 0 (.int p0)) 1 (.int p1)) 2 (.int p2)) cc.val))] [])) _
    refine XS.iconst X92.here hx rfl (hb hby at_206) ?_
    show Steps p.tables e below (T92.setTop (mkF m 207 #[.val (.int p0), .val (.int p1), .val (.int p2), .val (.int p3), .val (.int p4), .val (.int p5), .val (.int w.val.toInt32), .val (.int (3 : Int32)), .val (.int (0 : Int32)), .val (.int cc.val.toInt32), .val (.ref b74), .val (.ref b78), .val (.ref b82), .val (.ref b86), .val (.int (own_x (upd (upd (upd (fun _ => (.int 0)) 0 (.int p0)) 1 (.int p1)) 2 (.int p2)) cc.val))] [(.int (1 : Int32))])) _
    refine XS.goto X92.here hx rfl (pc0 := 207) (pc' := 211) rfl (hb hby at_207) (by decide) (by decide) ?_
    show Steps p.tables e below (T92.setTop (mkF m 211 #[.val (.int p0), .val (.int p1), .val (.int p2), .val (.int p3), .val (.int p4), .val (.int p5), .val (.int w.val.toInt32), .val (.int (3 : Int32)), .val (.int (0 : Int32)), .val (.int cc.val.toInt32), .val (.ref b74), .val (.ref b78), .val (.ref b82), .val (.ref b86), .val (.int (own_x (upd (upd (upd (fun _ => (.int 0)) 0 (.int p0)) 1 (.int p1)) 2 (.int p2)) cc.val))] [(.int (1 : Int32))])) _
    exact retN X92 hx (t := .boolean) Bd.returns (by simp) (hb hby at_211) hr
  · show Q_own_law_3_0 Z p0 p1 p2 p3 p4 p5 w cc h0 n0 _ T92.heap _
    rw [eh92]
    exact ⟨rfl, N92⟩
theorem pn_own_law_3_1 : plainName "com/example/factwell/factwell/pql/RowsGetPinLaw" = true := by first | (simp [plainName, overriddenIn]; done) | decide +kernel
theorem ef_own_law_3_1 (m : MethodId) (x0 : Int32) (x1 : Int32) (x2 : Int32) (x3 : Int32) (x4 : Int32) (x5 : Int32) : entryFrame m #[(.int x0), (.int x1), (.int x2), (.int x3), (.int x4), (.int x5)] maxLocals = mkF m 0 #[.val (.int x0), .val (.int x1), .val (.int x2), .val (.int x3), .val (.int x4), .val (.int x5), .unset, .unset, .unset, .unset, .unset, .unset, .unset, .unset, .unset] [] := by first | (simp [entryFrame, mkF, argsToLocals, Value.category, maxLocals]; done) | rfl
def Q_own_law_3_1 (Z : State) (p0 : Int32) (p1 : Int32) (p2 : Int32) (p3 : Int32) (p4 : Int32) (p5 : Int32) (w : Fin 4) (cc : Fin 3) (h0 : Heap) (n0 : Nat) (v : Option Value) (h : Heap) (L : List Loc) : Prop := v = some (.int 1) ∧ Fr n0 L
set_option maxRecDepth 65536 in
set_option maxHeartbeats 40000000 in
theorem own_law_3_1 (l : Launch) (Z : State) (a0 : Array Value) (hw : ∀ d ∈ tables_1, d.before a0 Z = true) (ws : List Jvm.Cond) (p0 : Int32) (p1 : Int32) (p2 : Int32) (p3 : Int32) (p4 : Int32) (p5 : Int32) (w : Fin 4) (cc : Fin 3) (h0 : Heap) (n0 : Nat) (Z0 : n0 ≤ h0.size) (hW_ : ((1 : Int32) + ((p5 &&& (15 : Int32)) % (3 : Int32))) = w.val.toInt32) (hN_ : ((1 : Int32) + (((XT.ushr p5 (4 : Int32)) &&& (15 : Int32)) % (3 : Int32))) = (3 : Int32)) (hR_ : (((XT.ushr p5 (8 : Int32)) &&& (15 : Int32)) % (3 : Int32)) = (1 : Int32)) (hC_ : (((XT.ushr p5 (12 : Int32)) &&& (15 : Int32)) % w.val.toInt32) = cc.val.toInt32) (hw1 : 1 ≤ w.val) (hcw : cc.val < w.val) :
    MetFree l x (head1 (Jvm.Cond.code x code maxLocals ret :: ws) room_1) (fun a U => a = #[(.int p0), (.int p1), (.int p2), (.int p3), (.int p4), (.int p5)] ∧ Z.Warmed39 U.vm ∧ U.heap = h0) (fun _ _ _ _ _ => True) (fun _ U o U' => ∃ v L, o = .returned v ∧ Q_own_law_3_1 Z p0 p1 p2 p3 p4 p5 w cc h0 n0 v U'.heap L ∧ FrameEnd U o U' L 24 192) := by
  refine MetFree.of_bodySF (plainFor_of_name pn_own_law_3_1) hisR ?_
  intro p e s m args below meth c s₁ Bd hml0 hP hK
  obtain ⟨rfl, hZ, hh⟩ := hP
  have hx := Bd.exec
  have hby := Bd.bytes
  have hml : c.maxLocals = 15 := hml0
  have hown : s.vm.findClass "com/example/factwell/factwell/pql/RowsGetPinLaw" = some m.cls := findClass_of_methodNamed Bd.named
  have hnm := (name_of_methodNamed Bd.named Bd.method).1
  have X0 : Stand p l e room_1 s m #[(.int p0), (.int p1), (.int p2), (.int p3), (.int p4), (.int p5)] below meth c s₁ [] 0 0 := Stand.of_body Bd
  have e0 : s₁.heap = h0 := by rw [← hh, Bd.state]; rfl
  have N0 := Fr.nil n0
  have pre0 : ∀ t, Steps p.tables e below (s₁.setTop (mkF m 0 #[.val (.int p0), .val (.int p1), .val (.int p2), .val (.int p3), .val (.int p4), .val (.int p5), .unset, .unset, .unset, .unset, .unset, .unset, .unset, .unset, .unset] [])) t → Steps p.tables e below (s₁.setTop (entryFrame m #[(.int p0), (.int p1), (.int p2), (.int p3), (.int p4), (.int p5)] maxLocals)) t := fun t k => castTop (ef_own_law_3_1 m (p0) (p1) (p2) (p3) (p4) (p5)) k
  obtain ⟨T93, h93, k93, X93, e93, E93, A93, st93⟩ := newP X0 hx hZ (hw _ (List.mem_of_getElem? (i := 0) rfl)) e0 (g := (mkF m 51 #[.val (.int p0), .val (.int p1), .val (.int p2), .val (.int p3), .val (.int p4), .val (.int p5), .val (.int w.val.toInt32), .val (.int (3 : Int32)), .val (.int (1 : Int32)), .val (.int cc.val.toInt32), .unset, .unset, .unset, .unset, .unset] [(.int (3 : Int32))])) rfl (hb hby at_51) rfl (by decide) (cap := 3) (by decide) (by decide) (by decide) (by decide)
  obtain ⟨b93, g93⟩ : ∃ z, z = h0.size := ⟨_, rfl⟩
  rw [← g93] at A93 st93
  have g_b93 : n0 ≤ b93 := Nat.le_trans Z0 (Nat.le_of_eq g93.symm)
  have V93 := Arf.new (n := 3) A93 (by decide) rfl
  obtain ⟨cl94, Ar94, qk94, S94, B94, H94, G94⟩ := id V93
  have hin94 : ¬ ((0 : Int32) < 0 ∨ cl94.slots.size ≤ ((0 : Int32)).toNatClampNeg) := own_inb S94 ⟨by decide, rfl⟩ (by decide)
  obtain ⟨T94, h94, X94, e94, W94, st94⟩ := stI X93 hx hZ e93 Ar94 (j := (0 : Int32)) hin94 (g := (mkF m 56 #[.val (.int p0), .val (.int p1), .val (.int p2), .val (.int p3), .val (.int p4), .val (.int p5), .val (.int w.val.toInt32), .val (.int (3 : Int32)), .val (.int (1 : Int32)), .val (.int cc.val.toInt32), .unset, .unset, .unset, .unset, .unset] [(.int p0), (.int (0 : Int32)), (.ref b93), (.ref b93)])) rfl rfl (hb hby at_56)
  have V94 := own_set Ar94 qk94 S94 B94 H94 G94 rfl ⟨by decide, rfl⟩ W94
  have N94 := Fr.snoc X94 N0 g_b93
  obtain ⟨cl95, Ar95, qk95, S95, B95, H95, G95⟩ := id V94
  have hin95 : ¬ ((1 : Int32) < 0 ∨ cl95.slots.size ≤ ((1 : Int32)).toNatClampNeg) := own_inb S95 ⟨by decide, rfl⟩ (by decide)
  obtain ⟨T95, h95, X95, e95, W95, st95⟩ := stI X94 hx hZ e94 Ar95 (j := (1 : Int32)) hin95 (g := (mkF m 60 #[.val (.int p0), .val (.int p1), .val (.int p2), .val (.int p3), .val (.int p4), .val (.int p5), .val (.int w.val.toInt32), .val (.int (3 : Int32)), .val (.int (1 : Int32)), .val (.int cc.val.toInt32), .unset, .unset, .unset, .unset, .unset] [(.int p1), (.int (1 : Int32)), (.ref b93), (.ref b93)])) rfl rfl (hb hby at_60)
  have V95 := own_set Ar95 qk95 S95 B95 H95 G95 rfl ⟨by decide, rfl⟩ W95
  have N95 := Fr.snoc X95 N94 g_b93
  obtain ⟨cl96, Ar96, qk96, S96, B96, H96, G96⟩ := id V95
  have hin96 : ¬ ((2 : Int32) < 0 ∨ cl96.slots.size ≤ ((2 : Int32)).toNatClampNeg) := own_inb S96 ⟨by decide, rfl⟩ (by decide)
  obtain ⟨T96, h96, X96, e96, W96, st96⟩ := stI X95 hx hZ e95 Ar96 (j := (2 : Int32)) hin96 (g := (mkF m 64 #[.val (.int p0), .val (.int p1), .val (.int p2), .val (.int p3), .val (.int p4), .val (.int p5), .val (.int w.val.toInt32), .val (.int (3 : Int32)), .val (.int (1 : Int32)), .val (.int cc.val.toInt32), .unset, .unset, .unset, .unset, .unset] [(.int p2), (.int (2 : Int32)), (.ref b93), (.ref b93)])) rfl rfl (hb hby at_64)
  have V96 := own_set Ar96 qk96 S96 B96 H96 G96 rfl ⟨by decide, rfl⟩ W96
  have N96 := Fr.snoc X96 N95 g_b93
  obtain ⟨T97, h97, k97, X97, e97, E97, A97, st97⟩ := newP X96 hx hZ (hw _ (List.mem_of_getElem? (i := 0) rfl)) e96 (g := (mkF m 68 #[.val (.int p0), .val (.int p1), .val (.int p2), .val (.int p3), .val (.int p4), .val (.int p5), .val (.int w.val.toInt32), .val (.int (3 : Int32)), .val (.int (1 : Int32)), .val (.int cc.val.toInt32), .val (.ref b93), .unset, .unset, .unset, .unset] [(.int (3 : Int32))])) rfl (hb hby at_68) rfl (by decide) (cap := 3) (by decide) (by decide) (by decide) (by decide)
  obtain ⟨b97, g97⟩ : ∃ z, z = h96.size := ⟨_, rfl⟩
  rw [← g97] at A97 st97
  have g_b97 : n0 ≤ b97 := Nat.le_trans (Nat.le_trans (Nat.le_trans (Nat.le_trans (Nat.le_trans Z0 E93.1) (Keep.of_wr W94).1) (Keep.of_wr W95).1) (Keep.of_wr W96).1) (Nat.le_of_eq g97.symm)
  have lt_b93_b97 : b93 < b97 := Nat.lt_of_lt_of_eq V96.lt g97.symm
  have V97 := Arf.new (n := 3) A97 (by decide) rfl
  obtain ⟨cl98, Ar98, qk98, S98, B98, H98, G98⟩ := id V97
  have hin98 : ¬ ((0 : Int32) < 0 ∨ cl98.slots.size ≤ ((0 : Int32)).toNatClampNeg) := own_inb S98 ⟨by decide, rfl⟩ (by decide)
  obtain ⟨T98, h98, X98, e98, W98, st98⟩ := stI X97 hx hZ e97 Ar98 (j := (0 : Int32)) hin98 (g := (mkF m 73 #[.val (.int p0), .val (.int p1), .val (.int p2), .val (.int p3), .val (.int p4), .val (.int p5), .val (.int w.val.toInt32), .val (.int (3 : Int32)), .val (.int (1 : Int32)), .val (.int cc.val.toInt32), .val (.ref b93), .unset, .unset, .unset, .unset] [(.int p3), (.int (0 : Int32)), (.ref b97), (.ref b97)])) rfl rfl (hb hby at_73)
  have V98 := own_set Ar98 qk98 S98 B98 H98 G98 rfl ⟨by decide, rfl⟩ W98
  have N98 := Fr.snoc X98 N96 g_b97
  obtain ⟨cl99, Ar99, qk99, S99, B99, H99, G99⟩ := id V98
  have hin99 : ¬ ((1 : Int32) < 0 ∨ cl99.slots.size ≤ ((1 : Int32)).toNatClampNeg) := own_inb S99 ⟨by decide, rfl⟩ (by decide)
  obtain ⟨T99, h99, X99, e99, W99, st99⟩ := stI X98 hx hZ e98 Ar99 (j := (1 : Int32)) hin99 (g := (mkF m 78 #[.val (.int p0), .val (.int p1), .val (.int p2), .val (.int p3), .val (.int p4), .val (.int p5), .val (.int w.val.toInt32), .val (.int (3 : Int32)), .val (.int (1 : Int32)), .val (.int cc.val.toInt32), .val (.ref b93), .unset, .unset, .unset, .unset] [(.int p4), (.int (1 : Int32)), (.ref b97), (.ref b97)])) rfl rfl (hb hby at_78)
  have V99 := own_set Ar99 qk99 S99 B99 H99 G99 rfl ⟨by decide, rfl⟩ W99
  have N99 := Fr.snoc X99 N98 g_b97
  obtain ⟨cl100, Ar100, qk100, S100, B100, H100, G100⟩ := id V99
  have hin100 : ¬ ((2 : Int32) < 0 ∨ cl100.slots.size ≤ ((2 : Int32)).toNatClampNeg) := own_inb S100 ⟨by decide, rfl⟩ (by decide)
  obtain ⟨T100, h100, X100, e100, W100, st100⟩ := stI X99 hx hZ e99 Ar100 (j := (2 : Int32)) hin100 (g := (mkF m 84 #[.val (.int p0), .val (.int p1), .val (.int p2), .val (.int p3), .val (.int p4), .val (.int p5), .val (.int w.val.toInt32), .val (.int (3 : Int32)), .val (.int (1 : Int32)), .val (.int cc.val.toInt32), .val (.ref b93), .unset, .unset, .unset, .unset] [(.int (p0 ^^^ (-1 : Int32))), (.int (2 : Int32)), (.ref b97), (.ref b97)])) rfl rfl (hb hby at_84)
  have V100 := own_set Ar100 qk100 S100 B100 H100 G100 rfl ⟨by decide, rfl⟩ W100
  have N100 := Fr.snoc X100 N99 g_b97
  obtain ⟨T101, h101, k101, X101, e101, E101, A101, st101⟩ := newP X100 hx hZ (hw _ (List.mem_of_getElem? (i := 0) rfl)) e100 (g := (mkF m 88 #[.val (.int p0), .val (.int p1), .val (.int p2), .val (.int p3), .val (.int p4), .val (.int p5), .val (.int w.val.toInt32), .val (.int (3 : Int32)), .val (.int (1 : Int32)), .val (.int cc.val.toInt32), .val (.ref b93), .val (.ref b97), .unset, .unset, .unset] [(.int (3 : Int32))])) rfl (hb hby at_88) rfl (by decide) (cap := 3) (by decide) (by decide) (by decide) (by decide)
  obtain ⟨b101, g101⟩ : ∃ z, z = h100.size := ⟨_, rfl⟩
  rw [← g101] at A101 st101
  have g_b101 : n0 ≤ b101 := Nat.le_trans (Nat.le_trans (Nat.le_trans (Nat.le_trans (Nat.le_trans (Nat.le_trans (Nat.le_trans (Nat.le_trans (Nat.le_trans Z0 E93.1) (Keep.of_wr W94).1) (Keep.of_wr W95).1) (Keep.of_wr W96).1) E97.1) (Keep.of_wr W98).1) (Keep.of_wr W99).1) (Keep.of_wr W100).1) (Nat.le_of_eq g101.symm)
  have lt_b93_b101 : b93 < b101 := Nat.lt_of_lt_of_eq ((((V96.ext E97).other W98 (Nat.ne_of_lt lt_b93_b97)).other W99 (Nat.ne_of_lt lt_b93_b97)).other W100 (Nat.ne_of_lt lt_b93_b97)).lt g101.symm
  have lt_b97_b101 : b97 < b101 := Nat.lt_of_lt_of_eq V100.lt g101.symm
  have V101 := Arf.new (n := 3) A101 (by decide) rfl
  obtain ⟨cl102, Ar102, qk102, S102, B102, H102, G102⟩ := id V101
  have hin102 : ¬ ((0 : Int32) < 0 ∨ cl102.slots.size ≤ ((0 : Int32)).toNatClampNeg) := own_inb S102 ⟨by decide, rfl⟩ (by decide)
  obtain ⟨T102, h102, X102, e102, W102, st102⟩ := stI X101 hx hZ e101 Ar102 (j := (0 : Int32)) hin102 (g := (mkF m 95 #[.val (.int p0), .val (.int p1), .val (.int p2), .val (.int p3), .val (.int p4), .val (.int p5), .val (.int w.val.toInt32), .val (.int (3 : Int32)), .val (.int (1 : Int32)), .val (.int cc.val.toInt32), .val (.ref b93), .val (.ref b97), .unset, .unset, .unset] [(.int (p1 ^^^ (-1 : Int32))), (.int (0 : Int32)), (.ref b101), (.ref b101)])) rfl rfl (hb hby at_95)
  have V102 := own_set Ar102 qk102 S102 B102 H102 G102 rfl ⟨by decide, rfl⟩ W102
  have N102 := Fr.snoc X102 N100 g_b101
  obtain ⟨cl103, Ar103, qk103, S103, B103, H103, G103⟩ := id V102
  have hin103 : ¬ ((1 : Int32) < 0 ∨ cl103.slots.size ≤ ((1 : Int32)).toNatClampNeg) := own_inb S103 ⟨by decide, rfl⟩ (by decide)
  obtain ⟨T103, h103, X103, e103, W103, st103⟩ := stI X102 hx hZ e102 Ar103 (j := (1 : Int32)) hin103 (g := (mkF m 101 #[.val (.int p0), .val (.int p1), .val (.int p2), .val (.int p3), .val (.int p4), .val (.int p5), .val (.int w.val.toInt32), .val (.int (3 : Int32)), .val (.int (1 : Int32)), .val (.int cc.val.toInt32), .val (.ref b93), .val (.ref b97), .unset, .unset, .unset] [(.int (p2 ^^^ (-1 : Int32))), (.int (1 : Int32)), (.ref b101), (.ref b101)])) rfl rfl (hb hby at_101)
  have V103 := own_set Ar103 qk103 S103 B103 H103 G103 rfl ⟨by decide, rfl⟩ W103
  have N103 := Fr.snoc X103 N102 g_b101
  obtain ⟨cl104, Ar104, qk104, S104, B104, H104, G104⟩ := id V103
  have hin104 : ¬ ((2 : Int32) < 0 ∨ cl104.slots.size ≤ ((2 : Int32)).toNatClampNeg) := own_inb S104 ⟨by decide, rfl⟩ (by decide)
  obtain ⟨T104, h104, X104, e104, W104, st104⟩ := stI X103 hx hZ e103 Ar104 (j := (2 : Int32)) hin104 (g := (mkF m 107 #[.val (.int p0), .val (.int p1), .val (.int p2), .val (.int p3), .val (.int p4), .val (.int p5), .val (.int w.val.toInt32), .val (.int (3 : Int32)), .val (.int (1 : Int32)), .val (.int cc.val.toInt32), .val (.ref b93), .val (.ref b97), .unset, .unset, .unset] [(.int (p3 ^^^ (-1 : Int32))), (.int (2 : Int32)), (.ref b101), (.ref b101)])) rfl rfl (hb hby at_107)
  have V104 := own_set Ar104 qk104 S104 B104 H104 G104 rfl ⟨by decide, rfl⟩ W104
  have N104 := Fr.snoc X104 N103 g_b101
  obtain ⟨T105, h105, X105, e105, E105, A105, D105, -, st105⟩ := newO X104 hx hZ hown (hw _ (List.mem_of_getElem? (i := 1) rfl)) (hw _ (List.mem_of_getElem? (i := 2) rfl)) (hw _ (List.mem_of_getElem? (i := 3) rfl)) e104 (g := (mkF m 110 #[.val (.int p0), .val (.int p1), .val (.int p2), .val (.int p3), .val (.int p4), .val (.int p5), .val (.int w.val.toInt32), .val (.int (3 : Int32)), .val (.int (1 : Int32)), .val (.int cc.val.toInt32), .val (.ref b93), .val (.ref b97), .val (.ref b101), .unset, .unset] [])) rfl (hb hby at_110) (by decide) (by decide)
  obtain ⟨b105, g105⟩ : ∃ z, z = h104.size := ⟨_, rfl⟩
  rw [← g105] at A105 D105 st105
  have g_b105 : n0 ≤ b105 := Nat.le_trans (Nat.le_trans (Nat.le_trans (Nat.le_trans (Nat.le_trans (Nat.le_trans (Nat.le_trans (Nat.le_trans (Nat.le_trans (Nat.le_trans (Nat.le_trans (Nat.le_trans (Nat.le_trans Z0 E93.1) (Keep.of_wr W94).1) (Keep.of_wr W95).1) (Keep.of_wr W96).1) E97.1) (Keep.of_wr W98).1) (Keep.of_wr W99).1) (Keep.of_wr W100).1) E101.1) (Keep.of_wr W102).1) (Keep.of_wr W103).1) (Keep.of_wr W104).1) (Nat.le_of_eq g105.symm)
  have lt_b93_b105 : b93 < b105 := Nat.lt_of_lt_of_eq ((((((((V96.ext E97).other W98 (Nat.ne_of_lt lt_b93_b97)).other W99 (Nat.ne_of_lt lt_b93_b97)).other W100 (Nat.ne_of_lt lt_b93_b97)).ext E101).other W102 (Nat.ne_of_lt lt_b93_b101)).other W103 (Nat.ne_of_lt lt_b93_b101)).other W104 (Nat.ne_of_lt lt_b93_b101)).lt g105.symm
  have lt_b97_b105 : b97 < b105 := Nat.lt_of_lt_of_eq ((((V100.ext E101).other W102 (Nat.ne_of_lt lt_b97_b101)).other W103 (Nat.ne_of_lt lt_b97_b101)).other W104 (Nat.ne_of_lt lt_b97_b101)).lt g105.symm
  have lt_b101_b105 : b101 < b105 := Nat.lt_of_lt_of_eq V104.lt g105.symm
  have F105_width : Fld Z h105 b105 "com/example/factwell/factwell/pql/Rows" "width" "I" (.int (0 : Int32)) := D105 (Or.inr (hw _ (List.mem_of_getElem? (i := 14) rfl))) (ty := .int) (by decide)
  have F105_mayRepeat : Fld Z h105 b105 "com/example/factwell/factwell/pql/Rows" "mayRepeat" "Z" (.int (0 : Int32)) := D105 (Or.inr (hw _ (List.mem_of_getElem? (i := 16) rfl))) (ty := .boolean) (by decide)
  have F105_cells : Fld Z h105 b105 "com/example/factwell/factwell/pql/Rows" "cells" "[I" .null := D105 (Or.inl (hw _ (List.mem_of_getElem? (i := 18) rfl))) (ty := (.array .int)) (by decide)
  have F105_count : Fld Z h105 b105 "com/example/factwell/factwell/pql/Rows" "count" "I" (.int (0 : Int32)) := D105 (Or.inl (hw _ (List.mem_of_getElem? (i := 25) rfl))) (ty := .int) (by decide)
  obtain ⟨_, _, ⟨T106, L106, k106, n106⟩, -, X106, ⟨Lc106, hQ106, l106, y106, z106⟩, st106⟩ := X105.specialBack hx (y := (⟨"com/example/factwell/factwell/pql/Rows", "<init>", "(I)V"⟩ : MethodName)) rfl hown (mvT hZ (hw _ (List.mem_of_getElem? (i := 4) rfl))) (mvT hZ (hw _ (List.mem_of_getElem? (i := 5) rfl))) (mvT hZ (hw _ (List.mem_of_getElem? (i := 6) rfl))) (by decide) (backOf (W := 1) (own_i1 l Z a0 hw [] b105 w.val.toInt32 (8 * w.val) h105 n0 (Nat.le_trans (Nat.le_trans (Nat.le_trans (Nat.le_trans (Nat.le_trans (Nat.le_trans (Nat.le_trans (Nat.le_trans (Nat.le_trans (Nat.le_trans (Nat.le_trans (Nat.le_trans (Nat.le_trans Z0 E93.1) (Keep.of_wr W94).1) (Keep.of_wr W95).1) (Keep.of_wr W96).1) E97.1) (Keep.of_wr W98).1) (Keep.of_wr W99).1) (Keep.of_wr W100).1) E101.1) (Keep.of_wr W102).1) (Keep.of_wr W103).1) (Keep.of_wr W104).1) E105.1) (own_neg w) (own_cap w) (own_z w) A105 F105_width F105_mayRepeat F105_cells F105_count g_b105) hZ (hw _ (List.mem_of_getElem? (i := 6) rfl)) (hw _ (List.mem_of_getElem? (i := 3) rfl)) (by decide) (by decide)) (g := (mkF m 116 #[.val (.int p0), .val (.int p1), .val (.int p2), .val (.int p3), .val (.int p4), .val (.int p5), .val (.int w.val.toInt32), .val (.int (3 : Int32)), .val (.int (1 : Int32)), .val (.int cc.val.toInt32), .val (.ref b93), .val (.ref b97), .val (.ref b101), .unset, .unset] [(.int w.val.toInt32), (.ref b105), (.ref b105)])) rfl (by rw [hml]; rfl) (Steps.refl _) (a := b105) (argsL := [(.int w.val.toInt32)]) (rest := [(.ref b105)]) (lenOf pd_1 rfl) rfl (by show 2 * 0 + _ ≤ _; exact Nat.le_of_eq rfl) (hb hby at_116) (fun _ _ => ⟨rfl, e105, (by decide : 4 + 1 ≤ _), (by decide : 13 + 24 ≤ _)⟩)
  dsimp only [Pt.U, Pt.locs, Pt.cells, Pt.slots] at X106 l106 y106 z106 st106 hQ106
  subst l106 y106 z106
  obtain ⟨rfl, N106q, ac, kc, ⟨g_ac, l1, gh⟩, K106, E_, F_w, F_c, F_n, V_c⟩ := hQ106
  have N106 := Fr.app N104 N106q
  have lt_b105_ac : ∀ x, x < h105.size → x < ac := fun x q => Nat.lt_of_lt_of_le q gh
  obtain ⟨cq107, kq107, q107a, q107b, q107c⟩ := isOf hZ rfl E_
  obtain ⟨_, _, ⟨T107, L107, k107, n107⟩, -, X107, ⟨Lc107, hQ107, l107, y107, z107⟩, st107⟩ := X106.virtualBack hx (y := (⟨"com/example/factwell/factwell/pql/Rows", "add", "([I)V"⟩ : MethodName)) (z := (⟨"com/example/factwell/factwell/pql/Rows", "add", "([I)V"⟩ : MethodName)) hown (mvT hZ (hw _ (List.mem_of_getElem? (i := 19) rfl))) (mvT hZ (hw _ (List.mem_of_getElem? (i := 20) rfl))) (notFace_of_selects (args := #[]) (mvT hZ (hw _ (List.mem_of_getElem? (i := 22) rfl)))) (mvT hZ (hw _ (List.mem_of_getElem? (i := 22) rfl))) (mvT hZ (hw _ (List.mem_of_getElem? (i := 21) rfl))) (by decide) (backOf (W := 0) (own_add l Z a0 hw [] b105 b93 0 w ac kc k93 (fun _ => Value.int 0) (upd (upd (upd (fun _ => (.int 0)) 0 (.int p0)) 1 (.int p1)) 2 (.int p2)) T106.heap n0 (Nat.le_trans (Nat.le_trans (Nat.le_trans (Nat.le_trans (Nat.le_trans (Nat.le_trans (Nat.le_trans (Nat.le_trans (Nat.le_trans (Nat.le_trans (Nat.le_trans (Nat.le_trans (Nat.le_trans (Nat.le_trans Z0 E93.1) (Keep.of_wr W94).1) (Keep.of_wr W95).1) (Keep.of_wr W96).1) E97.1) (Keep.of_wr W98).1) (Keep.of_wr W99).1) (Keep.of_wr W100).1) E101.1) (Keep.of_wr W102).1) (Keep.of_wr W103).1) (Keep.of_wr W104).1) E105.1) K106.1) g_b105 g_ac l1 (Nat.ne_of_lt (lt_b105_ac _ (((((((((V96.ext E97).other W98 (Nat.ne_of_lt lt_b93_b97)).other W99 (Nat.ne_of_lt lt_b93_b97)).other W100 (Nat.ne_of_lt lt_b93_b97)).ext E101).other W102 (Nat.ne_of_lt lt_b93_b101)).other W103 (Nat.ne_of_lt lt_b93_b101)).other W104 (Nat.ne_of_lt lt_b93_b101)).ext E105).lt)) (Nat.ne_of_lt lt_b93_b105) E_ F_w F_c F_n V_c ((((((((((V96.ext E97).other W98 (Nat.ne_of_lt lt_b93_b97)).other W99 (Nat.ne_of_lt lt_b93_b97)).other W100 (Nat.ne_of_lt lt_b93_b97)).ext E101).other W102 (Nat.ne_of_lt lt_b93_b101)).other W103 (Nat.ne_of_lt lt_b93_b101)).other W104 (Nat.ne_of_lt lt_b93_b101)).ext E105).keep K106 (ninS (Nat.ne_of_lt lt_b93_b105) nin0))) hZ (hw _ (List.mem_of_getElem? (i := 23) rfl)) (hw _ (List.mem_of_getElem? (i := 3) rfl)) (by decide) (by decide)) q107a q107c (g := (mkF m 125 #[.val (.int p0), .val (.int p1), .val (.int p2), .val (.int p3), .val (.int p4), .val (.int p5), .val (.int w.val.toInt32), .val (.int (3 : Int32)), .val (.int (1 : Int32)), .val (.int cc.val.toInt32), .val (.ref b93), .val (.ref b97), .val (.ref b101), .val (.ref b105), .unset] [(.ref b93), (.ref b105)])) rfl (by rw [hml]; rfl) (Steps.refl _) (argsL := [(.ref b93)]) (rest := []) (lenOf pd_2 rfl) rfl (by show 2 * 0 + _ ≤ _; exact Nat.le_of_eq rfl) (hb hby at_125) (fun _ _ => ⟨rfl, rfl, (by decide : 5 + 0 ≤ _), (by decide : 37 + 0 ≤ _)⟩)
  dsimp only [Pt.U, Pt.locs, Pt.cells, Pt.slots] at X107 l107 y107 z107 st107 hQ107
  subst l107 y107 z107
  obtain ⟨rfl, N107q, K107, E_0, F_w0, F_c0, F_n0, V_c0⟩ := hQ107
  have N107 := Fr.app N106 N107q
  obtain ⟨cq108, kq108, q108a, q108b, q108c⟩ := isOf hZ rfl E_0
  obtain ⟨_, _, ⟨T108, L108, k108, n108⟩, -, X108, ⟨Lc108, hQ108, l108, y108, z108⟩, st108⟩ := X107.virtualBack hx (y := (⟨"com/example/factwell/factwell/pql/Rows", "add", "([I)V"⟩ : MethodName)) (z := (⟨"com/example/factwell/factwell/pql/Rows", "add", "([I)V"⟩ : MethodName)) hown (mvT hZ (hw _ (List.mem_of_getElem? (i := 19) rfl))) (mvT hZ (hw _ (List.mem_of_getElem? (i := 20) rfl))) (notFace_of_selects (args := #[]) (mvT hZ (hw _ (List.mem_of_getElem? (i := 22) rfl)))) (mvT hZ (hw _ (List.mem_of_getElem? (i := 22) rfl))) (mvT hZ (hw _ (List.mem_of_getElem? (i := 21) rfl))) (by decide) (backOf (W := 0) (own_add l Z a0 hw [] b105 b97 1 w ac kc k97 (fun j => if (0 * w.val) ≤ j ∧ j < (0 * w.val) + w.val then (upd (upd (upd (fun _ => (.int 0)) 0 (.int p0)) 1 (.int p1)) 2 (.int p2)) (0 + (j - (0 * w.val))) else (fun _ => Value.int 0) j) (upd (upd (upd (fun _ => (.int 0)) 0 (.int p3)) 1 (.int p4)) 2 (.int (p0 ^^^ (-1 : Int32)))) T107.heap n0 (Nat.le_trans (Nat.le_trans (Nat.le_trans (Nat.le_trans (Nat.le_trans (Nat.le_trans (Nat.le_trans (Nat.le_trans (Nat.le_trans (Nat.le_trans (Nat.le_trans (Nat.le_trans (Nat.le_trans (Nat.le_trans (Nat.le_trans Z0 E93.1) (Keep.of_wr W94).1) (Keep.of_wr W95).1) (Keep.of_wr W96).1) E97.1) (Keep.of_wr W98).1) (Keep.of_wr W99).1) (Keep.of_wr W100).1) E101.1) (Keep.of_wr W102).1) (Keep.of_wr W103).1) (Keep.of_wr W104).1) E105.1) K106.1) K107.1) g_b105 g_ac l1 (Nat.ne_of_lt (lt_b105_ac _ (((((V100.ext E101).other W102 (Nat.ne_of_lt lt_b97_b101)).other W103 (Nat.ne_of_lt lt_b97_b101)).other W104 (Nat.ne_of_lt lt_b97_b101)).ext E105).lt)) (Nat.ne_of_lt lt_b97_b105) E_0 F_w0 F_c0 F_n0 V_c0 (((((((V100.ext E101).other W102 (Nat.ne_of_lt lt_b97_b101)).other W103 (Nat.ne_of_lt lt_b97_b101)).other W104 (Nat.ne_of_lt lt_b97_b101)).ext E105).keep K106 (ninS (Nat.ne_of_lt lt_b97_b105) nin0)).keep K107 (ninS (Nat.ne_of_lt lt_b97_b105) (ninS (Nat.ne_of_lt (lt_b105_ac _ (((((V100.ext E101).other W102 (Nat.ne_of_lt lt_b97_b101)).other W103 (Nat.ne_of_lt lt_b97_b101)).other W104 (Nat.ne_of_lt lt_b97_b101)).ext E105).lt)) nin0)))) hZ (hw _ (List.mem_of_getElem? (i := 23) rfl)) (hw _ (List.mem_of_getElem? (i := 3) rfl)) (by decide) (by decide)) q108a q108c (g := (mkF m 138 #[.val (.int p0), .val (.int p1), .val (.int p2), .val (.int p3), .val (.int p4), .val (.int p5), .val (.int w.val.toInt32), .val (.int (3 : Int32)), .val (.int (1 : Int32)), .val (.int cc.val.toInt32), .val (.ref b93), .val (.ref b97), .val (.ref b101), .val (.ref b105), .unset] [(.ref b97), (.ref b105)])) rfl (by rw [hml]; rfl) (Steps.refl _) (argsL := [(.ref b97)]) (rest := []) (lenOf pd_2 rfl) rfl (by show 2 * 0 + _ ≤ _; exact Nat.le_of_eq rfl) (hb hby at_138) (fun _ _ => ⟨rfl, rfl, (by decide : 5 + 0 ≤ _), (by decide : 37 + 0 ≤ _)⟩)
  dsimp only [Pt.U, Pt.locs, Pt.cells, Pt.slots] at X108 l108 y108 z108 st108 hQ108
  subst l108 y108 z108
  obtain ⟨rfl, N108q, K108, E_1, F_w1, F_c1, F_n1, V_c1⟩ := hQ108
  have N108 := Fr.app N107 N108q
  obtain ⟨cq109, kq109, q109a, q109b, q109c⟩ := isOf hZ rfl E_1
  obtain ⟨_, _, ⟨T109, L109, k109, n109⟩, -, X109, ⟨Lc109, hQ109, l109, y109, z109⟩, st109⟩ := X108.virtualBack hx (y := (⟨"com/example/factwell/factwell/pql/Rows", "add", "([I)V"⟩ : MethodName)) (z := (⟨"com/example/factwell/factwell/pql/Rows", "add", "([I)V"⟩ : MethodName)) hown (mvT hZ (hw _ (List.mem_of_getElem? (i := 19) rfl))) (mvT hZ (hw _ (List.mem_of_getElem? (i := 20) rfl))) (notFace_of_selects (args := #[]) (mvT hZ (hw _ (List.mem_of_getElem? (i := 22) rfl)))) (mvT hZ (hw _ (List.mem_of_getElem? (i := 22) rfl))) (mvT hZ (hw _ (List.mem_of_getElem? (i := 21) rfl))) (by decide) (backOf (W := 0) (own_add l Z a0 hw [] b105 b101 2 w ac kc k101 (fun j => if (1 * w.val) ≤ j ∧ j < (1 * w.val) + w.val then (upd (upd (upd (fun _ => (.int 0)) 0 (.int p3)) 1 (.int p4)) 2 (.int (p0 ^^^ (-1 : Int32)))) (0 + (j - (1 * w.val))) else (fun j => if (0 * w.val) ≤ j ∧ j < (0 * w.val) + w.val then (upd (upd (upd (fun _ => (.int 0)) 0 (.int p0)) 1 (.int p1)) 2 (.int p2)) (0 + (j - (0 * w.val))) else (fun _ => Value.int 0) j) j) (upd (upd (upd (fun _ => (.int 0)) 0 (.int (p1 ^^^ (-1 : Int32)))) 1 (.int (p2 ^^^ (-1 : Int32)))) 2 (.int (p3 ^^^ (-1 : Int32)))) T108.heap n0 (Nat.le_trans (Nat.le_trans (Nat.le_trans (Nat.le_trans (Nat.le_trans (Nat.le_trans (Nat.le_trans (Nat.le_trans (Nat.le_trans (Nat.le_trans (Nat.le_trans (Nat.le_trans (Nat.le_trans (Nat.le_trans (Nat.le_trans (Nat.le_trans Z0 E93.1) (Keep.of_wr W94).1) (Keep.of_wr W95).1) (Keep.of_wr W96).1) E97.1) (Keep.of_wr W98).1) (Keep.of_wr W99).1) (Keep.of_wr W100).1) E101.1) (Keep.of_wr W102).1) (Keep.of_wr W103).1) (Keep.of_wr W104).1) E105.1) K106.1) K107.1) K108.1) g_b105 g_ac l1 (Nat.ne_of_lt (lt_b105_ac _ (V104.ext E105).lt)) (Nat.ne_of_lt lt_b101_b105) E_1 F_w1 F_c1 F_n1 V_c1 ((((V104.ext E105).keep K106 (ninS (Nat.ne_of_lt lt_b101_b105) nin0)).keep K107 (ninS (Nat.ne_of_lt lt_b101_b105) (ninS (Nat.ne_of_lt (lt_b105_ac _ (V104.ext E105).lt)) nin0))).keep K108 (ninS (Nat.ne_of_lt lt_b101_b105) (ninS (Nat.ne_of_lt (lt_b105_ac _ (V104.ext E105).lt)) nin0)))) hZ (hw _ (List.mem_of_getElem? (i := 23) rfl)) (hw _ (List.mem_of_getElem? (i := 3) rfl)) (by decide) (by decide)) q109a q109c (g := (mkF m 151 #[.val (.int p0), .val (.int p1), .val (.int p2), .val (.int p3), .val (.int p4), .val (.int p5), .val (.int w.val.toInt32), .val (.int (3 : Int32)), .val (.int (1 : Int32)), .val (.int cc.val.toInt32), .val (.ref b93), .val (.ref b97), .val (.ref b101), .val (.ref b105), .unset] [(.ref b101), (.ref b105)])) rfl (by rw [hml]; rfl) (Steps.refl _) (argsL := [(.ref b101)]) (rest := []) (lenOf pd_2 rfl) rfl (by show 2 * 0 + _ ≤ _; exact Nat.le_of_eq rfl) (hb hby at_151) (fun _ _ => ⟨rfl, rfl, (by decide : 5 + 0 ≤ _), (by decide : 37 + 0 ≤ _)⟩)
  dsimp only [Pt.U, Pt.locs, Pt.cells, Pt.slots] at X109 l109 y109 z109 st109 hQ109
  subst l109 y109 z109
  obtain ⟨rfl, N109q, K109, E_2, F_w2, F_c2, F_n2, V_c2⟩ := hQ109
  have N109 := Fr.app N108 N109q
  obtain ⟨cl110, Ar110, qk110, S110, B110, H110, G110⟩ := id (((((((((V100.ext E101).other W102 (Nat.ne_of_lt lt_b97_b101)).other W103 (Nat.ne_of_lt lt_b97_b101)).other W104 (Nat.ne_of_lt lt_b97_b101)).ext E105).keep K106 (ninS (Nat.ne_of_lt lt_b97_b105) nin0)).keep K107 (ninS (Nat.ne_of_lt lt_b97_b105) (ninS (Nat.ne_of_lt (lt_b105_ac _ (((((V100.ext E101).other W102 (Nat.ne_of_lt lt_b97_b101)).other W103 (Nat.ne_of_lt lt_b97_b101)).other W104 (Nat.ne_of_lt lt_b97_b101)).ext E105).lt)) nin0))).keep K108 (ninS (Nat.ne_of_lt lt_b97_b105) (ninS (Nat.ne_of_lt (lt_b105_ac _ (((((V100.ext E101).other W102 (Nat.ne_of_lt lt_b97_b101)).other W103 (Nat.ne_of_lt lt_b97_b101)).other W104 (Nat.ne_of_lt lt_b97_b101)).ext E105).lt)) nin0))).keep K109 (ninS (Nat.ne_of_lt lt_b97_b105) (ninS (Nat.ne_of_lt (lt_b105_ac _ (((((V100.ext E101).other W102 (Nat.ne_of_lt lt_b97_b101)).other W103 (Nat.ne_of_lt lt_b97_b101)).other W104 (Nat.ne_of_lt lt_b97_b101)).ext E105).lt)) nin0)))
  have hin110 : ¬ (cc.val.toInt32 < 0 ∨ cl110.slots.size ≤ (cc.val.toInt32).toNatClampNeg) := own_inb S110 (own_cix cc) cc.isLt
  have hat110 : cl110.slots[(cc.val.toInt32).toNatClampNeg]? = some (.int (own_x (upd (upd (upd (fun _ => (.int 0)) 0 (.int p3)) 1 (.int p4)) 2 (.int (p0 ^^^ (-1 : Int32)))) cc.val)) := own_hat H110 (own_cix cc) cc.isLt (own_three rfl rfl rfl cc)
  have hv_ : (fun j => if (2 * w.val) ≤ j ∧ j < (2 * w.val) + w.val then (upd (upd (upd (fun _ => (.int 0)) 0 (.int (p1 ^^^ (-1 : Int32)))) 1 (.int (p2 ^^^ (-1 : Int32)))) 2 (.int (p3 ^^^ (-1 : Int32)))) (0 + (j - (2 * w.val))) else (fun j => if (1 * w.val) ≤ j ∧ j < (1 * w.val) + w.val then (upd (upd (upd (fun _ => (.int 0)) 0 (.int p3)) 1 (.int p4)) 2 (.int (p0 ^^^ (-1 : Int32)))) (0 + (j - (1 * w.val))) else (fun j => if (0 * w.val) ≤ j ∧ j < (0 * w.val) + w.val then (upd (upd (upd (fun _ => (.int 0)) 0 (.int p0)) 1 (.int p1)) 2 (.int p2)) (0 + (j - (0 * w.val))) else (fun _ => Value.int 0) j) j) j) (1 * w.val + cc.val) = .int (own_x (upd (upd (upd (fun _ => (.int 0)) 0 (.int p3)) 1 (.int p4)) 2 (.int (p0 ^^^ (-1 : Int32)))) cc.val) := by
    rw [← own_three (x := p3) (y := p4) (z := (p0 ^^^ (-1 : Int32))) (f := (upd (upd (upd (fun _ => (.int 0)) 0 (.int p3)) 1 (.int p4)) 2 (.int (p0 ^^^ (-1 : Int32))))) rfl rfl rfl cc]
    show (if (2 * w.val) ≤ (1 * w.val + cc.val) ∧ (1 * w.val + cc.val) < (2 * w.val) + w.val then (upd (upd (upd (fun _ => (.int 0)) 0 (.int (p1 ^^^ (-1 : Int32)))) 1 (.int (p2 ^^^ (-1 : Int32)))) 2 (.int (p3 ^^^ (-1 : Int32)))) (0 + ((1 * w.val + cc.val) - (2 * w.val))) else (if (1 * w.val) ≤ (1 * w.val + cc.val) ∧ (1 * w.val + cc.val) < (1 * w.val) + w.val then (upd (upd (upd (fun _ => (.int 0)) 0 (.int p3)) 1 (.int p4)) 2 (.int (p0 ^^^ (-1 : Int32)))) (0 + ((1 * w.val + cc.val) - (1 * w.val))) else (if (0 * w.val) ≤ (1 * w.val + cc.val) ∧ (1 * w.val + cc.val) < (0 * w.val) + w.val then (upd (upd (upd (fun _ => (.int 0)) 0 (.int p0)) 1 (.int p1)) 2 (.int p2)) (0 + ((1 * w.val + cc.val) - (0 * w.val))) else Value.int 0))) = _
    rw [if_neg (by omega)]
    rw [if_pos (by omega)]
    congr 1; omega
  obtain ⟨cq111, kq111, q111a, q111b, q111c⟩ := isOf hZ rfl E_2
  obtain ⟨_, _, ⟨T111, L111, k111, n111⟩, -, X111, ⟨Lc111, hQ111, l111, y111, z111⟩, st111⟩ := X109.virtualBack hx (y := (⟨"com/example/factwell/factwell/pql/Rows", "get", "(II)I"⟩ : MethodName)) (z := (⟨"com/example/factwell/factwell/pql/Rows", "get", "(II)I"⟩ : MethodName)) hown (mvT hZ (hw _ (List.mem_of_getElem? (i := 30) rfl))) (mvT hZ (hw _ (List.mem_of_getElem? (i := 31) rfl))) (notFace_of_selects (args := #[]) (mvT hZ (hw _ (List.mem_of_getElem? (i := 33) rfl)))) (mvT hZ (hw _ (List.mem_of_getElem? (i := 33) rfl))) (mvT hZ (hw _ (List.mem_of_getElem? (i := 32) rfl))) (by decide) (backOf (W := 0) (own_get l Z a0 hw [] b105 (1 : Int32) cc.val.toInt32 (own_x (upd (upd (upd (fun _ => (.int 0)) 0 (.int p3)) 1 (.int p4)) 2 (.int (p0 ^^^ (-1 : Int32)))) cc.val) (1 * w.val + cc.val) w ac kc (fun j => if (2 * w.val) ≤ j ∧ j < (2 * w.val) + w.val then (upd (upd (upd (fun _ => (.int 0)) 0 (.int (p1 ^^^ (-1 : Int32)))) 1 (.int (p2 ^^^ (-1 : Int32)))) 2 (.int (p3 ^^^ (-1 : Int32)))) (0 + (j - (2 * w.val))) else (fun j => if (1 * w.val) ≤ j ∧ j < (1 * w.val) + w.val then (upd (upd (upd (fun _ => (.int 0)) 0 (.int p3)) 1 (.int p4)) 2 (.int (p0 ^^^ (-1 : Int32)))) (0 + (j - (1 * w.val))) else (fun j => if (0 * w.val) ≤ j ∧ j < (0 * w.val) + w.val then (upd (upd (upd (fun _ => (.int 0)) 0 (.int p0)) 1 (.int p1)) 2 (.int p2)) (0 + (j - (0 * w.val))) else (fun _ => Value.int 0) j) j) j) T109.heap n0 (Nat.le_trans (Nat.le_trans (Nat.le_trans (Nat.le_trans (Nat.le_trans (Nat.le_trans (Nat.le_trans (Nat.le_trans (Nat.le_trans (Nat.le_trans (Nat.le_trans (Nat.le_trans (Nat.le_trans (Nat.le_trans (Nat.le_trans (Nat.le_trans (Nat.le_trans Z0 E93.1) (Keep.of_wr W94).1) (Keep.of_wr W95).1) (Keep.of_wr W96).1) E97.1) (Keep.of_wr W98).1) (Keep.of_wr W99).1) (Keep.of_wr W100).1) E101.1) (Keep.of_wr W102).1) (Keep.of_wr W103).1) (Keep.of_wr W104).1) E105.1) K106.1) K107.1) K108.1) K109.1) (own_gix 1 w cc) (own_lt 1 w cc hcw (by decide)) hv_ F_w2 F_c2 V_c2) hZ (hw _ (List.mem_of_getElem? (i := 34) rfl)) (hw _ (List.mem_of_getElem? (i := 3) rfl)) (by decide) (by decide)) q111a q111c (g := (mkF m 198 #[.val (.int p0), .val (.int p1), .val (.int p2), .val (.int p3), .val (.int p4), .val (.int p5), .val (.int w.val.toInt32), .val (.int (3 : Int32)), .val (.int (1 : Int32)), .val (.int cc.val.toInt32), .val (.ref b93), .val (.ref b97), .val (.ref b101), .val (.ref b105), .val (.int (own_x (upd (upd (upd (fun _ => (.int 0)) 0 (.int p3)) 1 (.int p4)) 2 (.int (p0 ^^^ (-1 : Int32)))) cc.val))] [(.int cc.val.toInt32), (.int (1 : Int32)), (.ref b105)])) rfl (by rw [hml]; rfl) (Steps.refl _) (argsL := [(.int (1 : Int32)), (.int cc.val.toInt32)]) (rest := []) (lenOf pd_3 rfl) rfl (by show 2 * 0 + _ ≤ _; exact Nat.le_of_eq rfl) (hb hby at_198) (fun _ _ => ⟨rfl, rfl, (by decide : 5 + 0 ≤ _), (by decide : 37 + 0 ≤ _)⟩)
  dsimp only [Pt.U, Pt.locs, Pt.cells, Pt.slots] at X111 l111 y111 z111 st111 hQ111
  subst l111 y111 z111
  obtain ⟨rfl, N111q, eh111⟩ := hQ111
  have N111 := Fr.app N109 N111q
  obtain ⟨fs, hr, hrun, hended, hW, hsame⟩ := X111.leave (v := some (.int (1 : Int32))) (fun h => by rw [Bd.returns] at h; cases h)
  refine ⟨_, _, pre0 _ ?_, hrun, hended, _, _, rfl, ?_, ⟨_, rfl⟩, hW, hsame.mono (by decide) (by decide)⟩
  · show Steps p.tables e below (s₁.setTop (mkF m 0 #[.val (.int p0), .val (.int p1), .val (.int p2), .val (.int p3), .val (.int p4), .val (.int p5), .unset, .unset, .unset, .unset, .unset, .unset, .unset, .unset, .unset] [])) _
    refine XS.iconst X0.here hx rfl (hb hby at_0) ?_
    show Steps p.tables e below (s₁.setTop (mkF m 1 #[.val (.int p0), .val (.int p1), .val (.int p2), .val (.int p3), .val (.int p4), .val (.int p5), .unset, .unset, .unset, .unset, .unset, .unset, .unset, .unset, .unset] [(.int (1 : Int32))])) _
    refine XS.iload X0.here hx rfl (hb hby at_1) rfl ?_
    show Steps p.tables e below (s₁.setTop (mkF m 3 #[.val (.int p0), .val (.int p1), .val (.int p2), .val (.int p3), .val (.int p4), .val (.int p5), .unset, .unset, .unset, .unset, .unset, .unset, .unset, .unset, .unset] [(.int p5), (.int (1 : Int32))])) _
    refine XS.bipush X0.here hx rfl (hb hby at_3) ?_
    show Steps p.tables e below (s₁.setTop (mkF m 5 #[.val (.int p0), .val (.int p1), .val (.int p2), .val (.int p3), .val (.int p4), .val (.int p5), .unset, .unset, .unset, .unset, .unset, .unset, .unset, .unset, .unset] [(.int (15 : Int32)), (.int p5), (.int (1 : Int32))])) _
    refine XS.iand X0.here hx rfl (hb hby at_5) rfl ?_
    show Steps p.tables e below (s₁.setTop (mkF m 6 #[.val (.int p0), .val (.int p1), .val (.int p2), .val (.int p3), .val (.int p4), .val (.int p5), .unset, .unset, .unset, .unset, .unset, .unset, .unset, .unset, .unset] [(.int (p5 &&& (15 : Int32))), (.int (1 : Int32))])) _
    refine XS.iconst X0.here hx rfl (hb hby at_6) ?_
    show Steps p.tables e below (s₁.setTop (mkF m 7 #[.val (.int p0), .val (.int p1), .val (.int p2), .val (.int p3), .val (.int p4), .val (.int p5), .unset, .unset, .unset, .unset, .unset, .unset, .unset, .unset, .unset] [(.int (3 : Int32)), (.int (p5 &&& (15 : Int32))), (.int (1 : Int32))])) _
    refine Jvm.RoadKit.iremM (g := (mkF m 7 #[.val (.int p0), .val (.int p1), .val (.int p2), .val (.int p3), .val (.int p4), .val (.int p5), .unset, .unset, .unset, .unset, .unset, .unset, .unset, .unset, .unset] [(.int (3 : Int32)), (.int (p5 &&& (15 : Int32))), (.int (1 : Int32))])) X0 hx rfl (hb hby at_7) rfl (by decide) ?_
    show Steps p.tables e below (s₁.setTop (mkF m 8 #[.val (.int p0), .val (.int p1), .val (.int p2), .val (.int p3), .val (.int p4), .val (.int p5), .unset, .unset, .unset, .unset, .unset, .unset, .unset, .unset, .unset] [(.int ((p5 &&& (15 : Int32)) % (3 : Int32))), (.int (1 : Int32))])) _
    refine XS.iadd X0.here hx rfl (hb hby at_8) rfl ?_
    show Steps p.tables e below (s₁.setTop (mkF m 9 #[.val (.int p0), .val (.int p1), .val (.int p2), .val (.int p3), .val (.int p4), .val (.int p5), .unset, .unset, .unset, .unset, .unset, .unset, .unset, .unset, .unset] [(.int ((1 : Int32) + ((p5 &&& (15 : Int32)) % (3 : Int32))))])) _
    rw [hW_]
    show Steps p.tables e below (s₁.setTop (mkF m 9 #[.val (.int p0), .val (.int p1), .val (.int p2), .val (.int p3), .val (.int p4), .val (.int p5), .unset, .unset, .unset, .unset, .unset, .unset, .unset, .unset, .unset] [(.int w.val.toInt32)])) _
    refine XS.istore X0.here hx rfl (hb hby at_9) rfl (l' := #[.val (.int p0), .val (.int p1), .val (.int p2), .val (.int p3), .val (.int p4), .val (.int p5), .val (.int w.val.toInt32), .unset, .unset, .unset, .unset, .unset, .unset, .unset, .unset]) rfl ?_
    show Steps p.tables e below (s₁.setTop (mkF m 11 #[.val (.int p0), .val (.int p1), .val (.int p2), .val (.int p3), .val (.int p4), .val (.int p5), .val (.int w.val.toInt32), .unset, .unset, .unset, .unset, .unset, .unset, .unset, .unset] [])) _
    refine XS.iconst X0.here hx rfl (hb hby at_11) ?_
    show Steps p.tables e below (s₁.setTop (mkF m 12 #[.val (.int p0), .val (.int p1), .val (.int p2), .val (.int p3), .val (.int p4), .val (.int p5), .val (.int w.val.toInt32), .unset, .unset, .unset, .unset, .unset, .unset, .unset, .unset] [(.int (1 : Int32))])) _
    refine XS.iload X0.here hx rfl (hb hby at_12) rfl ?_
    show Steps p.tables e below (s₁.setTop (mkF m 14 #[.val (.int p0), .val (.int p1), .val (.int p2), .val (.int p3), .val (.int p4), .val (.int p5), .val (.int w.val.toInt32), .unset, .unset, .unset, .unset, .unset, .unset, .unset, .unset] [(.int p5), (.int (1 : Int32))])) _
    refine XS.iconst X0.here hx rfl (hb hby at_14) ?_
    show Steps p.tables e below (s₁.setTop (mkF m 15 #[.val (.int p0), .val (.int p1), .val (.int p2), .val (.int p3), .val (.int p4), .val (.int p5), .val (.int w.val.toInt32), .unset, .unset, .unset, .unset, .unset, .unset, .unset, .unset] [(.int (4 : Int32)), (.int p5), (.int (1 : Int32))])) _
    refine XT.iushr X0.here hx rfl (hb hby at_15) rfl ?_
    show Steps p.tables e below (s₁.setTop (mkF m 16 #[.val (.int p0), .val (.int p1), .val (.int p2), .val (.int p3), .val (.int p4), .val (.int p5), .val (.int w.val.toInt32), .unset, .unset, .unset, .unset, .unset, .unset, .unset, .unset] [(.int (XT.ushr p5 (4 : Int32))), (.int (1 : Int32))])) _
    refine XS.bipush X0.here hx rfl (hb hby at_16) ?_
    show Steps p.tables e below (s₁.setTop (mkF m 18 #[.val (.int p0), .val (.int p1), .val (.int p2), .val (.int p3), .val (.int p4), .val (.int p5), .val (.int w.val.toInt32), .unset, .unset, .unset, .unset, .unset, .unset, .unset, .unset] [(.int (15 : Int32)), (.int (XT.ushr p5 (4 : Int32))), (.int (1 : Int32))])) _
    refine XS.iand X0.here hx rfl (hb hby at_18) rfl ?_
    show Steps p.tables e below (s₁.setTop (mkF m 19 #[.val (.int p0), .val (.int p1), .val (.int p2), .val (.int p3), .val (.int p4), .val (.int p5), .val (.int w.val.toInt32), .unset, .unset, .unset, .unset, .unset, .unset, .unset, .unset] [(.int ((XT.ushr p5 (4 : Int32)) &&& (15 : Int32))), (.int (1 : Int32))])) _
    refine XS.iconst X0.here hx rfl (hb hby at_19) ?_
    show Steps p.tables e below (s₁.setTop (mkF m 20 #[.val (.int p0), .val (.int p1), .val (.int p2), .val (.int p3), .val (.int p4), .val (.int p5), .val (.int w.val.toInt32), .unset, .unset, .unset, .unset, .unset, .unset, .unset, .unset] [(.int (3 : Int32)), (.int ((XT.ushr p5 (4 : Int32)) &&& (15 : Int32))), (.int (1 : Int32))])) _
    refine Jvm.RoadKit.iremM (g := (mkF m 20 #[.val (.int p0), .val (.int p1), .val (.int p2), .val (.int p3), .val (.int p4), .val (.int p5), .val (.int w.val.toInt32), .unset, .unset, .unset, .unset, .unset, .unset, .unset, .unset] [(.int (3 : Int32)), (.int ((XT.ushr p5 (4 : Int32)) &&& (15 : Int32))), (.int (1 : Int32))])) X0 hx rfl (hb hby at_20) rfl (by decide) ?_
    show Steps p.tables e below (s₁.setTop (mkF m 21 #[.val (.int p0), .val (.int p1), .val (.int p2), .val (.int p3), .val (.int p4), .val (.int p5), .val (.int w.val.toInt32), .unset, .unset, .unset, .unset, .unset, .unset, .unset, .unset] [(.int (((XT.ushr p5 (4 : Int32)) &&& (15 : Int32)) % (3 : Int32))), (.int (1 : Int32))])) _
    refine XS.iadd X0.here hx rfl (hb hby at_21) rfl ?_
    show Steps p.tables e below (s₁.setTop (mkF m 22 #[.val (.int p0), .val (.int p1), .val (.int p2), .val (.int p3), .val (.int p4), .val (.int p5), .val (.int w.val.toInt32), .unset, .unset, .unset, .unset, .unset, .unset, .unset, .unset] [(.int ((1 : Int32) + (((XT.ushr p5 (4 : Int32)) &&& (15 : Int32)) % (3 : Int32))))])) _
    rw [hN_]
    show Steps p.tables e below (s₁.setTop (mkF m 22 #[.val (.int p0), .val (.int p1), .val (.int p2), .val (.int p3), .val (.int p4), .val (.int p5), .val (.int w.val.toInt32), .unset, .unset, .unset, .unset, .unset, .unset, .unset, .unset] [(.int (3 : Int32))])) _
    refine XS.istore X0.here hx rfl (hb hby at_22) rfl (l' := #[.val (.int p0), .val (.int p1), .val (.int p2), .val (.int p3), .val (.int p4), .val (.int p5), .val (.int w.val.toInt32), .val (.int (3 : Int32)), .unset, .unset, .unset, .unset, .unset, .unset, .unset]) rfl ?_
    show Steps p.tables e below (s₁.setTop (mkF m 24 #[.val (.int p0), .val (.int p1), .val (.int p2), .val (.int p3), .val (.int p4), .val (.int p5), .val (.int w.val.toInt32), .val (.int (3 : Int32)), .unset, .unset, .unset, .unset, .unset, .unset, .unset] [])) _
    refine XS.iload X0.here hx rfl (hb hby at_24) rfl ?_
    show Steps p.tables e below (s₁.setTop (mkF m 26 #[.val (.int p0), .val (.int p1), .val (.int p2), .val (.int p3), .val (.int p4), .val (.int p5), .val (.int w.val.toInt32), .val (.int (3 : Int32)), .unset, .unset, .unset, .unset, .unset, .unset, .unset] [(.int p5)])) _
    refine XS.bipush X0.here hx rfl (hb hby at_26) ?_
    show Steps p.tables e below (s₁.setTop (mkF m 28 #[.val (.int p0), .val (.int p1), .val (.int p2), .val (.int p3), .val (.int p4), .val (.int p5), .val (.int w.val.toInt32), .val (.int (3 : Int32)), .unset, .unset, .unset, .unset, .unset, .unset, .unset] [(.int (8 : Int32)), (.int p5)])) _
    refine XT.iushr X0.here hx rfl (hb hby at_28) rfl ?_
    show Steps p.tables e below (s₁.setTop (mkF m 29 #[.val (.int p0), .val (.int p1), .val (.int p2), .val (.int p3), .val (.int p4), .val (.int p5), .val (.int w.val.toInt32), .val (.int (3 : Int32)), .unset, .unset, .unset, .unset, .unset, .unset, .unset] [(.int (XT.ushr p5 (8 : Int32)))])) _
    refine XS.bipush X0.here hx rfl (hb hby at_29) ?_
    show Steps p.tables e below (s₁.setTop (mkF m 31 #[.val (.int p0), .val (.int p1), .val (.int p2), .val (.int p3), .val (.int p4), .val (.int p5), .val (.int w.val.toInt32), .val (.int (3 : Int32)), .unset, .unset, .unset, .unset, .unset, .unset, .unset] [(.int (15 : Int32)), (.int (XT.ushr p5 (8 : Int32)))])) _
    refine XS.iand X0.here hx rfl (hb hby at_31) rfl ?_
    show Steps p.tables e below (s₁.setTop (mkF m 32 #[.val (.int p0), .val (.int p1), .val (.int p2), .val (.int p3), .val (.int p4), .val (.int p5), .val (.int w.val.toInt32), .val (.int (3 : Int32)), .unset, .unset, .unset, .unset, .unset, .unset, .unset] [(.int ((XT.ushr p5 (8 : Int32)) &&& (15 : Int32)))])) _
    refine XS.iload X0.here hx rfl (hb hby at_32) rfl ?_
    show Steps p.tables e below (s₁.setTop (mkF m 34 #[.val (.int p0), .val (.int p1), .val (.int p2), .val (.int p3), .val (.int p4), .val (.int p5), .val (.int w.val.toInt32), .val (.int (3 : Int32)), .unset, .unset, .unset, .unset, .unset, .unset, .unset] [(.int (3 : Int32)), (.int ((XT.ushr p5 (8 : Int32)) &&& (15 : Int32)))])) _
    refine Jvm.RoadKit.iremM (g := (mkF m 34 #[.val (.int p0), .val (.int p1), .val (.int p2), .val (.int p3), .val (.int p4), .val (.int p5), .val (.int w.val.toInt32), .val (.int (3 : Int32)), .unset, .unset, .unset, .unset, .unset, .unset, .unset] [(.int (3 : Int32)), (.int ((XT.ushr p5 (8 : Int32)) &&& (15 : Int32)))])) X0 hx rfl (hb hby at_34) rfl (by decide) ?_
    show Steps p.tables e below (s₁.setTop (mkF m 35 #[.val (.int p0), .val (.int p1), .val (.int p2), .val (.int p3), .val (.int p4), .val (.int p5), .val (.int w.val.toInt32), .val (.int (3 : Int32)), .unset, .unset, .unset, .unset, .unset, .unset, .unset] [(.int (((XT.ushr p5 (8 : Int32)) &&& (15 : Int32)) % (3 : Int32)))])) _
    rw [hR_]
    show Steps p.tables e below (s₁.setTop (mkF m 35 #[.val (.int p0), .val (.int p1), .val (.int p2), .val (.int p3), .val (.int p4), .val (.int p5), .val (.int w.val.toInt32), .val (.int (3 : Int32)), .unset, .unset, .unset, .unset, .unset, .unset, .unset] [(.int (1 : Int32))])) _
    refine XS.istore X0.here hx rfl (hb hby at_35) rfl (l' := #[.val (.int p0), .val (.int p1), .val (.int p2), .val (.int p3), .val (.int p4), .val (.int p5), .val (.int w.val.toInt32), .val (.int (3 : Int32)), .val (.int (1 : Int32)), .unset, .unset, .unset, .unset, .unset, .unset]) rfl ?_
    show Steps p.tables e below (s₁.setTop (mkF m 37 #[.val (.int p0), .val (.int p1), .val (.int p2), .val (.int p3), .val (.int p4), .val (.int p5), .val (.int w.val.toInt32), .val (.int (3 : Int32)), .val (.int (1 : Int32)), .unset, .unset, .unset, .unset, .unset, .unset] [])) _
    refine XS.iload X0.here hx rfl (hb hby at_37) rfl ?_
    show Steps p.tables e below (s₁.setTop (mkF m 39 #[.val (.int p0), .val (.int p1), .val (.int p2), .val (.int p3), .val (.int p4), .val (.int p5), .val (.int w.val.toInt32), .val (.int (3 : Int32)), .val (.int (1 : Int32)), .unset, .unset, .unset, .unset, .unset, .unset] [(.int p5)])) _
    refine XS.bipush X0.here hx rfl (hb hby at_39) ?_
    show Steps p.tables e below (s₁.setTop (mkF m 41 #[.val (.int p0), .val (.int p1), .val (.int p2), .val (.int p3), .val (.int p4), .val (.int p5), .val (.int w.val.toInt32), .val (.int (3 : Int32)), .val (.int (1 : Int32)), .unset, .unset, .unset, .unset, .unset, .unset] [(.int (12 : Int32)), (.int p5)])) _
    refine XT.iushr X0.here hx rfl (hb hby at_41) rfl ?_
    show Steps p.tables e below (s₁.setTop (mkF m 42 #[.val (.int p0), .val (.int p1), .val (.int p2), .val (.int p3), .val (.int p4), .val (.int p5), .val (.int w.val.toInt32), .val (.int (3 : Int32)), .val (.int (1 : Int32)), .unset, .unset, .unset, .unset, .unset, .unset] [(.int (XT.ushr p5 (12 : Int32)))])) _
    refine XS.bipush X0.here hx rfl (hb hby at_42) ?_
    show Steps p.tables e below (s₁.setTop (mkF m 44 #[.val (.int p0), .val (.int p1), .val (.int p2), .val (.int p3), .val (.int p4), .val (.int p5), .val (.int w.val.toInt32), .val (.int (3 : Int32)), .val (.int (1 : Int32)), .unset, .unset, .unset, .unset, .unset, .unset] [(.int (15 : Int32)), (.int (XT.ushr p5 (12 : Int32)))])) _
    refine XS.iand X0.here hx rfl (hb hby at_44) rfl ?_
    show Steps p.tables e below (s₁.setTop (mkF m 45 #[.val (.int p0), .val (.int p1), .val (.int p2), .val (.int p3), .val (.int p4), .val (.int p5), .val (.int w.val.toInt32), .val (.int (3 : Int32)), .val (.int (1 : Int32)), .unset, .unset, .unset, .unset, .unset, .unset] [(.int ((XT.ushr p5 (12 : Int32)) &&& (15 : Int32)))])) _
    refine XS.iload X0.here hx rfl (hb hby at_45) rfl ?_
    show Steps p.tables e below (s₁.setTop (mkF m 47 #[.val (.int p0), .val (.int p1), .val (.int p2), .val (.int p3), .val (.int p4), .val (.int p5), .val (.int w.val.toInt32), .val (.int (3 : Int32)), .val (.int (1 : Int32)), .unset, .unset, .unset, .unset, .unset, .unset] [(.int w.val.toInt32), (.int ((XT.ushr p5 (12 : Int32)) &&& (15 : Int32)))])) _
    refine Jvm.RoadKit.iremM (g := (mkF m 47 #[.val (.int p0), .val (.int p1), .val (.int p2), .val (.int p3), .val (.int p4), .val (.int p5), .val (.int w.val.toInt32), .val (.int (3 : Int32)), .val (.int (1 : Int32)), .unset, .unset, .unset, .unset, .unset, .unset] [(.int w.val.toInt32), (.int ((XT.ushr p5 (12 : Int32)) &&& (15 : Int32)))])) X0 hx rfl (hb hby at_47) rfl (own_wne w hw1) ?_
    show Steps p.tables e below (s₁.setTop (mkF m 48 #[.val (.int p0), .val (.int p1), .val (.int p2), .val (.int p3), .val (.int p4), .val (.int p5), .val (.int w.val.toInt32), .val (.int (3 : Int32)), .val (.int (1 : Int32)), .unset, .unset, .unset, .unset, .unset, .unset] [(.int (((XT.ushr p5 (12 : Int32)) &&& (15 : Int32)) % w.val.toInt32))])) _
    rw [hC_]
    show Steps p.tables e below (s₁.setTop (mkF m 48 #[.val (.int p0), .val (.int p1), .val (.int p2), .val (.int p3), .val (.int p4), .val (.int p5), .val (.int w.val.toInt32), .val (.int (3 : Int32)), .val (.int (1 : Int32)), .unset, .unset, .unset, .unset, .unset, .unset] [(.int cc.val.toInt32)])) _
    refine XS.istore X0.here hx rfl (hb hby at_48) rfl (l' := #[.val (.int p0), .val (.int p1), .val (.int p2), .val (.int p3), .val (.int p4), .val (.int p5), .val (.int w.val.toInt32), .val (.int (3 : Int32)), .val (.int (1 : Int32)), .val (.int cc.val.toInt32), .unset, .unset, .unset, .unset, .unset]) rfl ?_
    show Steps p.tables e below (s₁.setTop (mkF m 50 #[.val (.int p0), .val (.int p1), .val (.int p2), .val (.int p3), .val (.int p4), .val (.int p5), .val (.int w.val.toInt32), .val (.int (3 : Int32)), .val (.int (1 : Int32)), .val (.int cc.val.toInt32), .unset, .unset, .unset, .unset, .unset] [])) _
    refine XS.iconst X0.here hx rfl (hb hby at_50) ?_
    show Steps p.tables e below (s₁.setTop (mkF m 51 #[.val (.int p0), .val (.int p1), .val (.int p2), .val (.int p3), .val (.int p4), .val (.int p5), .val (.int w.val.toInt32), .val (.int (3 : Int32)), .val (.int (1 : Int32)), .val (.int cc.val.toInt32), .unset, .unset, .unset, .unset, .unset] [(.int (3 : Int32))])) _
    refine st93 _ ?_
    show Steps p.tables e below (T93.setTop (mkF m 53 #[.val (.int p0), .val (.int p1), .val (.int p2), .val (.int p3), .val (.int p4), .val (.int p5), .val (.int w.val.toInt32), .val (.int (3 : Int32)), .val (.int (1 : Int32)), .val (.int cc.val.toInt32), .unset, .unset, .unset, .unset, .unset] [(.ref b93)])) _
    refine XS.dup X93.here hx rfl (hb hby at_53) rfl rfl ?_
    show Steps p.tables e below (T93.setTop (mkF m 54 #[.val (.int p0), .val (.int p1), .val (.int p2), .val (.int p3), .val (.int p4), .val (.int p5), .val (.int w.val.toInt32), .val (.int (3 : Int32)), .val (.int (1 : Int32)), .val (.int cc.val.toInt32), .unset, .unset, .unset, .unset, .unset] [(.ref b93), (.ref b93)])) _
    refine XS.iconst X93.here hx rfl (hb hby at_54) ?_
    show Steps p.tables e below (T93.setTop (mkF m 55 #[.val (.int p0), .val (.int p1), .val (.int p2), .val (.int p3), .val (.int p4), .val (.int p5), .val (.int w.val.toInt32), .val (.int (3 : Int32)), .val (.int (1 : Int32)), .val (.int cc.val.toInt32), .unset, .unset, .unset, .unset, .unset] [(.int (0 : Int32)), (.ref b93), (.ref b93)])) _
    refine XS.iloadN X93.here hx rfl (hb hby at_55) rfl ?_
    show Steps p.tables e below (T93.setTop (mkF m 56 #[.val (.int p0), .val (.int p1), .val (.int p2), .val (.int p3), .val (.int p4), .val (.int p5), .val (.int w.val.toInt32), .val (.int (3 : Int32)), .val (.int (1 : Int32)), .val (.int cc.val.toInt32), .unset, .unset, .unset, .unset, .unset] [(.int p0), (.int (0 : Int32)), (.ref b93), (.ref b93)])) _
    refine st94 _ ?_
    show Steps p.tables e below (T94.setTop (mkF m 57 #[.val (.int p0), .val (.int p1), .val (.int p2), .val (.int p3), .val (.int p4), .val (.int p5), .val (.int w.val.toInt32), .val (.int (3 : Int32)), .val (.int (1 : Int32)), .val (.int cc.val.toInt32), .unset, .unset, .unset, .unset, .unset] [(.ref b93)])) _
    refine XS.dup X94.here hx rfl (hb hby at_57) rfl rfl ?_
    show Steps p.tables e below (T94.setTop (mkF m 58 #[.val (.int p0), .val (.int p1), .val (.int p2), .val (.int p3), .val (.int p4), .val (.int p5), .val (.int w.val.toInt32), .val (.int (3 : Int32)), .val (.int (1 : Int32)), .val (.int cc.val.toInt32), .unset, .unset, .unset, .unset, .unset] [(.ref b93), (.ref b93)])) _
    refine XS.iconst X94.here hx rfl (hb hby at_58) ?_
    show Steps p.tables e below (T94.setTop (mkF m 59 #[.val (.int p0), .val (.int p1), .val (.int p2), .val (.int p3), .val (.int p4), .val (.int p5), .val (.int w.val.toInt32), .val (.int (3 : Int32)), .val (.int (1 : Int32)), .val (.int cc.val.toInt32), .unset, .unset, .unset, .unset, .unset] [(.int (1 : Int32)), (.ref b93), (.ref b93)])) _
    refine XS.iloadN X94.here hx rfl (hb hby at_59) rfl ?_
    show Steps p.tables e below (T94.setTop (mkF m 60 #[.val (.int p0), .val (.int p1), .val (.int p2), .val (.int p3), .val (.int p4), .val (.int p5), .val (.int w.val.toInt32), .val (.int (3 : Int32)), .val (.int (1 : Int32)), .val (.int cc.val.toInt32), .unset, .unset, .unset, .unset, .unset] [(.int p1), (.int (1 : Int32)), (.ref b93), (.ref b93)])) _
    refine st95 _ ?_
    show Steps p.tables e below (T95.setTop (mkF m 61 #[.val (.int p0), .val (.int p1), .val (.int p2), .val (.int p3), .val (.int p4), .val (.int p5), .val (.int w.val.toInt32), .val (.int (3 : Int32)), .val (.int (1 : Int32)), .val (.int cc.val.toInt32), .unset, .unset, .unset, .unset, .unset] [(.ref b93)])) _
    refine XS.dup X95.here hx rfl (hb hby at_61) rfl rfl ?_
    show Steps p.tables e below (T95.setTop (mkF m 62 #[.val (.int p0), .val (.int p1), .val (.int p2), .val (.int p3), .val (.int p4), .val (.int p5), .val (.int w.val.toInt32), .val (.int (3 : Int32)), .val (.int (1 : Int32)), .val (.int cc.val.toInt32), .unset, .unset, .unset, .unset, .unset] [(.ref b93), (.ref b93)])) _
    refine XS.iconst X95.here hx rfl (hb hby at_62) ?_
    show Steps p.tables e below (T95.setTop (mkF m 63 #[.val (.int p0), .val (.int p1), .val (.int p2), .val (.int p3), .val (.int p4), .val (.int p5), .val (.int w.val.toInt32), .val (.int (3 : Int32)), .val (.int (1 : Int32)), .val (.int cc.val.toInt32), .unset, .unset, .unset, .unset, .unset] [(.int (2 : Int32)), (.ref b93), (.ref b93)])) _
    refine XS.iloadN X95.here hx rfl (hb hby at_63) rfl ?_
    show Steps p.tables e below (T95.setTop (mkF m 64 #[.val (.int p0), .val (.int p1), .val (.int p2), .val (.int p3), .val (.int p4), .val (.int p5), .val (.int w.val.toInt32), .val (.int (3 : Int32)), .val (.int (1 : Int32)), .val (.int cc.val.toInt32), .unset, .unset, .unset, .unset, .unset] [(.int p2), (.int (2 : Int32)), (.ref b93), (.ref b93)])) _
    refine st96 _ ?_
    show Steps p.tables e below (T96.setTop (mkF m 65 #[.val (.int p0), .val (.int p1), .val (.int p2), .val (.int p3), .val (.int p4), .val (.int p5), .val (.int w.val.toInt32), .val (.int (3 : Int32)), .val (.int (1 : Int32)), .val (.int cc.val.toInt32), .unset, .unset, .unset, .unset, .unset] [(.ref b93)])) _
    refine XS.astore X96.here hx rfl (hb hby at_65) rfl rfl (l' := #[.val (.int p0), .val (.int p1), .val (.int p2), .val (.int p3), .val (.int p4), .val (.int p5), .val (.int w.val.toInt32), .val (.int (3 : Int32)), .val (.int (1 : Int32)), .val (.int cc.val.toInt32), .val (.ref b93), .unset, .unset, .unset, .unset]) rfl ?_
    show Steps p.tables e below (T96.setTop (mkF m 67 #[.val (.int p0), .val (.int p1), .val (.int p2), .val (.int p3), .val (.int p4), .val (.int p5), .val (.int w.val.toInt32), .val (.int (3 : Int32)), .val (.int (1 : Int32)), .val (.int cc.val.toInt32), .val (.ref b93), .unset, .unset, .unset, .unset] [])) _
    refine XS.iconst X96.here hx rfl (hb hby at_67) ?_
    show Steps p.tables e below (T96.setTop (mkF m 68 #[.val (.int p0), .val (.int p1), .val (.int p2), .val (.int p3), .val (.int p4), .val (.int p5), .val (.int w.val.toInt32), .val (.int (3 : Int32)), .val (.int (1 : Int32)), .val (.int cc.val.toInt32), .val (.ref b93), .unset, .unset, .unset, .unset] [(.int (3 : Int32))])) _
    refine st97 _ ?_
    show Steps p.tables e below (T97.setTop (mkF m 70 #[.val (.int p0), .val (.int p1), .val (.int p2), .val (.int p3), .val (.int p4), .val (.int p5), .val (.int w.val.toInt32), .val (.int (3 : Int32)), .val (.int (1 : Int32)), .val (.int cc.val.toInt32), .val (.ref b93), .unset, .unset, .unset, .unset] [(.ref b97)])) _
    refine XS.dup X97.here hx rfl (hb hby at_70) rfl rfl ?_
    show Steps p.tables e below (T97.setTop (mkF m 71 #[.val (.int p0), .val (.int p1), .val (.int p2), .val (.int p3), .val (.int p4), .val (.int p5), .val (.int w.val.toInt32), .val (.int (3 : Int32)), .val (.int (1 : Int32)), .val (.int cc.val.toInt32), .val (.ref b93), .unset, .unset, .unset, .unset] [(.ref b97), (.ref b97)])) _
    refine XS.iconst X97.here hx rfl (hb hby at_71) ?_
    show Steps p.tables e below (T97.setTop (mkF m 72 #[.val (.int p0), .val (.int p1), .val (.int p2), .val (.int p3), .val (.int p4), .val (.int p5), .val (.int w.val.toInt32), .val (.int (3 : Int32)), .val (.int (1 : Int32)), .val (.int cc.val.toInt32), .val (.ref b93), .unset, .unset, .unset, .unset] [(.int (0 : Int32)), (.ref b97), (.ref b97)])) _
    refine XS.iloadN X97.here hx rfl (hb hby at_72) rfl ?_
    show Steps p.tables e below (T97.setTop (mkF m 73 #[.val (.int p0), .val (.int p1), .val (.int p2), .val (.int p3), .val (.int p4), .val (.int p5), .val (.int w.val.toInt32), .val (.int (3 : Int32)), .val (.int (1 : Int32)), .val (.int cc.val.toInt32), .val (.ref b93), .unset, .unset, .unset, .unset] [(.int p3), (.int (0 : Int32)), (.ref b97), (.ref b97)])) _
    refine st98 _ ?_
    show Steps p.tables e below (T98.setTop (mkF m 74 #[.val (.int p0), .val (.int p1), .val (.int p2), .val (.int p3), .val (.int p4), .val (.int p5), .val (.int w.val.toInt32), .val (.int (3 : Int32)), .val (.int (1 : Int32)), .val (.int cc.val.toInt32), .val (.ref b93), .unset, .unset, .unset, .unset] [(.ref b97)])) _
    refine XS.dup X98.here hx rfl (hb hby at_74) rfl rfl ?_
    show Steps p.tables e below (T98.setTop (mkF m 75 #[.val (.int p0), .val (.int p1), .val (.int p2), .val (.int p3), .val (.int p4), .val (.int p5), .val (.int w.val.toInt32), .val (.int (3 : Int32)), .val (.int (1 : Int32)), .val (.int cc.val.toInt32), .val (.ref b93), .unset, .unset, .unset, .unset] [(.ref b97), (.ref b97)])) _
    refine XS.iconst X98.here hx rfl (hb hby at_75) ?_
    show Steps p.tables e below (T98.setTop (mkF m 76 #[.val (.int p0), .val (.int p1), .val (.int p2), .val (.int p3), .val (.int p4), .val (.int p5), .val (.int w.val.toInt32), .val (.int (3 : Int32)), .val (.int (1 : Int32)), .val (.int cc.val.toInt32), .val (.ref b93), .unset, .unset, .unset, .unset] [(.int (1 : Int32)), (.ref b97), (.ref b97)])) _
    refine XS.iload X98.here hx rfl (hb hby at_76) rfl ?_
    show Steps p.tables e below (T98.setTop (mkF m 78 #[.val (.int p0), .val (.int p1), .val (.int p2), .val (.int p3), .val (.int p4), .val (.int p5), .val (.int w.val.toInt32), .val (.int (3 : Int32)), .val (.int (1 : Int32)), .val (.int cc.val.toInt32), .val (.ref b93), .unset, .unset, .unset, .unset] [(.int p4), (.int (1 : Int32)), (.ref b97), (.ref b97)])) _
    refine st99 _ ?_
    show Steps p.tables e below (T99.setTop (mkF m 79 #[.val (.int p0), .val (.int p1), .val (.int p2), .val (.int p3), .val (.int p4), .val (.int p5), .val (.int w.val.toInt32), .val (.int (3 : Int32)), .val (.int (1 : Int32)), .val (.int cc.val.toInt32), .val (.ref b93), .unset, .unset, .unset, .unset] [(.ref b97)])) _
    refine XS.dup X99.here hx rfl (hb hby at_79) rfl rfl ?_
    show Steps p.tables e below (T99.setTop (mkF m 80 #[.val (.int p0), .val (.int p1), .val (.int p2), .val (.int p3), .val (.int p4), .val (.int p5), .val (.int w.val.toInt32), .val (.int (3 : Int32)), .val (.int (1 : Int32)), .val (.int cc.val.toInt32), .val (.ref b93), .unset, .unset, .unset, .unset] [(.ref b97), (.ref b97)])) _
    refine XS.iconst X99.here hx rfl (hb hby at_80) ?_
    show Steps p.tables e below (T99.setTop (mkF m 81 #[.val (.int p0), .val (.int p1), .val (.int p2), .val (.int p3), .val (.int p4), .val (.int p5), .val (.int w.val.toInt32), .val (.int (3 : Int32)), .val (.int (1 : Int32)), .val (.int cc.val.toInt32), .val (.ref b93), .unset, .unset, .unset, .unset] [(.int (2 : Int32)), (.ref b97), (.ref b97)])) _
    refine XS.iloadN X99.here hx rfl (hb hby at_81) rfl ?_
    show Steps p.tables e below (T99.setTop (mkF m 82 #[.val (.int p0), .val (.int p1), .val (.int p2), .val (.int p3), .val (.int p4), .val (.int p5), .val (.int w.val.toInt32), .val (.int (3 : Int32)), .val (.int (1 : Int32)), .val (.int cc.val.toInt32), .val (.ref b93), .unset, .unset, .unset, .unset] [(.int p0), (.int (2 : Int32)), (.ref b97), (.ref b97)])) _
    refine XS.iconst X99.here hx rfl (hb hby at_82) ?_
    show Steps p.tables e below (T99.setTop (mkF m 83 #[.val (.int p0), .val (.int p1), .val (.int p2), .val (.int p3), .val (.int p4), .val (.int p5), .val (.int w.val.toInt32), .val (.int (3 : Int32)), .val (.int (1 : Int32)), .val (.int cc.val.toInt32), .val (.ref b93), .unset, .unset, .unset, .unset] [(.int (-1 : Int32)), (.int p0), (.int (2 : Int32)), (.ref b97), (.ref b97)])) _
    refine XT.ixor X99.here hx rfl (hb hby at_83) rfl ?_
    show Steps p.tables e below (T99.setTop (mkF m 84 #[.val (.int p0), .val (.int p1), .val (.int p2), .val (.int p3), .val (.int p4), .val (.int p5), .val (.int w.val.toInt32), .val (.int (3 : Int32)), .val (.int (1 : Int32)), .val (.int cc.val.toInt32), .val (.ref b93), .unset, .unset, .unset, .unset] [(.int (p0 ^^^ (-1 : Int32))), (.int (2 : Int32)), (.ref b97), (.ref b97)])) _
    refine st100 _ ?_
    show Steps p.tables e below (T100.setTop (mkF m 85 #[.val (.int p0), .val (.int p1), .val (.int p2), .val (.int p3), .val (.int p4), .val (.int p5), .val (.int w.val.toInt32), .val (.int (3 : Int32)), .val (.int (1 : Int32)), .val (.int cc.val.toInt32), .val (.ref b93), .unset, .unset, .unset, .unset] [(.ref b97)])) _
    refine XS.astore X100.here hx rfl (hb hby at_85) rfl rfl (l' := #[.val (.int p0), .val (.int p1), .val (.int p2), .val (.int p3), .val (.int p4), .val (.int p5), .val (.int w.val.toInt32), .val (.int (3 : Int32)), .val (.int (1 : Int32)), .val (.int cc.val.toInt32), .val (.ref b93), .val (.ref b97), .unset, .unset, .unset]) rfl ?_
    show Steps p.tables e below (T100.setTop (mkF m 87 #[.val (.int p0), .val (.int p1), .val (.int p2), .val (.int p3), .val (.int p4), .val (.int p5), .val (.int w.val.toInt32), .val (.int (3 : Int32)), .val (.int (1 : Int32)), .val (.int cc.val.toInt32), .val (.ref b93), .val (.ref b97), .unset, .unset, .unset] [])) _
    refine XS.iconst X100.here hx rfl (hb hby at_87) ?_
    show Steps p.tables e below (T100.setTop (mkF m 88 #[.val (.int p0), .val (.int p1), .val (.int p2), .val (.int p3), .val (.int p4), .val (.int p5), .val (.int w.val.toInt32), .val (.int (3 : Int32)), .val (.int (1 : Int32)), .val (.int cc.val.toInt32), .val (.ref b93), .val (.ref b97), .unset, .unset, .unset] [(.int (3 : Int32))])) _
    refine st101 _ ?_
    show Steps p.tables e below (T101.setTop (mkF m 90 #[.val (.int p0), .val (.int p1), .val (.int p2), .val (.int p3), .val (.int p4), .val (.int p5), .val (.int w.val.toInt32), .val (.int (3 : Int32)), .val (.int (1 : Int32)), .val (.int cc.val.toInt32), .val (.ref b93), .val (.ref b97), .unset, .unset, .unset] [(.ref b101)])) _
    refine XS.dup X101.here hx rfl (hb hby at_90) rfl rfl ?_
    show Steps p.tables e below (T101.setTop (mkF m 91 #[.val (.int p0), .val (.int p1), .val (.int p2), .val (.int p3), .val (.int p4), .val (.int p5), .val (.int w.val.toInt32), .val (.int (3 : Int32)), .val (.int (1 : Int32)), .val (.int cc.val.toInt32), .val (.ref b93), .val (.ref b97), .unset, .unset, .unset] [(.ref b101), (.ref b101)])) _
    refine XS.iconst X101.here hx rfl (hb hby at_91) ?_
    show Steps p.tables e below (T101.setTop (mkF m 92 #[.val (.int p0), .val (.int p1), .val (.int p2), .val (.int p3), .val (.int p4), .val (.int p5), .val (.int w.val.toInt32), .val (.int (3 : Int32)), .val (.int (1 : Int32)), .val (.int cc.val.toInt32), .val (.ref b93), .val (.ref b97), .unset, .unset, .unset] [(.int (0 : Int32)), (.ref b101), (.ref b101)])) _
    refine XS.iloadN X101.here hx rfl (hb hby at_92) rfl ?_
    show Steps p.tables e below (T101.setTop (mkF m 93 #[.val (.int p0), .val (.int p1), .val (.int p2), .val (.int p3), .val (.int p4), .val (.int p5), .val (.int w.val.toInt32), .val (.int (3 : Int32)), .val (.int (1 : Int32)), .val (.int cc.val.toInt32), .val (.ref b93), .val (.ref b97), .unset, .unset, .unset] [(.int p1), (.int (0 : Int32)), (.ref b101), (.ref b101)])) _
    refine XS.iconst X101.here hx rfl (hb hby at_93) ?_
    show Steps p.tables e below (T101.setTop (mkF m 94 #[.val (.int p0), .val (.int p1), .val (.int p2), .val (.int p3), .val (.int p4), .val (.int p5), .val (.int w.val.toInt32), .val (.int (3 : Int32)), .val (.int (1 : Int32)), .val (.int cc.val.toInt32), .val (.ref b93), .val (.ref b97), .unset, .unset, .unset] [(.int (-1 : Int32)), (.int p1), (.int (0 : Int32)), (.ref b101), (.ref b101)])) _
    refine XT.ixor X101.here hx rfl (hb hby at_94) rfl ?_
    show Steps p.tables e below (T101.setTop (mkF m 95 #[.val (.int p0), .val (.int p1), .val (.int p2), .val (.int p3), .val (.int p4), .val (.int p5), .val (.int w.val.toInt32), .val (.int (3 : Int32)), .val (.int (1 : Int32)), .val (.int cc.val.toInt32), .val (.ref b93), .val (.ref b97), .unset, .unset, .unset] [(.int (p1 ^^^ (-1 : Int32))), (.int (0 : Int32)), (.ref b101), (.ref b101)])) _
    refine st102 _ ?_
    show Steps p.tables e below (T102.setTop (mkF m 96 #[.val (.int p0), .val (.int p1), .val (.int p2), .val (.int p3), .val (.int p4), .val (.int p5), .val (.int w.val.toInt32), .val (.int (3 : Int32)), .val (.int (1 : Int32)), .val (.int cc.val.toInt32), .val (.ref b93), .val (.ref b97), .unset, .unset, .unset] [(.ref b101)])) _
    refine XS.dup X102.here hx rfl (hb hby at_96) rfl rfl ?_
    show Steps p.tables e below (T102.setTop (mkF m 97 #[.val (.int p0), .val (.int p1), .val (.int p2), .val (.int p3), .val (.int p4), .val (.int p5), .val (.int w.val.toInt32), .val (.int (3 : Int32)), .val (.int (1 : Int32)), .val (.int cc.val.toInt32), .val (.ref b93), .val (.ref b97), .unset, .unset, .unset] [(.ref b101), (.ref b101)])) _
    refine XS.iconst X102.here hx rfl (hb hby at_97) ?_
    show Steps p.tables e below (T102.setTop (mkF m 98 #[.val (.int p0), .val (.int p1), .val (.int p2), .val (.int p3), .val (.int p4), .val (.int p5), .val (.int w.val.toInt32), .val (.int (3 : Int32)), .val (.int (1 : Int32)), .val (.int cc.val.toInt32), .val (.ref b93), .val (.ref b97), .unset, .unset, .unset] [(.int (1 : Int32)), (.ref b101), (.ref b101)])) _
    refine XS.iloadN X102.here hx rfl (hb hby at_98) rfl ?_
    show Steps p.tables e below (T102.setTop (mkF m 99 #[.val (.int p0), .val (.int p1), .val (.int p2), .val (.int p3), .val (.int p4), .val (.int p5), .val (.int w.val.toInt32), .val (.int (3 : Int32)), .val (.int (1 : Int32)), .val (.int cc.val.toInt32), .val (.ref b93), .val (.ref b97), .unset, .unset, .unset] [(.int p2), (.int (1 : Int32)), (.ref b101), (.ref b101)])) _
    refine XS.iconst X102.here hx rfl (hb hby at_99) ?_
    show Steps p.tables e below (T102.setTop (mkF m 100 #[.val (.int p0), .val (.int p1), .val (.int p2), .val (.int p3), .val (.int p4), .val (.int p5), .val (.int w.val.toInt32), .val (.int (3 : Int32)), .val (.int (1 : Int32)), .val (.int cc.val.toInt32), .val (.ref b93), .val (.ref b97), .unset, .unset, .unset] [(.int (-1 : Int32)), (.int p2), (.int (1 : Int32)), (.ref b101), (.ref b101)])) _
    refine XT.ixor X102.here hx rfl (hb hby at_100) rfl ?_
    show Steps p.tables e below (T102.setTop (mkF m 101 #[.val (.int p0), .val (.int p1), .val (.int p2), .val (.int p3), .val (.int p4), .val (.int p5), .val (.int w.val.toInt32), .val (.int (3 : Int32)), .val (.int (1 : Int32)), .val (.int cc.val.toInt32), .val (.ref b93), .val (.ref b97), .unset, .unset, .unset] [(.int (p2 ^^^ (-1 : Int32))), (.int (1 : Int32)), (.ref b101), (.ref b101)])) _
    refine st103 _ ?_
    show Steps p.tables e below (T103.setTop (mkF m 102 #[.val (.int p0), .val (.int p1), .val (.int p2), .val (.int p3), .val (.int p4), .val (.int p5), .val (.int w.val.toInt32), .val (.int (3 : Int32)), .val (.int (1 : Int32)), .val (.int cc.val.toInt32), .val (.ref b93), .val (.ref b97), .unset, .unset, .unset] [(.ref b101)])) _
    refine XS.dup X103.here hx rfl (hb hby at_102) rfl rfl ?_
    show Steps p.tables e below (T103.setTop (mkF m 103 #[.val (.int p0), .val (.int p1), .val (.int p2), .val (.int p3), .val (.int p4), .val (.int p5), .val (.int w.val.toInt32), .val (.int (3 : Int32)), .val (.int (1 : Int32)), .val (.int cc.val.toInt32), .val (.ref b93), .val (.ref b97), .unset, .unset, .unset] [(.ref b101), (.ref b101)])) _
    refine XS.iconst X103.here hx rfl (hb hby at_103) ?_
    show Steps p.tables e below (T103.setTop (mkF m 104 #[.val (.int p0), .val (.int p1), .val (.int p2), .val (.int p3), .val (.int p4), .val (.int p5), .val (.int w.val.toInt32), .val (.int (3 : Int32)), .val (.int (1 : Int32)), .val (.int cc.val.toInt32), .val (.ref b93), .val (.ref b97), .unset, .unset, .unset] [(.int (2 : Int32)), (.ref b101), (.ref b101)])) _
    refine XS.iloadN X103.here hx rfl (hb hby at_104) rfl ?_
    show Steps p.tables e below (T103.setTop (mkF m 105 #[.val (.int p0), .val (.int p1), .val (.int p2), .val (.int p3), .val (.int p4), .val (.int p5), .val (.int w.val.toInt32), .val (.int (3 : Int32)), .val (.int (1 : Int32)), .val (.int cc.val.toInt32), .val (.ref b93), .val (.ref b97), .unset, .unset, .unset] [(.int p3), (.int (2 : Int32)), (.ref b101), (.ref b101)])) _
    refine XS.iconst X103.here hx rfl (hb hby at_105) ?_
    show Steps p.tables e below (T103.setTop (mkF m 106 #[.val (.int p0), .val (.int p1), .val (.int p2), .val (.int p3), .val (.int p4), .val (.int p5), .val (.int w.val.toInt32), .val (.int (3 : Int32)), .val (.int (1 : Int32)), .val (.int cc.val.toInt32), .val (.ref b93), .val (.ref b97), .unset, .unset, .unset] [(.int (-1 : Int32)), (.int p3), (.int (2 : Int32)), (.ref b101), (.ref b101)])) _
    refine XT.ixor X103.here hx rfl (hb hby at_106) rfl ?_
    show Steps p.tables e below (T103.setTop (mkF m 107 #[.val (.int p0), .val (.int p1), .val (.int p2), .val (.int p3), .val (.int p4), .val (.int p5), .val (.int w.val.toInt32), .val (.int (3 : Int32)), .val (.int (1 : Int32)), .val (.int cc.val.toInt32), .val (.ref b93), .val (.ref b97), .unset, .unset, .unset] [(.int (p3 ^^^ (-1 : Int32))), (.int (2 : Int32)), (.ref b101), (.ref b101)])) _
    refine st104 _ ?_
    show Steps p.tables e below (T104.setTop (mkF m 108 #[.val (.int p0), .val (.int p1), .val (.int p2), .val (.int p3), .val (.int p4), .val (.int p5), .val (.int w.val.toInt32), .val (.int (3 : Int32)), .val (.int (1 : Int32)), .val (.int cc.val.toInt32), .val (.ref b93), .val (.ref b97), .unset, .unset, .unset] [(.ref b101)])) _
    refine XS.astore X104.here hx rfl (hb hby at_108) rfl rfl (l' := #[.val (.int p0), .val (.int p1), .val (.int p2), .val (.int p3), .val (.int p4), .val (.int p5), .val (.int w.val.toInt32), .val (.int (3 : Int32)), .val (.int (1 : Int32)), .val (.int cc.val.toInt32), .val (.ref b93), .val (.ref b97), .val (.ref b101), .unset, .unset]) rfl ?_
    show Steps p.tables e below (T104.setTop (mkF m 110 #[.val (.int p0), .val (.int p1), .val (.int p2), .val (.int p3), .val (.int p4), .val (.int p5), .val (.int w.val.toInt32), .val (.int (3 : Int32)), .val (.int (1 : Int32)), .val (.int cc.val.toInt32), .val (.ref b93), .val (.ref b97), .val (.ref b101), .unset, .unset] [])) _
    refine st105 _ ?_
    show Steps p.tables e below (T105.setTop (mkF m 113 #[.val (.int p0), .val (.int p1), .val (.int p2), .val (.int p3), .val (.int p4), .val (.int p5), .val (.int w.val.toInt32), .val (.int (3 : Int32)), .val (.int (1 : Int32)), .val (.int cc.val.toInt32), .val (.ref b93), .val (.ref b97), .val (.ref b101), .unset, .unset] [(.ref b105)])) _
    refine XS.dup X105.here hx rfl (hb hby at_113) rfl rfl ?_
    show Steps p.tables e below (T105.setTop (mkF m 114 #[.val (.int p0), .val (.int p1), .val (.int p2), .val (.int p3), .val (.int p4), .val (.int p5), .val (.int w.val.toInt32), .val (.int (3 : Int32)), .val (.int (1 : Int32)), .val (.int cc.val.toInt32), .val (.ref b93), .val (.ref b97), .val (.ref b101), .unset, .unset] [(.ref b105), (.ref b105)])) _
    refine XS.iload X105.here hx rfl (hb hby at_114) rfl ?_
    show Steps p.tables e below (T105.setTop (mkF m 116 #[.val (.int p0), .val (.int p1), .val (.int p2), .val (.int p3), .val (.int p4), .val (.int p5), .val (.int w.val.toInt32), .val (.int (3 : Int32)), .val (.int (1 : Int32)), .val (.int cc.val.toInt32), .val (.ref b93), .val (.ref b97), .val (.ref b101), .unset, .unset] [(.int w.val.toInt32), (.ref b105), (.ref b105)])) _
    refine st106.trans ?_
    show Steps p.tables e below (T106.setTop (mkF m 119 #[.val (.int p0), .val (.int p1), .val (.int p2), .val (.int p3), .val (.int p4), .val (.int p5), .val (.int w.val.toInt32), .val (.int (3 : Int32)), .val (.int (1 : Int32)), .val (.int cc.val.toInt32), .val (.ref b93), .val (.ref b97), .val (.ref b101), .unset, .unset] [(.ref b105)])) _
    refine XS.astore X106.here hx rfl (hb hby at_119) rfl rfl (l' := #[.val (.int p0), .val (.int p1), .val (.int p2), .val (.int p3), .val (.int p4), .val (.int p5), .val (.int w.val.toInt32), .val (.int (3 : Int32)), .val (.int (1 : Int32)), .val (.int cc.val.toInt32), .val (.ref b93), .val (.ref b97), .val (.ref b101), .val (.ref b105), .unset]) rfl ?_
    show Steps p.tables e below (T106.setTop (mkF m 121 #[.val (.int p0), .val (.int p1), .val (.int p2), .val (.int p3), .val (.int p4), .val (.int p5), .val (.int w.val.toInt32), .val (.int (3 : Int32)), .val (.int (1 : Int32)), .val (.int cc.val.toInt32), .val (.ref b93), .val (.ref b97), .val (.ref b101), .val (.ref b105), .unset] [])) _
    refine XS.aload X106.here hx rfl (hb hby at_121) rfl rfl ?_
    show Steps p.tables e below (T106.setTop (mkF m 123 #[.val (.int p0), .val (.int p1), .val (.int p2), .val (.int p3), .val (.int p4), .val (.int p5), .val (.int w.val.toInt32), .val (.int (3 : Int32)), .val (.int (1 : Int32)), .val (.int cc.val.toInt32), .val (.ref b93), .val (.ref b97), .val (.ref b101), .val (.ref b105), .unset] [(.ref b105)])) _
    refine XS.aload X106.here hx rfl (hb hby at_123) rfl rfl ?_
    show Steps p.tables e below (T106.setTop (mkF m 125 #[.val (.int p0), .val (.int p1), .val (.int p2), .val (.int p3), .val (.int p4), .val (.int p5), .val (.int w.val.toInt32), .val (.int (3 : Int32)), .val (.int (1 : Int32)), .val (.int cc.val.toInt32), .val (.ref b93), .val (.ref b97), .val (.ref b101), .val (.ref b105), .unset] [(.ref b93), (.ref b105)])) _
    refine st107.trans ?_
    show Steps p.tables e below (T107.setTop (mkF m 128 #[.val (.int p0), .val (.int p1), .val (.int p2), .val (.int p3), .val (.int p4), .val (.int p5), .val (.int w.val.toInt32), .val (.int (3 : Int32)), .val (.int (1 : Int32)), .val (.int cc.val.toInt32), .val (.ref b93), .val (.ref b97), .val (.ref b101), .val (.ref b105), .unset] [])) _
    refine XS.iload X107.here hx rfl (hb hby at_128) rfl ?_
    show Steps p.tables e below (T107.setTop (mkF m 130 #[.val (.int p0), .val (.int p1), .val (.int p2), .val (.int p3), .val (.int p4), .val (.int p5), .val (.int w.val.toInt32), .val (.int (3 : Int32)), .val (.int (1 : Int32)), .val (.int cc.val.toInt32), .val (.ref b93), .val (.ref b97), .val (.ref b101), .val (.ref b105), .unset] [(.int (3 : Int32))])) _
    refine XS.iconst X107.here hx rfl (hb hby at_130) ?_
    show Steps p.tables e below (T107.setTop (mkF m 131 #[.val (.int p0), .val (.int p1), .val (.int p2), .val (.int p3), .val (.int p4), .val (.int p5), .val (.int w.val.toInt32), .val (.int (3 : Int32)), .val (.int (1 : Int32)), .val (.int cc.val.toInt32), .val (.ref b93), .val (.ref b97), .val (.ref b101), .val (.ref b105), .unset] [(.int (2 : Int32)), (.int (3 : Int32))])) _
    refine XS.icmpNo X107.here hx rfl (hb hby at_131) rfl (XT.ii_lt_f (by decide)) ?_
    show Steps p.tables e below (T107.setTop (mkF m 134 #[.val (.int p0), .val (.int p1), .val (.int p2), .val (.int p3), .val (.int p4), .val (.int p5), .val (.int w.val.toInt32), .val (.int (3 : Int32)), .val (.int (1 : Int32)), .val (.int cc.val.toInt32), .val (.ref b93), .val (.ref b97), .val (.ref b101), .val (.ref b105), .unset] [])) _
    refine XS.aload X107.here hx rfl (hb hby at_134) rfl rfl ?_
    show Steps p.tables e below (T107.setTop (mkF m 136 #[.val (.int p0), .val (.int p1), .val (.int p2), .val (.int p3), .val (.int p4), .val (.int p5), .val (.int w.val.toInt32), .val (.int (3 : Int32)), .val (.int (1 : Int32)), .val (.int cc.val.toInt32), .val (.ref b93), .val (.ref b97), .val (.ref b101), .val (.ref b105), .unset] [(.ref b105)])) _
    refine XS.aload X107.here hx rfl (hb hby at_136) rfl rfl ?_
    show Steps p.tables e below (T107.setTop (mkF m 138 #[.val (.int p0), .val (.int p1), .val (.int p2), .val (.int p3), .val (.int p4), .val (.int p5), .val (.int w.val.toInt32), .val (.int (3 : Int32)), .val (.int (1 : Int32)), .val (.int cc.val.toInt32), .val (.ref b93), .val (.ref b97), .val (.ref b101), .val (.ref b105), .unset] [(.ref b97), (.ref b105)])) _
    refine st108.trans ?_
    show Steps p.tables e below (T108.setTop (mkF m 141 #[.val (.int p0), .val (.int p1), .val (.int p2), .val (.int p3), .val (.int p4), .val (.int p5), .val (.int w.val.toInt32), .val (.int (3 : Int32)), .val (.int (1 : Int32)), .val (.int cc.val.toInt32), .val (.ref b93), .val (.ref b97), .val (.ref b101), .val (.ref b105), .unset] [])) _
    refine XS.iload X108.here hx rfl (hb hby at_141) rfl ?_
    show Steps p.tables e below (T108.setTop (mkF m 143 #[.val (.int p0), .val (.int p1), .val (.int p2), .val (.int p3), .val (.int p4), .val (.int p5), .val (.int w.val.toInt32), .val (.int (3 : Int32)), .val (.int (1 : Int32)), .val (.int cc.val.toInt32), .val (.ref b93), .val (.ref b97), .val (.ref b101), .val (.ref b105), .unset] [(.int (3 : Int32))])) _
    refine XS.iconst X108.here hx rfl (hb hby at_143) ?_
    show Steps p.tables e below (T108.setTop (mkF m 144 #[.val (.int p0), .val (.int p1), .val (.int p2), .val (.int p3), .val (.int p4), .val (.int p5), .val (.int w.val.toInt32), .val (.int (3 : Int32)), .val (.int (1 : Int32)), .val (.int cc.val.toInt32), .val (.ref b93), .val (.ref b97), .val (.ref b101), .val (.ref b105), .unset] [(.int (3 : Int32)), (.int (3 : Int32))])) _
    refine XS.icmpNo X108.here hx rfl (hb hby at_144) rfl (XT.ii_lt_f (by decide)) ?_
    show Steps p.tables e below (T108.setTop (mkF m 147 #[.val (.int p0), .val (.int p1), .val (.int p2), .val (.int p3), .val (.int p4), .val (.int p5), .val (.int w.val.toInt32), .val (.int (3 : Int32)), .val (.int (1 : Int32)), .val (.int cc.val.toInt32), .val (.ref b93), .val (.ref b97), .val (.ref b101), .val (.ref b105), .unset] [])) _
    refine XS.aload X108.here hx rfl (hb hby at_147) rfl rfl ?_
    show Steps p.tables e below (T108.setTop (mkF m 149 #[.val (.int p0), .val (.int p1), .val (.int p2), .val (.int p3), .val (.int p4), .val (.int p5), .val (.int w.val.toInt32), .val (.int (3 : Int32)), .val (.int (1 : Int32)), .val (.int cc.val.toInt32), .val (.ref b93), .val (.ref b97), .val (.ref b101), .val (.ref b105), .unset] [(.ref b105)])) _
    refine XS.aload X108.here hx rfl (hb hby at_149) rfl rfl ?_
    show Steps p.tables e below (T108.setTop (mkF m 151 #[.val (.int p0), .val (.int p1), .val (.int p2), .val (.int p3), .val (.int p4), .val (.int p5), .val (.int w.val.toInt32), .val (.int (3 : Int32)), .val (.int (1 : Int32)), .val (.int cc.val.toInt32), .val (.ref b93), .val (.ref b97), .val (.ref b101), .val (.ref b105), .unset] [(.ref b101), (.ref b105)])) _
    refine st109.trans ?_
    show Steps p.tables e below (T109.setTop (mkF m 154 #[.val (.int p0), .val (.int p1), .val (.int p2), .val (.int p3), .val (.int p4), .val (.int p5), .val (.int w.val.toInt32), .val (.int (3 : Int32)), .val (.int (1 : Int32)), .val (.int cc.val.toInt32), .val (.ref b93), .val (.ref b97), .val (.ref b101), .val (.ref b105), .unset] [])) _
    refine XS.iload X109.here hx rfl (hb hby at_154) rfl ?_
    show Steps p.tables e below (T109.setTop (mkF m 156 #[.val (.int p0), .val (.int p1), .val (.int p2), .val (.int p3), .val (.int p4), .val (.int p5), .val (.int w.val.toInt32), .val (.int (3 : Int32)), .val (.int (1 : Int32)), .val (.int cc.val.toInt32), .val (.ref b93), .val (.ref b97), .val (.ref b101), .val (.ref b105), .unset] [(.int (1 : Int32))])) _
    refine XS.ifYes X109.here hx rfl (pc0 := 156) (pc' := 169) rfl (hb hby at_156) rfl (XT.i0_ne_t (by decide)) (by decide) (by decide) ?_
    show Steps p.tables e below (T109.setTop (mkF m 169 #[.val (.int p0), .val (.int p1), .val (.int p2), .val (.int p3), .val (.int p4), .val (.int p5), .val (.int w.val.toInt32), .val (.int (3 : Int32)), .val (.int (1 : Int32)), .val (.int cc.val.toInt32), .val (.ref b93), .val (.ref b97), .val (.ref b101), .val (.ref b105), .unset] [])) _
    refine XS.iload X109.here hx rfl (hb hby at_169) rfl ?_
    show Steps p.tables e below (T109.setTop (mkF m 171 #[.val (.int p0), .val (.int p1), .val (.int p2), .val (.int p3), .val (.int p4), .val (.int p5), .val (.int w.val.toInt32), .val (.int (3 : Int32)), .val (.int (1 : Int32)), .val (.int cc.val.toInt32), .val (.ref b93), .val (.ref b97), .val (.ref b101), .val (.ref b105), .unset] [(.int (1 : Int32))])) _
    refine XS.iconst X109.here hx rfl (hb hby at_171) ?_
    show Steps p.tables e below (T109.setTop (mkF m 172 #[.val (.int p0), .val (.int p1), .val (.int p2), .val (.int p3), .val (.int p4), .val (.int p5), .val (.int w.val.toInt32), .val (.int (3 : Int32)), .val (.int (1 : Int32)), .val (.int cc.val.toInt32), .val (.ref b93), .val (.ref b97), .val (.ref b101), .val (.ref b105), .unset] [(.int (1 : Int32)), (.int (1 : Int32))])) _
    refine XS.icmpNo X109.here hx rfl (hb hby at_172) rfl (XT.ii_ne_f (by decide)) ?_
    show Steps p.tables e below (T109.setTop (mkF m 175 #[.val (.int p0), .val (.int p1), .val (.int p2), .val (.int p3), .val (.int p4), .val (.int p5), .val (.int w.val.toInt32), .val (.int (3 : Int32)), .val (.int (1 : Int32)), .val (.int cc.val.toInt32), .val (.ref b93), .val (.ref b97), .val (.ref b101), .val (.ref b105), .unset] [])) _
    refine XS.aload X109.here hx rfl (hb hby at_175) rfl rfl ?_
    show Steps p.tables e below (T109.setTop (mkF m 177 #[.val (.int p0), .val (.int p1), .val (.int p2), .val (.int p3), .val (.int p4), .val (.int p5), .val (.int w.val.toInt32), .val (.int (3 : Int32)), .val (.int (1 : Int32)), .val (.int cc.val.toInt32), .val (.ref b93), .val (.ref b97), .val (.ref b101), .val (.ref b105), .unset] [(.ref b97)])) _
    refine XS.iload X109.here hx rfl (hb hby at_177) rfl ?_
    show Steps p.tables e below (T109.setTop (mkF m 179 #[.val (.int p0), .val (.int p1), .val (.int p2), .val (.int p3), .val (.int p4), .val (.int p5), .val (.int w.val.toInt32), .val (.int (3 : Int32)), .val (.int (1 : Int32)), .val (.int cc.val.toInt32), .val (.ref b93), .val (.ref b97), .val (.ref b101), .val (.ref b105), .unset] [(.int cc.val.toInt32), (.ref b97)])) _
    refine X109.iaload hx (j := cc.val.toInt32) (v := (.int (own_x (upd (upd (upd (fun _ => (.int 0)) 0 (.int p3)) 1 (.int p4)) 2 (.int (p0 ^^^ (-1 : Int32)))) cc.val))) Ar110.1 (State.isArrayOf_alike hZ.alike Ar110.2.1) Ar110.2.2 hin110 hat110 (g := (mkF m 179 #[.val (.int p0), .val (.int p1), .val (.int p2), .val (.int p3), .val (.int p4), .val (.int p5), .val (.int w.val.toInt32), .val (.int (3 : Int32)), .val (.int (1 : Int32)), .val (.int cc.val.toInt32), .val (.ref b93), .val (.ref b97), .val (.ref b101), .val (.ref b105), .unset] [(.int cc.val.toInt32), (.ref b97)])) rfl rfl (hb hby at_179) _ ?_
    show Steps p.tables e below (T109.setTop (mkF m 180 #[.val (.int p0), .val (.int p1), .val (.int p2), .val (.int p3), .val (.int p4), .val (.int p5), .val (.int w.val.toInt32), .val (.int (3 : Int32)), .val (.int (1 : Int32)), .val (.int cc.val.toInt32), .val (.ref b93), .val (.ref b97), .val (.ref b101), .val (.ref b105), .unset] [(.int (own_x (upd (upd (upd (fun _ => (.int 0)) 0 (.int p3)) 1 (.int p4)) 2 (.int (p0 ^^^ (-1 : Int32)))) cc.val))])) _
    refine XS.istore X109.here hx rfl (hb hby at_180) rfl (l' := #[.val (.int p0), .val (.int p1), .val (.int p2), .val (.int p3), .val (.int p4), .val (.int p5), .val (.int w.val.toInt32), .val (.int (3 : Int32)), .val (.int (1 : Int32)), .val (.int cc.val.toInt32), .val (.ref b93), .val (.ref b97), .val (.ref b101), .val (.ref b105), .val (.int (own_x (upd (upd (upd (fun _ => (.int 0)) 0 (.int p3)) 1 (.int p4)) 2 (.int (p0 ^^^ (-1 : Int32)))) cc.val))]) rfl ?_
    show Steps p.tables e below (T109.setTop (mkF m 182 #[.val (.int p0), .val (.int p1), .val (.int p2), .val (.int p3), .val (.int p4), .val (.int p5), .val (.int w.val.toInt32), .val (.int (3 : Int32)), .val (.int (1 : Int32)), .val (.int cc.val.toInt32), .val (.ref b93), .val (.ref b97), .val (.ref b101), .val (.ref b105), .val (.int (own_x (upd (upd (upd (fun _ => (.int 0)) 0 (.int p3)) 1 (.int p4)) 2 (.int (p0 ^^^ (-1 : Int32)))) cc.val))] [])) _
    refine XS.goto X109.here hx rfl (pc0 := 182) (pc' := 192) rfl (hb hby at_182) (by decide) (by decide) ?_
    show Steps p.tables e below (T109.setTop (mkF m 192 #[.val (.int p0), .val (.int p1), .val (.int p2), .val (.int p3), .val (.int p4), .val (.int p5), .val (.int w.val.toInt32), .val (.int (3 : Int32)), .val (.int (1 : Int32)), .val (.int cc.val.toInt32), .val (.ref b93), .val (.ref b97), .val (.ref b101), .val (.ref b105), .val (.int (own_x (upd (upd (upd (fun _ => (.int 0)) 0 (.int p3)) 1 (.int p4)) 2 (.int (p0 ^^^ (-1 : Int32)))) cc.val))] [])) _
    refine XS.aload X109.here hx rfl (hb hby at_192) rfl rfl ?_
    show Steps p.tables e below (T109.setTop (mkF m 194 #[.val (.int p0), .val (.int p1), .val (.int p2), .val (.int p3), .val (.int p4), .val (.int p5), .val (.int w.val.toInt32), .val (.int (3 : Int32)), .val (.int (1 : Int32)), .val (.int cc.val.toInt32), .val (.ref b93), .val (.ref b97), .val (.ref b101), .val (.ref b105), .val (.int (own_x (upd (upd (upd (fun _ => (.int 0)) 0 (.int p3)) 1 (.int p4)) 2 (.int (p0 ^^^ (-1 : Int32)))) cc.val))] [(.ref b105)])) _
    refine XS.iload X109.here hx rfl (hb hby at_194) rfl ?_
    show Steps p.tables e below (T109.setTop (mkF m 196 #[.val (.int p0), .val (.int p1), .val (.int p2), .val (.int p3), .val (.int p4), .val (.int p5), .val (.int w.val.toInt32), .val (.int (3 : Int32)), .val (.int (1 : Int32)), .val (.int cc.val.toInt32), .val (.ref b93), .val (.ref b97), .val (.ref b101), .val (.ref b105), .val (.int (own_x (upd (upd (upd (fun _ => (.int 0)) 0 (.int p3)) 1 (.int p4)) 2 (.int (p0 ^^^ (-1 : Int32)))) cc.val))] [(.int (1 : Int32)), (.ref b105)])) _
    refine XS.iload X109.here hx rfl (hb hby at_196) rfl ?_
    show Steps p.tables e below (T109.setTop (mkF m 198 #[.val (.int p0), .val (.int p1), .val (.int p2), .val (.int p3), .val (.int p4), .val (.int p5), .val (.int w.val.toInt32), .val (.int (3 : Int32)), .val (.int (1 : Int32)), .val (.int cc.val.toInt32), .val (.ref b93), .val (.ref b97), .val (.ref b101), .val (.ref b105), .val (.int (own_x (upd (upd (upd (fun _ => (.int 0)) 0 (.int p3)) 1 (.int p4)) 2 (.int (p0 ^^^ (-1 : Int32)))) cc.val))] [(.int cc.val.toInt32), (.int (1 : Int32)), (.ref b105)])) _
    refine st111.trans ?_
    show Steps p.tables e below (T111.setTop (mkF m 201 #[.val (.int p0), .val (.int p1), .val (.int p2), .val (.int p3), .val (.int p4), .val (.int p5), .val (.int w.val.toInt32), .val (.int (3 : Int32)), .val (.int (1 : Int32)), .val (.int cc.val.toInt32), .val (.ref b93), .val (.ref b97), .val (.ref b101), .val (.ref b105), .val (.int (own_x (upd (upd (upd (fun _ => (.int 0)) 0 (.int p3)) 1 (.int p4)) 2 (.int (p0 ^^^ (-1 : Int32)))) cc.val))] [(.int (own_x (upd (upd (upd (fun _ => (.int 0)) 0 (.int p3)) 1 (.int p4)) 2 (.int (p0 ^^^ (-1 : Int32)))) cc.val))])) _
    refine XS.iload X111.here hx rfl (hb hby at_201) rfl ?_
    show Steps p.tables e below (T111.setTop (mkF m 203 #[.val (.int p0), .val (.int p1), .val (.int p2), .val (.int p3), .val (.int p4), .val (.int p5), .val (.int w.val.toInt32), .val (.int (3 : Int32)), .val (.int (1 : Int32)), .val (.int cc.val.toInt32), .val (.ref b93), .val (.ref b97), .val (.ref b101), .val (.ref b105), .val (.int (own_x (upd (upd (upd (fun _ => (.int 0)) 0 (.int p3)) 1 (.int p4)) 2 (.int (p0 ^^^ (-1 : Int32)))) cc.val))] [(.int (own_x (upd (upd (upd (fun _ => (.int 0)) 0 (.int p3)) 1 (.int p4)) 2 (.int (p0 ^^^ (-1 : Int32)))) cc.val)), (.int (own_x (upd (upd (upd (fun _ => (.int 0)) 0 (.int p3)) 1 (.int p4)) 2 (.int (p0 ^^^ (-1 : Int32)))) cc.val))])) _
    refine XS.icmpNo X111.here hx rfl (hb hby at_203) rfl (XT.ii_ne_f rfl) ?_
    show Steps p.tables e below (T111.setTop (mkF m 206 #[.val (.int p0), .val (.int p1), .val (.int p2), .val (.int p3), .val (.int p4), .val (.int p5), .val (.int w.val.toInt32), .val (.int (3 : Int32)), .val (.int (1 : Int32)), .val (.int cc.val.toInt32), .val (.ref b93), .val (.ref b97), .val (.ref b101), .val (.ref b105), .val (.int (own_x (upd (upd (upd (fun _ => (.int 0)) 0 (.int p3)) 1 (.int p4)) 2 (.int (p0 ^^^ (-1 : Int32)))) cc.val))] [])) _
    refine XS.iconst X111.here hx rfl (hb hby at_206) ?_
    show Steps p.tables e below (T111.setTop (mkF m 207 #[.val (.int p0), .val (.int p1), .val (.int p2), .val (.int p3), .val (.int p4), .val (.int p5), .val (.int w.val.toInt32), .val (.int (3 : Int32)), .val (.int (1 : Int32)), .val (.int cc.val.toInt32), .val (.ref b93), .val (.ref b97), .val (.ref b101), .val (.ref b105), .val (.int (own_x (upd (upd (upd (fun _ => (.int 0)) 0 (.int p3)) 1 (.int p4)) 2 (.int (p0 ^^^ (-1 : Int32)))) cc.val))] [(.int (1 : Int32))])) _
    refine XS.goto X111.here hx rfl (pc0 := 207) (pc' := 211) rfl (hb hby at_207) (by decide) (by decide) ?_
    show Steps p.tables e below (T111.setTop (mkF m 211 #[.val (.int p0), .val (.int p1), .val (.int p2), .val (.int p3), .val (.int p4), .val (.int p5), .val (.int w.val.toInt32), .val (.int (3 : Int32)), .val (.int (1 : Int32)), .val (.int cc.val.toInt32), .val (.ref b93), .val (.ref b97), .val (.ref b101), .val (.ref b105), .val (.int (own_x (upd (upd (upd (fun _ => (.int 0)) 0 (.int p3)) 1 (.int p4)) 2 (.int (p0 ^^^ (-1 : Int32)))) cc.val))] [(.int (1 : Int32))])) _
    exact retN X111 hx (t := .boolean) Bd.returns (by simp) (hb hby at_211) hr
  · show Q_own_law_3_1 Z p0 p1 p2 p3 p4 p5 w cc h0 n0 _ T111.heap _
    rw [eh111]
    exact ⟨rfl, N111⟩
theorem pn_own_law_3_2 : plainName "com/example/factwell/factwell/pql/RowsGetPinLaw" = true := by first | (simp [plainName, overriddenIn]; done) | decide +kernel
theorem ef_own_law_3_2 (m : MethodId) (x0 : Int32) (x1 : Int32) (x2 : Int32) (x3 : Int32) (x4 : Int32) (x5 : Int32) : entryFrame m #[(.int x0), (.int x1), (.int x2), (.int x3), (.int x4), (.int x5)] maxLocals = mkF m 0 #[.val (.int x0), .val (.int x1), .val (.int x2), .val (.int x3), .val (.int x4), .val (.int x5), .unset, .unset, .unset, .unset, .unset, .unset, .unset, .unset, .unset] [] := by first | (simp [entryFrame, mkF, argsToLocals, Value.category, maxLocals]; done) | rfl
def Q_own_law_3_2 (Z : State) (p0 : Int32) (p1 : Int32) (p2 : Int32) (p3 : Int32) (p4 : Int32) (p5 : Int32) (w : Fin 4) (cc : Fin 3) (h0 : Heap) (n0 : Nat) (v : Option Value) (h : Heap) (L : List Loc) : Prop := v = some (.int 1) ∧ Fr n0 L
set_option maxRecDepth 65536 in
set_option maxHeartbeats 40000000 in
theorem own_law_3_2 (l : Launch) (Z : State) (a0 : Array Value) (hw : ∀ d ∈ tables_1, d.before a0 Z = true) (ws : List Jvm.Cond) (p0 : Int32) (p1 : Int32) (p2 : Int32) (p3 : Int32) (p4 : Int32) (p5 : Int32) (w : Fin 4) (cc : Fin 3) (h0 : Heap) (n0 : Nat) (Z0 : n0 ≤ h0.size) (hW_ : ((1 : Int32) + ((p5 &&& (15 : Int32)) % (3 : Int32))) = w.val.toInt32) (hN_ : ((1 : Int32) + (((XT.ushr p5 (4 : Int32)) &&& (15 : Int32)) % (3 : Int32))) = (3 : Int32)) (hR_ : (((XT.ushr p5 (8 : Int32)) &&& (15 : Int32)) % (3 : Int32)) = (2 : Int32)) (hC_ : (((XT.ushr p5 (12 : Int32)) &&& (15 : Int32)) % w.val.toInt32) = cc.val.toInt32) (hw1 : 1 ≤ w.val) (hcw : cc.val < w.val) :
    MetFree l x (head1 (Jvm.Cond.code x code maxLocals ret :: ws) room_1) (fun a U => a = #[(.int p0), (.int p1), (.int p2), (.int p3), (.int p4), (.int p5)] ∧ Z.Warmed39 U.vm ∧ U.heap = h0) (fun _ _ _ _ _ => True) (fun _ U o U' => ∃ v L, o = .returned v ∧ Q_own_law_3_2 Z p0 p1 p2 p3 p4 p5 w cc h0 n0 v U'.heap L ∧ FrameEnd U o U' L 24 192) := by
  refine MetFree.of_bodySF (plainFor_of_name pn_own_law_3_2) hisR ?_
  intro p e s m args below meth c s₁ Bd hml0 hP hK
  obtain ⟨rfl, hZ, hh⟩ := hP
  have hx := Bd.exec
  have hby := Bd.bytes
  have hml : c.maxLocals = 15 := hml0
  have hown : s.vm.findClass "com/example/factwell/factwell/pql/RowsGetPinLaw" = some m.cls := findClass_of_methodNamed Bd.named
  have hnm := (name_of_methodNamed Bd.named Bd.method).1
  have X0 : Stand p l e room_1 s m #[(.int p0), (.int p1), (.int p2), (.int p3), (.int p4), (.int p5)] below meth c s₁ [] 0 0 := Stand.of_body Bd
  have e0 : s₁.heap = h0 := by rw [← hh, Bd.state]; rfl
  have N0 := Fr.nil n0
  have pre0 : ∀ t, Steps p.tables e below (s₁.setTop (mkF m 0 #[.val (.int p0), .val (.int p1), .val (.int p2), .val (.int p3), .val (.int p4), .val (.int p5), .unset, .unset, .unset, .unset, .unset, .unset, .unset, .unset, .unset] [])) t → Steps p.tables e below (s₁.setTop (entryFrame m #[(.int p0), (.int p1), (.int p2), (.int p3), (.int p4), (.int p5)] maxLocals)) t := fun t k => castTop (ef_own_law_3_2 m (p0) (p1) (p2) (p3) (p4) (p5)) k
  obtain ⟨T112, h112, k112, X112, e112, E112, A112, st112⟩ := newP X0 hx hZ (hw _ (List.mem_of_getElem? (i := 0) rfl)) e0 (g := (mkF m 51 #[.val (.int p0), .val (.int p1), .val (.int p2), .val (.int p3), .val (.int p4), .val (.int p5), .val (.int w.val.toInt32), .val (.int (3 : Int32)), .val (.int (2 : Int32)), .val (.int cc.val.toInt32), .unset, .unset, .unset, .unset, .unset] [(.int (3 : Int32))])) rfl (hb hby at_51) rfl (by decide) (cap := 3) (by decide) (by decide) (by decide) (by decide)
  obtain ⟨b112, g112⟩ : ∃ z, z = h0.size := ⟨_, rfl⟩
  rw [← g112] at A112 st112
  have g_b112 : n0 ≤ b112 := Nat.le_trans Z0 (Nat.le_of_eq g112.symm)
  have V112 := Arf.new (n := 3) A112 (by decide) rfl
  obtain ⟨cl113, Ar113, qk113, S113, B113, H113, G113⟩ := id V112
  have hin113 : ¬ ((0 : Int32) < 0 ∨ cl113.slots.size ≤ ((0 : Int32)).toNatClampNeg) := own_inb S113 ⟨by decide, rfl⟩ (by decide)
  obtain ⟨T113, h113, X113, e113, W113, st113⟩ := stI X112 hx hZ e112 Ar113 (j := (0 : Int32)) hin113 (g := (mkF m 56 #[.val (.int p0), .val (.int p1), .val (.int p2), .val (.int p3), .val (.int p4), .val (.int p5), .val (.int w.val.toInt32), .val (.int (3 : Int32)), .val (.int (2 : Int32)), .val (.int cc.val.toInt32), .unset, .unset, .unset, .unset, .unset] [(.int p0), (.int (0 : Int32)), (.ref b112), (.ref b112)])) rfl rfl (hb hby at_56)
  have V113 := own_set Ar113 qk113 S113 B113 H113 G113 rfl ⟨by decide, rfl⟩ W113
  have N113 := Fr.snoc X113 N0 g_b112
  obtain ⟨cl114, Ar114, qk114, S114, B114, H114, G114⟩ := id V113
  have hin114 : ¬ ((1 : Int32) < 0 ∨ cl114.slots.size ≤ ((1 : Int32)).toNatClampNeg) := own_inb S114 ⟨by decide, rfl⟩ (by decide)
  obtain ⟨T114, h114, X114, e114, W114, st114⟩ := stI X113 hx hZ e113 Ar114 (j := (1 : Int32)) hin114 (g := (mkF m 60 #[.val (.int p0), .val (.int p1), .val (.int p2), .val (.int p3), .val (.int p4), .val (.int p5), .val (.int w.val.toInt32), .val (.int (3 : Int32)), .val (.int (2 : Int32)), .val (.int cc.val.toInt32), .unset, .unset, .unset, .unset, .unset] [(.int p1), (.int (1 : Int32)), (.ref b112), (.ref b112)])) rfl rfl (hb hby at_60)
  have V114 := own_set Ar114 qk114 S114 B114 H114 G114 rfl ⟨by decide, rfl⟩ W114
  have N114 := Fr.snoc X114 N113 g_b112
  obtain ⟨cl115, Ar115, qk115, S115, B115, H115, G115⟩ := id V114
  have hin115 : ¬ ((2 : Int32) < 0 ∨ cl115.slots.size ≤ ((2 : Int32)).toNatClampNeg) := own_inb S115 ⟨by decide, rfl⟩ (by decide)
  obtain ⟨T115, h115, X115, e115, W115, st115⟩ := stI X114 hx hZ e114 Ar115 (j := (2 : Int32)) hin115 (g := (mkF m 64 #[.val (.int p0), .val (.int p1), .val (.int p2), .val (.int p3), .val (.int p4), .val (.int p5), .val (.int w.val.toInt32), .val (.int (3 : Int32)), .val (.int (2 : Int32)), .val (.int cc.val.toInt32), .unset, .unset, .unset, .unset, .unset] [(.int p2), (.int (2 : Int32)), (.ref b112), (.ref b112)])) rfl rfl (hb hby at_64)
  have V115 := own_set Ar115 qk115 S115 B115 H115 G115 rfl ⟨by decide, rfl⟩ W115
  have N115 := Fr.snoc X115 N114 g_b112
  obtain ⟨T116, h116, k116, X116, e116, E116, A116, st116⟩ := newP X115 hx hZ (hw _ (List.mem_of_getElem? (i := 0) rfl)) e115 (g := (mkF m 68 #[.val (.int p0), .val (.int p1), .val (.int p2), .val (.int p3), .val (.int p4), .val (.int p5), .val (.int w.val.toInt32), .val (.int (3 : Int32)), .val (.int (2 : Int32)), .val (.int cc.val.toInt32), .val (.ref b112), .unset, .unset, .unset, .unset] [(.int (3 : Int32))])) rfl (hb hby at_68) rfl (by decide) (cap := 3) (by decide) (by decide) (by decide) (by decide)
  obtain ⟨b116, g116⟩ : ∃ z, z = h115.size := ⟨_, rfl⟩
  rw [← g116] at A116 st116
  have g_b116 : n0 ≤ b116 := Nat.le_trans (Nat.le_trans (Nat.le_trans (Nat.le_trans (Nat.le_trans Z0 E112.1) (Keep.of_wr W113).1) (Keep.of_wr W114).1) (Keep.of_wr W115).1) (Nat.le_of_eq g116.symm)
  have lt_b112_b116 : b112 < b116 := Nat.lt_of_lt_of_eq V115.lt g116.symm
  have V116 := Arf.new (n := 3) A116 (by decide) rfl
  obtain ⟨cl117, Ar117, qk117, S117, B117, H117, G117⟩ := id V116
  have hin117 : ¬ ((0 : Int32) < 0 ∨ cl117.slots.size ≤ ((0 : Int32)).toNatClampNeg) := own_inb S117 ⟨by decide, rfl⟩ (by decide)
  obtain ⟨T117, h117, X117, e117, W117, st117⟩ := stI X116 hx hZ e116 Ar117 (j := (0 : Int32)) hin117 (g := (mkF m 73 #[.val (.int p0), .val (.int p1), .val (.int p2), .val (.int p3), .val (.int p4), .val (.int p5), .val (.int w.val.toInt32), .val (.int (3 : Int32)), .val (.int (2 : Int32)), .val (.int cc.val.toInt32), .val (.ref b112), .unset, .unset, .unset, .unset] [(.int p3), (.int (0 : Int32)), (.ref b116), (.ref b116)])) rfl rfl (hb hby at_73)
  have V117 := own_set Ar117 qk117 S117 B117 H117 G117 rfl ⟨by decide, rfl⟩ W117
  have N117 := Fr.snoc X117 N115 g_b116
  obtain ⟨cl118, Ar118, qk118, S118, B118, H118, G118⟩ := id V117
  have hin118 : ¬ ((1 : Int32) < 0 ∨ cl118.slots.size ≤ ((1 : Int32)).toNatClampNeg) := own_inb S118 ⟨by decide, rfl⟩ (by decide)
  obtain ⟨T118, h118, X118, e118, W118, st118⟩ := stI X117 hx hZ e117 Ar118 (j := (1 : Int32)) hin118 (g := (mkF m 78 #[.val (.int p0), .val (.int p1), .val (.int p2), .val (.int p3), .val (.int p4), .val (.int p5), .val (.int w.val.toInt32), .val (.int (3 : Int32)), .val (.int (2 : Int32)), .val (.int cc.val.toInt32), .val (.ref b112), .unset, .unset, .unset, .unset] [(.int p4), (.int (1 : Int32)), (.ref b116), (.ref b116)])) rfl rfl (hb hby at_78)
  have V118 := own_set Ar118 qk118 S118 B118 H118 G118 rfl ⟨by decide, rfl⟩ W118
  have N118 := Fr.snoc X118 N117 g_b116
  obtain ⟨cl119, Ar119, qk119, S119, B119, H119, G119⟩ := id V118
  have hin119 : ¬ ((2 : Int32) < 0 ∨ cl119.slots.size ≤ ((2 : Int32)).toNatClampNeg) := own_inb S119 ⟨by decide, rfl⟩ (by decide)
  obtain ⟨T119, h119, X119, e119, W119, st119⟩ := stI X118 hx hZ e118 Ar119 (j := (2 : Int32)) hin119 (g := (mkF m 84 #[.val (.int p0), .val (.int p1), .val (.int p2), .val (.int p3), .val (.int p4), .val (.int p5), .val (.int w.val.toInt32), .val (.int (3 : Int32)), .val (.int (2 : Int32)), .val (.int cc.val.toInt32), .val (.ref b112), .unset, .unset, .unset, .unset] [(.int (p0 ^^^ (-1 : Int32))), (.int (2 : Int32)), (.ref b116), (.ref b116)])) rfl rfl (hb hby at_84)
  have V119 := own_set Ar119 qk119 S119 B119 H119 G119 rfl ⟨by decide, rfl⟩ W119
  have N119 := Fr.snoc X119 N118 g_b116
  obtain ⟨T120, h120, k120, X120, e120, E120, A120, st120⟩ := newP X119 hx hZ (hw _ (List.mem_of_getElem? (i := 0) rfl)) e119 (g := (mkF m 88 #[.val (.int p0), .val (.int p1), .val (.int p2), .val (.int p3), .val (.int p4), .val (.int p5), .val (.int w.val.toInt32), .val (.int (3 : Int32)), .val (.int (2 : Int32)), .val (.int cc.val.toInt32), .val (.ref b112), .val (.ref b116), .unset, .unset, .unset] [(.int (3 : Int32))])) rfl (hb hby at_88) rfl (by decide) (cap := 3) (by decide) (by decide) (by decide) (by decide)
  obtain ⟨b120, g120⟩ : ∃ z, z = h119.size := ⟨_, rfl⟩
  rw [← g120] at A120 st120
  have g_b120 : n0 ≤ b120 := Nat.le_trans (Nat.le_trans (Nat.le_trans (Nat.le_trans (Nat.le_trans (Nat.le_trans (Nat.le_trans (Nat.le_trans (Nat.le_trans Z0 E112.1) (Keep.of_wr W113).1) (Keep.of_wr W114).1) (Keep.of_wr W115).1) E116.1) (Keep.of_wr W117).1) (Keep.of_wr W118).1) (Keep.of_wr W119).1) (Nat.le_of_eq g120.symm)
  have lt_b112_b120 : b112 < b120 := Nat.lt_of_lt_of_eq ((((V115.ext E116).other W117 (Nat.ne_of_lt lt_b112_b116)).other W118 (Nat.ne_of_lt lt_b112_b116)).other W119 (Nat.ne_of_lt lt_b112_b116)).lt g120.symm
  have lt_b116_b120 : b116 < b120 := Nat.lt_of_lt_of_eq V119.lt g120.symm
  have V120 := Arf.new (n := 3) A120 (by decide) rfl
  obtain ⟨cl121, Ar121, qk121, S121, B121, H121, G121⟩ := id V120
  have hin121 : ¬ ((0 : Int32) < 0 ∨ cl121.slots.size ≤ ((0 : Int32)).toNatClampNeg) := own_inb S121 ⟨by decide, rfl⟩ (by decide)
  obtain ⟨T121, h121, X121, e121, W121, st121⟩ := stI X120 hx hZ e120 Ar121 (j := (0 : Int32)) hin121 (g := (mkF m 95 #[.val (.int p0), .val (.int p1), .val (.int p2), .val (.int p3), .val (.int p4), .val (.int p5), .val (.int w.val.toInt32), .val (.int (3 : Int32)), .val (.int (2 : Int32)), .val (.int cc.val.toInt32), .val (.ref b112), .val (.ref b116), .unset, .unset, .unset] [(.int (p1 ^^^ (-1 : Int32))), (.int (0 : Int32)), (.ref b120), (.ref b120)])) rfl rfl (hb hby at_95)
  have V121 := own_set Ar121 qk121 S121 B121 H121 G121 rfl ⟨by decide, rfl⟩ W121
  have N121 := Fr.snoc X121 N119 g_b120
  obtain ⟨cl122, Ar122, qk122, S122, B122, H122, G122⟩ := id V121
  have hin122 : ¬ ((1 : Int32) < 0 ∨ cl122.slots.size ≤ ((1 : Int32)).toNatClampNeg) := own_inb S122 ⟨by decide, rfl⟩ (by decide)
  obtain ⟨T122, h122, X122, e122, W122, st122⟩ := stI X121 hx hZ e121 Ar122 (j := (1 : Int32)) hin122 (g := (mkF m 101 #[.val (.int p0), .val (.int p1), .val (.int p2), .val (.int p3), .val (.int p4), .val (.int p5), .val (.int w.val.toInt32), .val (.int (3 : Int32)), .val (.int (2 : Int32)), .val (.int cc.val.toInt32), .val (.ref b112), .val (.ref b116), .unset, .unset, .unset] [(.int (p2 ^^^ (-1 : Int32))), (.int (1 : Int32)), (.ref b120), (.ref b120)])) rfl rfl (hb hby at_101)
  have V122 := own_set Ar122 qk122 S122 B122 H122 G122 rfl ⟨by decide, rfl⟩ W122
  have N122 := Fr.snoc X122 N121 g_b120
  obtain ⟨cl123, Ar123, qk123, S123, B123, H123, G123⟩ := id V122
  have hin123 : ¬ ((2 : Int32) < 0 ∨ cl123.slots.size ≤ ((2 : Int32)).toNatClampNeg) := own_inb S123 ⟨by decide, rfl⟩ (by decide)
  obtain ⟨T123, h123, X123, e123, W123, st123⟩ := stI X122 hx hZ e122 Ar123 (j := (2 : Int32)) hin123 (g := (mkF m 107 #[.val (.int p0), .val (.int p1), .val (.int p2), .val (.int p3), .val (.int p4), .val (.int p5), .val (.int w.val.toInt32), .val (.int (3 : Int32)), .val (.int (2 : Int32)), .val (.int cc.val.toInt32), .val (.ref b112), .val (.ref b116), .unset, .unset, .unset] [(.int (p3 ^^^ (-1 : Int32))), (.int (2 : Int32)), (.ref b120), (.ref b120)])) rfl rfl (hb hby at_107)
  have V123 := own_set Ar123 qk123 S123 B123 H123 G123 rfl ⟨by decide, rfl⟩ W123
  have N123 := Fr.snoc X123 N122 g_b120
  obtain ⟨T124, h124, X124, e124, E124, A124, D124, -, st124⟩ := newO X123 hx hZ hown (hw _ (List.mem_of_getElem? (i := 1) rfl)) (hw _ (List.mem_of_getElem? (i := 2) rfl)) (hw _ (List.mem_of_getElem? (i := 3) rfl)) e123 (g := (mkF m 110 #[.val (.int p0), .val (.int p1), .val (.int p2), .val (.int p3), .val (.int p4), .val (.int p5), .val (.int w.val.toInt32), .val (.int (3 : Int32)), .val (.int (2 : Int32)), .val (.int cc.val.toInt32), .val (.ref b112), .val (.ref b116), .val (.ref b120), .unset, .unset] [])) rfl (hb hby at_110) (by decide) (by decide)
  obtain ⟨b124, g124⟩ : ∃ z, z = h123.size := ⟨_, rfl⟩
  rw [← g124] at A124 D124 st124
  have g_b124 : n0 ≤ b124 := Nat.le_trans (Nat.le_trans (Nat.le_trans (Nat.le_trans (Nat.le_trans (Nat.le_trans (Nat.le_trans (Nat.le_trans (Nat.le_trans (Nat.le_trans (Nat.le_trans (Nat.le_trans (Nat.le_trans Z0 E112.1) (Keep.of_wr W113).1) (Keep.of_wr W114).1) (Keep.of_wr W115).1) E116.1) (Keep.of_wr W117).1) (Keep.of_wr W118).1) (Keep.of_wr W119).1) E120.1) (Keep.of_wr W121).1) (Keep.of_wr W122).1) (Keep.of_wr W123).1) (Nat.le_of_eq g124.symm)
  have lt_b112_b124 : b112 < b124 := Nat.lt_of_lt_of_eq ((((((((V115.ext E116).other W117 (Nat.ne_of_lt lt_b112_b116)).other W118 (Nat.ne_of_lt lt_b112_b116)).other W119 (Nat.ne_of_lt lt_b112_b116)).ext E120).other W121 (Nat.ne_of_lt lt_b112_b120)).other W122 (Nat.ne_of_lt lt_b112_b120)).other W123 (Nat.ne_of_lt lt_b112_b120)).lt g124.symm
  have lt_b116_b124 : b116 < b124 := Nat.lt_of_lt_of_eq ((((V119.ext E120).other W121 (Nat.ne_of_lt lt_b116_b120)).other W122 (Nat.ne_of_lt lt_b116_b120)).other W123 (Nat.ne_of_lt lt_b116_b120)).lt g124.symm
  have lt_b120_b124 : b120 < b124 := Nat.lt_of_lt_of_eq V123.lt g124.symm
  have F124_width : Fld Z h124 b124 "com/example/factwell/factwell/pql/Rows" "width" "I" (.int (0 : Int32)) := D124 (Or.inr (hw _ (List.mem_of_getElem? (i := 14) rfl))) (ty := .int) (by decide)
  have F124_mayRepeat : Fld Z h124 b124 "com/example/factwell/factwell/pql/Rows" "mayRepeat" "Z" (.int (0 : Int32)) := D124 (Or.inr (hw _ (List.mem_of_getElem? (i := 16) rfl))) (ty := .boolean) (by decide)
  have F124_cells : Fld Z h124 b124 "com/example/factwell/factwell/pql/Rows" "cells" "[I" .null := D124 (Or.inl (hw _ (List.mem_of_getElem? (i := 18) rfl))) (ty := (.array .int)) (by decide)
  have F124_count : Fld Z h124 b124 "com/example/factwell/factwell/pql/Rows" "count" "I" (.int (0 : Int32)) := D124 (Or.inl (hw _ (List.mem_of_getElem? (i := 25) rfl))) (ty := .int) (by decide)
  obtain ⟨_, _, ⟨T125, L125, k125, n125⟩, -, X125, ⟨Lc125, hQ125, l125, y125, z125⟩, st125⟩ := X124.specialBack hx (y := (⟨"com/example/factwell/factwell/pql/Rows", "<init>", "(I)V"⟩ : MethodName)) rfl hown (mvT hZ (hw _ (List.mem_of_getElem? (i := 4) rfl))) (mvT hZ (hw _ (List.mem_of_getElem? (i := 5) rfl))) (mvT hZ (hw _ (List.mem_of_getElem? (i := 6) rfl))) (by decide) (backOf (W := 1) (own_i1 l Z a0 hw [] b124 w.val.toInt32 (8 * w.val) h124 n0 (Nat.le_trans (Nat.le_trans (Nat.le_trans (Nat.le_trans (Nat.le_trans (Nat.le_trans (Nat.le_trans (Nat.le_trans (Nat.le_trans (Nat.le_trans (Nat.le_trans (Nat.le_trans (Nat.le_trans Z0 E112.1) (Keep.of_wr W113).1) (Keep.of_wr W114).1) (Keep.of_wr W115).1) E116.1) (Keep.of_wr W117).1) (Keep.of_wr W118).1) (Keep.of_wr W119).1) E120.1) (Keep.of_wr W121).1) (Keep.of_wr W122).1) (Keep.of_wr W123).1) E124.1) (own_neg w) (own_cap w) (own_z w) A124 F124_width F124_mayRepeat F124_cells F124_count g_b124) hZ (hw _ (List.mem_of_getElem? (i := 6) rfl)) (hw _ (List.mem_of_getElem? (i := 3) rfl)) (by decide) (by decide)) (g := (mkF m 116 #[.val (.int p0), .val (.int p1), .val (.int p2), .val (.int p3), .val (.int p4), .val (.int p5), .val (.int w.val.toInt32), .val (.int (3 : Int32)), .val (.int (2 : Int32)), .val (.int cc.val.toInt32), .val (.ref b112), .val (.ref b116), .val (.ref b120), .unset, .unset] [(.int w.val.toInt32), (.ref b124), (.ref b124)])) rfl (by rw [hml]; rfl) (Steps.refl _) (a := b124) (argsL := [(.int w.val.toInt32)]) (rest := [(.ref b124)]) (lenOf pd_1 rfl) rfl (by show 2 * 0 + _ ≤ _; exact Nat.le_of_eq rfl) (hb hby at_116) (fun _ _ => ⟨rfl, e124, (by decide : 4 + 1 ≤ _), (by decide : 13 + 24 ≤ _)⟩)
  dsimp only [Pt.U, Pt.locs, Pt.cells, Pt.slots] at X125 l125 y125 z125 st125 hQ125
  subst l125 y125 z125
  obtain ⟨rfl, N125q, ac, kc, ⟨g_ac, l1, gh⟩, K125, E_, F_w, F_c, F_n, V_c⟩ := hQ125
  have N125 := Fr.app N123 N125q
  have lt_b124_ac : ∀ x, x < h124.size → x < ac := fun x q => Nat.lt_of_lt_of_le q gh
  obtain ⟨cq126, kq126, q126a, q126b, q126c⟩ := isOf hZ rfl E_
  obtain ⟨_, _, ⟨T126, L126, k126, n126⟩, -, X126, ⟨Lc126, hQ126, l126, y126, z126⟩, st126⟩ := X125.virtualBack hx (y := (⟨"com/example/factwell/factwell/pql/Rows", "add", "([I)V"⟩ : MethodName)) (z := (⟨"com/example/factwell/factwell/pql/Rows", "add", "([I)V"⟩ : MethodName)) hown (mvT hZ (hw _ (List.mem_of_getElem? (i := 19) rfl))) (mvT hZ (hw _ (List.mem_of_getElem? (i := 20) rfl))) (notFace_of_selects (args := #[]) (mvT hZ (hw _ (List.mem_of_getElem? (i := 22) rfl)))) (mvT hZ (hw _ (List.mem_of_getElem? (i := 22) rfl))) (mvT hZ (hw _ (List.mem_of_getElem? (i := 21) rfl))) (by decide) (backOf (W := 0) (own_add l Z a0 hw [] b124 b112 0 w ac kc k112 (fun _ => Value.int 0) (upd (upd (upd (fun _ => (.int 0)) 0 (.int p0)) 1 (.int p1)) 2 (.int p2)) T125.heap n0 (Nat.le_trans (Nat.le_trans (Nat.le_trans (Nat.le_trans (Nat.le_trans (Nat.le_trans (Nat.le_trans (Nat.le_trans (Nat.le_trans (Nat.le_trans (Nat.le_trans (Nat.le_trans (Nat.le_trans (Nat.le_trans Z0 E112.1) (Keep.of_wr W113).1) (Keep.of_wr W114).1) (Keep.of_wr W115).1) E116.1) (Keep.of_wr W117).1) (Keep.of_wr W118).1) (Keep.of_wr W119).1) E120.1) (Keep.of_wr W121).1) (Keep.of_wr W122).1) (Keep.of_wr W123).1) E124.1) K125.1) g_b124 g_ac l1 (Nat.ne_of_lt (lt_b124_ac _ (((((((((V115.ext E116).other W117 (Nat.ne_of_lt lt_b112_b116)).other W118 (Nat.ne_of_lt lt_b112_b116)).other W119 (Nat.ne_of_lt lt_b112_b116)).ext E120).other W121 (Nat.ne_of_lt lt_b112_b120)).other W122 (Nat.ne_of_lt lt_b112_b120)).other W123 (Nat.ne_of_lt lt_b112_b120)).ext E124).lt)) (Nat.ne_of_lt lt_b112_b124) E_ F_w F_c F_n V_c ((((((((((V115.ext E116).other W117 (Nat.ne_of_lt lt_b112_b116)).other W118 (Nat.ne_of_lt lt_b112_b116)).other W119 (Nat.ne_of_lt lt_b112_b116)).ext E120).other W121 (Nat.ne_of_lt lt_b112_b120)).other W122 (Nat.ne_of_lt lt_b112_b120)).other W123 (Nat.ne_of_lt lt_b112_b120)).ext E124).keep K125 (ninS (Nat.ne_of_lt lt_b112_b124) nin0))) hZ (hw _ (List.mem_of_getElem? (i := 23) rfl)) (hw _ (List.mem_of_getElem? (i := 3) rfl)) (by decide) (by decide)) q126a q126c (g := (mkF m 125 #[.val (.int p0), .val (.int p1), .val (.int p2), .val (.int p3), .val (.int p4), .val (.int p5), .val (.int w.val.toInt32), .val (.int (3 : Int32)), .val (.int (2 : Int32)), .val (.int cc.val.toInt32), .val (.ref b112), .val (.ref b116), .val (.ref b120), .val (.ref b124), .unset] [(.ref b112), (.ref b124)])) rfl (by rw [hml]; rfl) (Steps.refl _) (argsL := [(.ref b112)]) (rest := []) (lenOf pd_2 rfl) rfl (by show 2 * 0 + _ ≤ _; exact Nat.le_of_eq rfl) (hb hby at_125) (fun _ _ => ⟨rfl, rfl, (by decide : 5 + 0 ≤ _), (by decide : 37 + 0 ≤ _)⟩)
  dsimp only [Pt.U, Pt.locs, Pt.cells, Pt.slots] at X126 l126 y126 z126 st126 hQ126
  subst l126 y126 z126
  obtain ⟨rfl, N126q, K126, E_0, F_w0, F_c0, F_n0, V_c0⟩ := hQ126
  have N126 := Fr.app N125 N126q
  obtain ⟨cq127, kq127, q127a, q127b, q127c⟩ := isOf hZ rfl E_0
  obtain ⟨_, _, ⟨T127, L127, k127, n127⟩, -, X127, ⟨Lc127, hQ127, l127, y127, z127⟩, st127⟩ := X126.virtualBack hx (y := (⟨"com/example/factwell/factwell/pql/Rows", "add", "([I)V"⟩ : MethodName)) (z := (⟨"com/example/factwell/factwell/pql/Rows", "add", "([I)V"⟩ : MethodName)) hown (mvT hZ (hw _ (List.mem_of_getElem? (i := 19) rfl))) (mvT hZ (hw _ (List.mem_of_getElem? (i := 20) rfl))) (notFace_of_selects (args := #[]) (mvT hZ (hw _ (List.mem_of_getElem? (i := 22) rfl)))) (mvT hZ (hw _ (List.mem_of_getElem? (i := 22) rfl))) (mvT hZ (hw _ (List.mem_of_getElem? (i := 21) rfl))) (by decide) (backOf (W := 0) (own_add l Z a0 hw [] b124 b116 1 w ac kc k116 (fun j => if (0 * w.val) ≤ j ∧ j < (0 * w.val) + w.val then (upd (upd (upd (fun _ => (.int 0)) 0 (.int p0)) 1 (.int p1)) 2 (.int p2)) (0 + (j - (0 * w.val))) else (fun _ => Value.int 0) j) (upd (upd (upd (fun _ => (.int 0)) 0 (.int p3)) 1 (.int p4)) 2 (.int (p0 ^^^ (-1 : Int32)))) T126.heap n0 (Nat.le_trans (Nat.le_trans (Nat.le_trans (Nat.le_trans (Nat.le_trans (Nat.le_trans (Nat.le_trans (Nat.le_trans (Nat.le_trans (Nat.le_trans (Nat.le_trans (Nat.le_trans (Nat.le_trans (Nat.le_trans (Nat.le_trans Z0 E112.1) (Keep.of_wr W113).1) (Keep.of_wr W114).1) (Keep.of_wr W115).1) E116.1) (Keep.of_wr W117).1) (Keep.of_wr W118).1) (Keep.of_wr W119).1) E120.1) (Keep.of_wr W121).1) (Keep.of_wr W122).1) (Keep.of_wr W123).1) E124.1) K125.1) K126.1) g_b124 g_ac l1 (Nat.ne_of_lt (lt_b124_ac _ (((((V119.ext E120).other W121 (Nat.ne_of_lt lt_b116_b120)).other W122 (Nat.ne_of_lt lt_b116_b120)).other W123 (Nat.ne_of_lt lt_b116_b120)).ext E124).lt)) (Nat.ne_of_lt lt_b116_b124) E_0 F_w0 F_c0 F_n0 V_c0 (((((((V119.ext E120).other W121 (Nat.ne_of_lt lt_b116_b120)).other W122 (Nat.ne_of_lt lt_b116_b120)).other W123 (Nat.ne_of_lt lt_b116_b120)).ext E124).keep K125 (ninS (Nat.ne_of_lt lt_b116_b124) nin0)).keep K126 (ninS (Nat.ne_of_lt lt_b116_b124) (ninS (Nat.ne_of_lt (lt_b124_ac _ (((((V119.ext E120).other W121 (Nat.ne_of_lt lt_b116_b120)).other W122 (Nat.ne_of_lt lt_b116_b120)).other W123 (Nat.ne_of_lt lt_b116_b120)).ext E124).lt)) nin0)))) hZ (hw _ (List.mem_of_getElem? (i := 23) rfl)) (hw _ (List.mem_of_getElem? (i := 3) rfl)) (by decide) (by decide)) q127a q127c (g := (mkF m 138 #[.val (.int p0), .val (.int p1), .val (.int p2), .val (.int p3), .val (.int p4), .val (.int p5), .val (.int w.val.toInt32), .val (.int (3 : Int32)), .val (.int (2 : Int32)), .val (.int cc.val.toInt32), .val (.ref b112), .val (.ref b116), .val (.ref b120), .val (.ref b124), .unset] [(.ref b116), (.ref b124)])) rfl (by rw [hml]; rfl) (Steps.refl _) (argsL := [(.ref b116)]) (rest := []) (lenOf pd_2 rfl) rfl (by show 2 * 0 + _ ≤ _; exact Nat.le_of_eq rfl) (hb hby at_138) (fun _ _ => ⟨rfl, rfl, (by decide : 5 + 0 ≤ _), (by decide : 37 + 0 ≤ _)⟩)
  dsimp only [Pt.U, Pt.locs, Pt.cells, Pt.slots] at X127 l127 y127 z127 st127 hQ127
  subst l127 y127 z127
  obtain ⟨rfl, N127q, K127, E_1, F_w1, F_c1, F_n1, V_c1⟩ := hQ127
  have N127 := Fr.app N126 N127q
  obtain ⟨cq128, kq128, q128a, q128b, q128c⟩ := isOf hZ rfl E_1
  obtain ⟨_, _, ⟨T128, L128, k128, n128⟩, -, X128, ⟨Lc128, hQ128, l128, y128, z128⟩, st128⟩ := X127.virtualBack hx (y := (⟨"com/example/factwell/factwell/pql/Rows", "add", "([I)V"⟩ : MethodName)) (z := (⟨"com/example/factwell/factwell/pql/Rows", "add", "([I)V"⟩ : MethodName)) hown (mvT hZ (hw _ (List.mem_of_getElem? (i := 19) rfl))) (mvT hZ (hw _ (List.mem_of_getElem? (i := 20) rfl))) (notFace_of_selects (args := #[]) (mvT hZ (hw _ (List.mem_of_getElem? (i := 22) rfl)))) (mvT hZ (hw _ (List.mem_of_getElem? (i := 22) rfl))) (mvT hZ (hw _ (List.mem_of_getElem? (i := 21) rfl))) (by decide) (backOf (W := 0) (own_add l Z a0 hw [] b124 b120 2 w ac kc k120 (fun j => if (1 * w.val) ≤ j ∧ j < (1 * w.val) + w.val then (upd (upd (upd (fun _ => (.int 0)) 0 (.int p3)) 1 (.int p4)) 2 (.int (p0 ^^^ (-1 : Int32)))) (0 + (j - (1 * w.val))) else (fun j => if (0 * w.val) ≤ j ∧ j < (0 * w.val) + w.val then (upd (upd (upd (fun _ => (.int 0)) 0 (.int p0)) 1 (.int p1)) 2 (.int p2)) (0 + (j - (0 * w.val))) else (fun _ => Value.int 0) j) j) (upd (upd (upd (fun _ => (.int 0)) 0 (.int (p1 ^^^ (-1 : Int32)))) 1 (.int (p2 ^^^ (-1 : Int32)))) 2 (.int (p3 ^^^ (-1 : Int32)))) T127.heap n0 (Nat.le_trans (Nat.le_trans (Nat.le_trans (Nat.le_trans (Nat.le_trans (Nat.le_trans (Nat.le_trans (Nat.le_trans (Nat.le_trans (Nat.le_trans (Nat.le_trans (Nat.le_trans (Nat.le_trans (Nat.le_trans (Nat.le_trans (Nat.le_trans Z0 E112.1) (Keep.of_wr W113).1) (Keep.of_wr W114).1) (Keep.of_wr W115).1) E116.1) (Keep.of_wr W117).1) (Keep.of_wr W118).1) (Keep.of_wr W119).1) E120.1) (Keep.of_wr W121).1) (Keep.of_wr W122).1) (Keep.of_wr W123).1) E124.1) K125.1) K126.1) K127.1) g_b124 g_ac l1 (Nat.ne_of_lt (lt_b124_ac _ (V123.ext E124).lt)) (Nat.ne_of_lt lt_b120_b124) E_1 F_w1 F_c1 F_n1 V_c1 ((((V123.ext E124).keep K125 (ninS (Nat.ne_of_lt lt_b120_b124) nin0)).keep K126 (ninS (Nat.ne_of_lt lt_b120_b124) (ninS (Nat.ne_of_lt (lt_b124_ac _ (V123.ext E124).lt)) nin0))).keep K127 (ninS (Nat.ne_of_lt lt_b120_b124) (ninS (Nat.ne_of_lt (lt_b124_ac _ (V123.ext E124).lt)) nin0)))) hZ (hw _ (List.mem_of_getElem? (i := 23) rfl)) (hw _ (List.mem_of_getElem? (i := 3) rfl)) (by decide) (by decide)) q128a q128c (g := (mkF m 151 #[.val (.int p0), .val (.int p1), .val (.int p2), .val (.int p3), .val (.int p4), .val (.int p5), .val (.int w.val.toInt32), .val (.int (3 : Int32)), .val (.int (2 : Int32)), .val (.int cc.val.toInt32), .val (.ref b112), .val (.ref b116), .val (.ref b120), .val (.ref b124), .unset] [(.ref b120), (.ref b124)])) rfl (by rw [hml]; rfl) (Steps.refl _) (argsL := [(.ref b120)]) (rest := []) (lenOf pd_2 rfl) rfl (by show 2 * 0 + _ ≤ _; exact Nat.le_of_eq rfl) (hb hby at_151) (fun _ _ => ⟨rfl, rfl, (by decide : 5 + 0 ≤ _), (by decide : 37 + 0 ≤ _)⟩)
  dsimp only [Pt.U, Pt.locs, Pt.cells, Pt.slots] at X128 l128 y128 z128 st128 hQ128
  subst l128 y128 z128
  obtain ⟨rfl, N128q, K128, E_2, F_w2, F_c2, F_n2, V_c2⟩ := hQ128
  have N128 := Fr.app N127 N128q
  obtain ⟨cl129, Ar129, qk129, S129, B129, H129, G129⟩ := id (((((V123.ext E124).keep K125 (ninS (Nat.ne_of_lt lt_b120_b124) nin0)).keep K126 (ninS (Nat.ne_of_lt lt_b120_b124) (ninS (Nat.ne_of_lt (lt_b124_ac _ (V123.ext E124).lt)) nin0))).keep K127 (ninS (Nat.ne_of_lt lt_b120_b124) (ninS (Nat.ne_of_lt (lt_b124_ac _ (V123.ext E124).lt)) nin0))).keep K128 (ninS (Nat.ne_of_lt lt_b120_b124) (ninS (Nat.ne_of_lt (lt_b124_ac _ (V123.ext E124).lt)) nin0)))
  have hin129 : ¬ (cc.val.toInt32 < 0 ∨ cl129.slots.size ≤ (cc.val.toInt32).toNatClampNeg) := own_inb S129 (own_cix cc) cc.isLt
  have hat129 : cl129.slots[(cc.val.toInt32).toNatClampNeg]? = some (.int (own_x (upd (upd (upd (fun _ => (.int 0)) 0 (.int (p1 ^^^ (-1 : Int32)))) 1 (.int (p2 ^^^ (-1 : Int32)))) 2 (.int (p3 ^^^ (-1 : Int32)))) cc.val)) := own_hat H129 (own_cix cc) cc.isLt (own_three rfl rfl rfl cc)
  have hv_ : (fun j => if (2 * w.val) ≤ j ∧ j < (2 * w.val) + w.val then (upd (upd (upd (fun _ => (.int 0)) 0 (.int (p1 ^^^ (-1 : Int32)))) 1 (.int (p2 ^^^ (-1 : Int32)))) 2 (.int (p3 ^^^ (-1 : Int32)))) (0 + (j - (2 * w.val))) else (fun j => if (1 * w.val) ≤ j ∧ j < (1 * w.val) + w.val then (upd (upd (upd (fun _ => (.int 0)) 0 (.int p3)) 1 (.int p4)) 2 (.int (p0 ^^^ (-1 : Int32)))) (0 + (j - (1 * w.val))) else (fun j => if (0 * w.val) ≤ j ∧ j < (0 * w.val) + w.val then (upd (upd (upd (fun _ => (.int 0)) 0 (.int p0)) 1 (.int p1)) 2 (.int p2)) (0 + (j - (0 * w.val))) else (fun _ => Value.int 0) j) j) j) (2 * w.val + cc.val) = .int (own_x (upd (upd (upd (fun _ => (.int 0)) 0 (.int (p1 ^^^ (-1 : Int32)))) 1 (.int (p2 ^^^ (-1 : Int32)))) 2 (.int (p3 ^^^ (-1 : Int32)))) cc.val) := by
    rw [← own_three (x := (p1 ^^^ (-1 : Int32))) (y := (p2 ^^^ (-1 : Int32))) (z := (p3 ^^^ (-1 : Int32))) (f := (upd (upd (upd (fun _ => (.int 0)) 0 (.int (p1 ^^^ (-1 : Int32)))) 1 (.int (p2 ^^^ (-1 : Int32)))) 2 (.int (p3 ^^^ (-1 : Int32))))) rfl rfl rfl cc]
    show (if (2 * w.val) ≤ (2 * w.val + cc.val) ∧ (2 * w.val + cc.val) < (2 * w.val) + w.val then (upd (upd (upd (fun _ => (.int 0)) 0 (.int (p1 ^^^ (-1 : Int32)))) 1 (.int (p2 ^^^ (-1 : Int32)))) 2 (.int (p3 ^^^ (-1 : Int32)))) (0 + ((2 * w.val + cc.val) - (2 * w.val))) else (if (1 * w.val) ≤ (2 * w.val + cc.val) ∧ (2 * w.val + cc.val) < (1 * w.val) + w.val then (upd (upd (upd (fun _ => (.int 0)) 0 (.int p3)) 1 (.int p4)) 2 (.int (p0 ^^^ (-1 : Int32)))) (0 + ((2 * w.val + cc.val) - (1 * w.val))) else (if (0 * w.val) ≤ (2 * w.val + cc.val) ∧ (2 * w.val + cc.val) < (0 * w.val) + w.val then (upd (upd (upd (fun _ => (.int 0)) 0 (.int p0)) 1 (.int p1)) 2 (.int p2)) (0 + ((2 * w.val + cc.val) - (0 * w.val))) else Value.int 0))) = _
    rw [if_pos (by omega)]
    congr 1; omega
  obtain ⟨cq130, kq130, q130a, q130b, q130c⟩ := isOf hZ rfl E_2
  obtain ⟨_, _, ⟨T130, L130, k130, n130⟩, -, X130, ⟨Lc130, hQ130, l130, y130, z130⟩, st130⟩ := X128.virtualBack hx (y := (⟨"com/example/factwell/factwell/pql/Rows", "get", "(II)I"⟩ : MethodName)) (z := (⟨"com/example/factwell/factwell/pql/Rows", "get", "(II)I"⟩ : MethodName)) hown (mvT hZ (hw _ (List.mem_of_getElem? (i := 30) rfl))) (mvT hZ (hw _ (List.mem_of_getElem? (i := 31) rfl))) (notFace_of_selects (args := #[]) (mvT hZ (hw _ (List.mem_of_getElem? (i := 33) rfl)))) (mvT hZ (hw _ (List.mem_of_getElem? (i := 33) rfl))) (mvT hZ (hw _ (List.mem_of_getElem? (i := 32) rfl))) (by decide) (backOf (W := 0) (own_get l Z a0 hw [] b124 (2 : Int32) cc.val.toInt32 (own_x (upd (upd (upd (fun _ => (.int 0)) 0 (.int (p1 ^^^ (-1 : Int32)))) 1 (.int (p2 ^^^ (-1 : Int32)))) 2 (.int (p3 ^^^ (-1 : Int32)))) cc.val) (2 * w.val + cc.val) w ac kc (fun j => if (2 * w.val) ≤ j ∧ j < (2 * w.val) + w.val then (upd (upd (upd (fun _ => (.int 0)) 0 (.int (p1 ^^^ (-1 : Int32)))) 1 (.int (p2 ^^^ (-1 : Int32)))) 2 (.int (p3 ^^^ (-1 : Int32)))) (0 + (j - (2 * w.val))) else (fun j => if (1 * w.val) ≤ j ∧ j < (1 * w.val) + w.val then (upd (upd (upd (fun _ => (.int 0)) 0 (.int p3)) 1 (.int p4)) 2 (.int (p0 ^^^ (-1 : Int32)))) (0 + (j - (1 * w.val))) else (fun j => if (0 * w.val) ≤ j ∧ j < (0 * w.val) + w.val then (upd (upd (upd (fun _ => (.int 0)) 0 (.int p0)) 1 (.int p1)) 2 (.int p2)) (0 + (j - (0 * w.val))) else (fun _ => Value.int 0) j) j) j) T128.heap n0 (Nat.le_trans (Nat.le_trans (Nat.le_trans (Nat.le_trans (Nat.le_trans (Nat.le_trans (Nat.le_trans (Nat.le_trans (Nat.le_trans (Nat.le_trans (Nat.le_trans (Nat.le_trans (Nat.le_trans (Nat.le_trans (Nat.le_trans (Nat.le_trans (Nat.le_trans Z0 E112.1) (Keep.of_wr W113).1) (Keep.of_wr W114).1) (Keep.of_wr W115).1) E116.1) (Keep.of_wr W117).1) (Keep.of_wr W118).1) (Keep.of_wr W119).1) E120.1) (Keep.of_wr W121).1) (Keep.of_wr W122).1) (Keep.of_wr W123).1) E124.1) K125.1) K126.1) K127.1) K128.1) (own_gix 2 w cc) (own_lt 2 w cc hcw (by decide)) hv_ F_w2 F_c2 V_c2) hZ (hw _ (List.mem_of_getElem? (i := 34) rfl)) (hw _ (List.mem_of_getElem? (i := 3) rfl)) (by decide) (by decide)) q130a q130c (g := (mkF m 198 #[.val (.int p0), .val (.int p1), .val (.int p2), .val (.int p3), .val (.int p4), .val (.int p5), .val (.int w.val.toInt32), .val (.int (3 : Int32)), .val (.int (2 : Int32)), .val (.int cc.val.toInt32), .val (.ref b112), .val (.ref b116), .val (.ref b120), .val (.ref b124), .val (.int (own_x (upd (upd (upd (fun _ => (.int 0)) 0 (.int (p1 ^^^ (-1 : Int32)))) 1 (.int (p2 ^^^ (-1 : Int32)))) 2 (.int (p3 ^^^ (-1 : Int32)))) cc.val))] [(.int cc.val.toInt32), (.int (2 : Int32)), (.ref b124)])) rfl (by rw [hml]; rfl) (Steps.refl _) (argsL := [(.int (2 : Int32)), (.int cc.val.toInt32)]) (rest := []) (lenOf pd_3 rfl) rfl (by show 2 * 0 + _ ≤ _; exact Nat.le_of_eq rfl) (hb hby at_198) (fun _ _ => ⟨rfl, rfl, (by decide : 5 + 0 ≤ _), (by decide : 37 + 0 ≤ _)⟩)
  dsimp only [Pt.U, Pt.locs, Pt.cells, Pt.slots] at X130 l130 y130 z130 st130 hQ130
  subst l130 y130 z130
  obtain ⟨rfl, N130q, eh130⟩ := hQ130
  have N130 := Fr.app N128 N130q
  obtain ⟨fs, hr, hrun, hended, hW, hsame⟩ := X130.leave (v := some (.int (1 : Int32))) (fun h => by rw [Bd.returns] at h; cases h)
  refine ⟨_, _, pre0 _ ?_, hrun, hended, _, _, rfl, ?_, ⟨_, rfl⟩, hW, hsame.mono (by decide) (by decide)⟩
  · show Steps p.tables e below (s₁.setTop (mkF m 0 #[.val (.int p0), .val (.int p1), .val (.int p2), .val (.int p3), .val (.int p4), .val (.int p5), .unset, .unset, .unset, .unset, .unset, .unset, .unset, .unset, .unset] [])) _
    refine XS.iconst X0.here hx rfl (hb hby at_0) ?_
    show Steps p.tables e below (s₁.setTop (mkF m 1 #[.val (.int p0), .val (.int p1), .val (.int p2), .val (.int p3), .val (.int p4), .val (.int p5), .unset, .unset, .unset, .unset, .unset, .unset, .unset, .unset, .unset] [(.int (1 : Int32))])) _
    refine XS.iload X0.here hx rfl (hb hby at_1) rfl ?_
    show Steps p.tables e below (s₁.setTop (mkF m 3 #[.val (.int p0), .val (.int p1), .val (.int p2), .val (.int p3), .val (.int p4), .val (.int p5), .unset, .unset, .unset, .unset, .unset, .unset, .unset, .unset, .unset] [(.int p5), (.int (1 : Int32))])) _
    refine XS.bipush X0.here hx rfl (hb hby at_3) ?_
    show Steps p.tables e below (s₁.setTop (mkF m 5 #[.val (.int p0), .val (.int p1), .val (.int p2), .val (.int p3), .val (.int p4), .val (.int p5), .unset, .unset, .unset, .unset, .unset, .unset, .unset, .unset, .unset] [(.int (15 : Int32)), (.int p5), (.int (1 : Int32))])) _
    refine XS.iand X0.here hx rfl (hb hby at_5) rfl ?_
    show Steps p.tables e below (s₁.setTop (mkF m 6 #[.val (.int p0), .val (.int p1), .val (.int p2), .val (.int p3), .val (.int p4), .val (.int p5), .unset, .unset, .unset, .unset, .unset, .unset, .unset, .unset, .unset] [(.int (p5 &&& (15 : Int32))), (.int (1 : Int32))])) _
    refine XS.iconst X0.here hx rfl (hb hby at_6) ?_
    show Steps p.tables e below (s₁.setTop (mkF m 7 #[.val (.int p0), .val (.int p1), .val (.int p2), .val (.int p3), .val (.int p4), .val (.int p5), .unset, .unset, .unset, .unset, .unset, .unset, .unset, .unset, .unset] [(.int (3 : Int32)), (.int (p5 &&& (15 : Int32))), (.int (1 : Int32))])) _
    refine Jvm.RoadKit.iremM (g := (mkF m 7 #[.val (.int p0), .val (.int p1), .val (.int p2), .val (.int p3), .val (.int p4), .val (.int p5), .unset, .unset, .unset, .unset, .unset, .unset, .unset, .unset, .unset] [(.int (3 : Int32)), (.int (p5 &&& (15 : Int32))), (.int (1 : Int32))])) X0 hx rfl (hb hby at_7) rfl (by decide) ?_
    show Steps p.tables e below (s₁.setTop (mkF m 8 #[.val (.int p0), .val (.int p1), .val (.int p2), .val (.int p3), .val (.int p4), .val (.int p5), .unset, .unset, .unset, .unset, .unset, .unset, .unset, .unset, .unset] [(.int ((p5 &&& (15 : Int32)) % (3 : Int32))), (.int (1 : Int32))])) _
    refine XS.iadd X0.here hx rfl (hb hby at_8) rfl ?_
    show Steps p.tables e below (s₁.setTop (mkF m 9 #[.val (.int p0), .val (.int p1), .val (.int p2), .val (.int p3), .val (.int p4), .val (.int p5), .unset, .unset, .unset, .unset, .unset, .unset, .unset, .unset, .unset] [(.int ((1 : Int32) + ((p5 &&& (15 : Int32)) % (3 : Int32))))])) _
    rw [hW_]
    show Steps p.tables e below (s₁.setTop (mkF m 9 #[.val (.int p0), .val (.int p1), .val (.int p2), .val (.int p3), .val (.int p4), .val (.int p5), .unset, .unset, .unset, .unset, .unset, .unset, .unset, .unset, .unset] [(.int w.val.toInt32)])) _
    refine XS.istore X0.here hx rfl (hb hby at_9) rfl (l' := #[.val (.int p0), .val (.int p1), .val (.int p2), .val (.int p3), .val (.int p4), .val (.int p5), .val (.int w.val.toInt32), .unset, .unset, .unset, .unset, .unset, .unset, .unset, .unset]) rfl ?_
    show Steps p.tables e below (s₁.setTop (mkF m 11 #[.val (.int p0), .val (.int p1), .val (.int p2), .val (.int p3), .val (.int p4), .val (.int p5), .val (.int w.val.toInt32), .unset, .unset, .unset, .unset, .unset, .unset, .unset, .unset] [])) _
    refine XS.iconst X0.here hx rfl (hb hby at_11) ?_
    show Steps p.tables e below (s₁.setTop (mkF m 12 #[.val (.int p0), .val (.int p1), .val (.int p2), .val (.int p3), .val (.int p4), .val (.int p5), .val (.int w.val.toInt32), .unset, .unset, .unset, .unset, .unset, .unset, .unset, .unset] [(.int (1 : Int32))])) _
    refine XS.iload X0.here hx rfl (hb hby at_12) rfl ?_
    show Steps p.tables e below (s₁.setTop (mkF m 14 #[.val (.int p0), .val (.int p1), .val (.int p2), .val (.int p3), .val (.int p4), .val (.int p5), .val (.int w.val.toInt32), .unset, .unset, .unset, .unset, .unset, .unset, .unset, .unset] [(.int p5), (.int (1 : Int32))])) _
    refine XS.iconst X0.here hx rfl (hb hby at_14) ?_
    show Steps p.tables e below (s₁.setTop (mkF m 15 #[.val (.int p0), .val (.int p1), .val (.int p2), .val (.int p3), .val (.int p4), .val (.int p5), .val (.int w.val.toInt32), .unset, .unset, .unset, .unset, .unset, .unset, .unset, .unset] [(.int (4 : Int32)), (.int p5), (.int (1 : Int32))])) _
    refine XT.iushr X0.here hx rfl (hb hby at_15) rfl ?_
    show Steps p.tables e below (s₁.setTop (mkF m 16 #[.val (.int p0), .val (.int p1), .val (.int p2), .val (.int p3), .val (.int p4), .val (.int p5), .val (.int w.val.toInt32), .unset, .unset, .unset, .unset, .unset, .unset, .unset, .unset] [(.int (XT.ushr p5 (4 : Int32))), (.int (1 : Int32))])) _
    refine XS.bipush X0.here hx rfl (hb hby at_16) ?_
    show Steps p.tables e below (s₁.setTop (mkF m 18 #[.val (.int p0), .val (.int p1), .val (.int p2), .val (.int p3), .val (.int p4), .val (.int p5), .val (.int w.val.toInt32), .unset, .unset, .unset, .unset, .unset, .unset, .unset, .unset] [(.int (15 : Int32)), (.int (XT.ushr p5 (4 : Int32))), (.int (1 : Int32))])) _
    refine XS.iand X0.here hx rfl (hb hby at_18) rfl ?_
    show Steps p.tables e below (s₁.setTop (mkF m 19 #[.val (.int p0), .val (.int p1), .val (.int p2), .val (.int p3), .val (.int p4), .val (.int p5), .val (.int w.val.toInt32), .unset, .unset, .unset, .unset, .unset, .unset, .unset, .unset] [(.int ((XT.ushr p5 (4 : Int32)) &&& (15 : Int32))), (.int (1 : Int32))])) _
    refine XS.iconst X0.here hx rfl (hb hby at_19) ?_
    show Steps p.tables e below (s₁.setTop (mkF m 20 #[.val (.int p0), .val (.int p1), .val (.int p2), .val (.int p3), .val (.int p4), .val (.int p5), .val (.int w.val.toInt32), .unset, .unset, .unset, .unset, .unset, .unset, .unset, .unset] [(.int (3 : Int32)), (.int ((XT.ushr p5 (4 : Int32)) &&& (15 : Int32))), (.int (1 : Int32))])) _
    refine Jvm.RoadKit.iremM (g := (mkF m 20 #[.val (.int p0), .val (.int p1), .val (.int p2), .val (.int p3), .val (.int p4), .val (.int p5), .val (.int w.val.toInt32), .unset, .unset, .unset, .unset, .unset, .unset, .unset, .unset] [(.int (3 : Int32)), (.int ((XT.ushr p5 (4 : Int32)) &&& (15 : Int32))), (.int (1 : Int32))])) X0 hx rfl (hb hby at_20) rfl (by decide) ?_
    show Steps p.tables e below (s₁.setTop (mkF m 21 #[.val (.int p0), .val (.int p1), .val (.int p2), .val (.int p3), .val (.int p4), .val (.int p5), .val (.int w.val.toInt32), .unset, .unset, .unset, .unset, .unset, .unset, .unset, .unset] [(.int (((XT.ushr p5 (4 : Int32)) &&& (15 : Int32)) % (3 : Int32))), (.int (1 : Int32))])) _
    refine XS.iadd X0.here hx rfl (hb hby at_21) rfl ?_
    show Steps p.tables e below (s₁.setTop (mkF m 22 #[.val (.int p0), .val (.int p1), .val (.int p2), .val (.int p3), .val (.int p4), .val (.int p5), .val (.int w.val.toInt32), .unset, .unset, .unset, .unset, .unset, .unset, .unset, .unset] [(.int ((1 : Int32) + (((XT.ushr p5 (4 : Int32)) &&& (15 : Int32)) % (3 : Int32))))])) _
    rw [hN_]
    show Steps p.tables e below (s₁.setTop (mkF m 22 #[.val (.int p0), .val (.int p1), .val (.int p2), .val (.int p3), .val (.int p4), .val (.int p5), .val (.int w.val.toInt32), .unset, .unset, .unset, .unset, .unset, .unset, .unset, .unset] [(.int (3 : Int32))])) _
    refine XS.istore X0.here hx rfl (hb hby at_22) rfl (l' := #[.val (.int p0), .val (.int p1), .val (.int p2), .val (.int p3), .val (.int p4), .val (.int p5), .val (.int w.val.toInt32), .val (.int (3 : Int32)), .unset, .unset, .unset, .unset, .unset, .unset, .unset]) rfl ?_
    show Steps p.tables e below (s₁.setTop (mkF m 24 #[.val (.int p0), .val (.int p1), .val (.int p2), .val (.int p3), .val (.int p4), .val (.int p5), .val (.int w.val.toInt32), .val (.int (3 : Int32)), .unset, .unset, .unset, .unset, .unset, .unset, .unset] [])) _
    refine XS.iload X0.here hx rfl (hb hby at_24) rfl ?_
    show Steps p.tables e below (s₁.setTop (mkF m 26 #[.val (.int p0), .val (.int p1), .val (.int p2), .val (.int p3), .val (.int p4), .val (.int p5), .val (.int w.val.toInt32), .val (.int (3 : Int32)), .unset, .unset, .unset, .unset, .unset, .unset, .unset] [(.int p5)])) _
    refine XS.bipush X0.here hx rfl (hb hby at_26) ?_
    show Steps p.tables e below (s₁.setTop (mkF m 28 #[.val (.int p0), .val (.int p1), .val (.int p2), .val (.int p3), .val (.int p4), .val (.int p5), .val (.int w.val.toInt32), .val (.int (3 : Int32)), .unset, .unset, .unset, .unset, .unset, .unset, .unset] [(.int (8 : Int32)), (.int p5)])) _
    refine XT.iushr X0.here hx rfl (hb hby at_28) rfl ?_
    show Steps p.tables e below (s₁.setTop (mkF m 29 #[.val (.int p0), .val (.int p1), .val (.int p2), .val (.int p3), .val (.int p4), .val (.int p5), .val (.int w.val.toInt32), .val (.int (3 : Int32)), .unset, .unset, .unset, .unset, .unset, .unset, .unset] [(.int (XT.ushr p5 (8 : Int32)))])) _
    refine XS.bipush X0.here hx rfl (hb hby at_29) ?_
    show Steps p.tables e below (s₁.setTop (mkF m 31 #[.val (.int p0), .val (.int p1), .val (.int p2), .val (.int p3), .val (.int p4), .val (.int p5), .val (.int w.val.toInt32), .val (.int (3 : Int32)), .unset, .unset, .unset, .unset, .unset, .unset, .unset] [(.int (15 : Int32)), (.int (XT.ushr p5 (8 : Int32)))])) _
    refine XS.iand X0.here hx rfl (hb hby at_31) rfl ?_
    show Steps p.tables e below (s₁.setTop (mkF m 32 #[.val (.int p0), .val (.int p1), .val (.int p2), .val (.int p3), .val (.int p4), .val (.int p5), .val (.int w.val.toInt32), .val (.int (3 : Int32)), .unset, .unset, .unset, .unset, .unset, .unset, .unset] [(.int ((XT.ushr p5 (8 : Int32)) &&& (15 : Int32)))])) _
    refine XS.iload X0.here hx rfl (hb hby at_32) rfl ?_
    show Steps p.tables e below (s₁.setTop (mkF m 34 #[.val (.int p0), .val (.int p1), .val (.int p2), .val (.int p3), .val (.int p4), .val (.int p5), .val (.int w.val.toInt32), .val (.int (3 : Int32)), .unset, .unset, .unset, .unset, .unset, .unset, .unset] [(.int (3 : Int32)), (.int ((XT.ushr p5 (8 : Int32)) &&& (15 : Int32)))])) _
    refine Jvm.RoadKit.iremM (g := (mkF m 34 #[.val (.int p0), .val (.int p1), .val (.int p2), .val (.int p3), .val (.int p4), .val (.int p5), .val (.int w.val.toInt32), .val (.int (3 : Int32)), .unset, .unset, .unset, .unset, .unset, .unset, .unset] [(.int (3 : Int32)), (.int ((XT.ushr p5 (8 : Int32)) &&& (15 : Int32)))])) X0 hx rfl (hb hby at_34) rfl (by decide) ?_
    show Steps p.tables e below (s₁.setTop (mkF m 35 #[.val (.int p0), .val (.int p1), .val (.int p2), .val (.int p3), .val (.int p4), .val (.int p5), .val (.int w.val.toInt32), .val (.int (3 : Int32)), .unset, .unset, .unset, .unset, .unset, .unset, .unset] [(.int (((XT.ushr p5 (8 : Int32)) &&& (15 : Int32)) % (3 : Int32)))])) _
    rw [hR_]
    show Steps p.tables e below (s₁.setTop (mkF m 35 #[.val (.int p0), .val (.int p1), .val (.int p2), .val (.int p3), .val (.int p4), .val (.int p5), .val (.int w.val.toInt32), .val (.int (3 : Int32)), .unset, .unset, .unset, .unset, .unset, .unset, .unset] [(.int (2 : Int32))])) _
    refine XS.istore X0.here hx rfl (hb hby at_35) rfl (l' := #[.val (.int p0), .val (.int p1), .val (.int p2), .val (.int p3), .val (.int p4), .val (.int p5), .val (.int w.val.toInt32), .val (.int (3 : Int32)), .val (.int (2 : Int32)), .unset, .unset, .unset, .unset, .unset, .unset]) rfl ?_
    show Steps p.tables e below (s₁.setTop (mkF m 37 #[.val (.int p0), .val (.int p1), .val (.int p2), .val (.int p3), .val (.int p4), .val (.int p5), .val (.int w.val.toInt32), .val (.int (3 : Int32)), .val (.int (2 : Int32)), .unset, .unset, .unset, .unset, .unset, .unset] [])) _
    refine XS.iload X0.here hx rfl (hb hby at_37) rfl ?_
    show Steps p.tables e below (s₁.setTop (mkF m 39 #[.val (.int p0), .val (.int p1), .val (.int p2), .val (.int p3), .val (.int p4), .val (.int p5), .val (.int w.val.toInt32), .val (.int (3 : Int32)), .val (.int (2 : Int32)), .unset, .unset, .unset, .unset, .unset, .unset] [(.int p5)])) _
    refine XS.bipush X0.here hx rfl (hb hby at_39) ?_
    show Steps p.tables e below (s₁.setTop (mkF m 41 #[.val (.int p0), .val (.int p1), .val (.int p2), .val (.int p3), .val (.int p4), .val (.int p5), .val (.int w.val.toInt32), .val (.int (3 : Int32)), .val (.int (2 : Int32)), .unset, .unset, .unset, .unset, .unset, .unset] [(.int (12 : Int32)), (.int p5)])) _
    refine XT.iushr X0.here hx rfl (hb hby at_41) rfl ?_
    show Steps p.tables e below (s₁.setTop (mkF m 42 #[.val (.int p0), .val (.int p1), .val (.int p2), .val (.int p3), .val (.int p4), .val (.int p5), .val (.int w.val.toInt32), .val (.int (3 : Int32)), .val (.int (2 : Int32)), .unset, .unset, .unset, .unset, .unset, .unset] [(.int (XT.ushr p5 (12 : Int32)))])) _
    refine XS.bipush X0.here hx rfl (hb hby at_42) ?_
    show Steps p.tables e below (s₁.setTop (mkF m 44 #[.val (.int p0), .val (.int p1), .val (.int p2), .val (.int p3), .val (.int p4), .val (.int p5), .val (.int w.val.toInt32), .val (.int (3 : Int32)), .val (.int (2 : Int32)), .unset, .unset, .unset, .unset, .unset, .unset] [(.int (15 : Int32)), (.int (XT.ushr p5 (12 : Int32)))])) _
    refine XS.iand X0.here hx rfl (hb hby at_44) rfl ?_
    show Steps p.tables e below (s₁.setTop (mkF m 45 #[.val (.int p0), .val (.int p1), .val (.int p2), .val (.int p3), .val (.int p4), .val (.int p5), .val (.int w.val.toInt32), .val (.int (3 : Int32)), .val (.int (2 : Int32)), .unset, .unset, .unset, .unset, .unset, .unset] [(.int ((XT.ushr p5 (12 : Int32)) &&& (15 : Int32)))])) _
    refine XS.iload X0.here hx rfl (hb hby at_45) rfl ?_
    show Steps p.tables e below (s₁.setTop (mkF m 47 #[.val (.int p0), .val (.int p1), .val (.int p2), .val (.int p3), .val (.int p4), .val (.int p5), .val (.int w.val.toInt32), .val (.int (3 : Int32)), .val (.int (2 : Int32)), .unset, .unset, .unset, .unset, .unset, .unset] [(.int w.val.toInt32), (.int ((XT.ushr p5 (12 : Int32)) &&& (15 : Int32)))])) _
    refine Jvm.RoadKit.iremM (g := (mkF m 47 #[.val (.int p0), .val (.int p1), .val (.int p2), .val (.int p3), .val (.int p4), .val (.int p5), .val (.int w.val.toInt32), .val (.int (3 : Int32)), .val (.int (2 : Int32)), .unset, .unset, .unset, .unset, .unset, .unset] [(.int w.val.toInt32), (.int ((XT.ushr p5 (12 : Int32)) &&& (15 : Int32)))])) X0 hx rfl (hb hby at_47) rfl (own_wne w hw1) ?_
    show Steps p.tables e below (s₁.setTop (mkF m 48 #[.val (.int p0), .val (.int p1), .val (.int p2), .val (.int p3), .val (.int p4), .val (.int p5), .val (.int w.val.toInt32), .val (.int (3 : Int32)), .val (.int (2 : Int32)), .unset, .unset, .unset, .unset, .unset, .unset] [(.int (((XT.ushr p5 (12 : Int32)) &&& (15 : Int32)) % w.val.toInt32))])) _
    rw [hC_]
    show Steps p.tables e below (s₁.setTop (mkF m 48 #[.val (.int p0), .val (.int p1), .val (.int p2), .val (.int p3), .val (.int p4), .val (.int p5), .val (.int w.val.toInt32), .val (.int (3 : Int32)), .val (.int (2 : Int32)), .unset, .unset, .unset, .unset, .unset, .unset] [(.int cc.val.toInt32)])) _
    refine XS.istore X0.here hx rfl (hb hby at_48) rfl (l' := #[.val (.int p0), .val (.int p1), .val (.int p2), .val (.int p3), .val (.int p4), .val (.int p5), .val (.int w.val.toInt32), .val (.int (3 : Int32)), .val (.int (2 : Int32)), .val (.int cc.val.toInt32), .unset, .unset, .unset, .unset, .unset]) rfl ?_
    show Steps p.tables e below (s₁.setTop (mkF m 50 #[.val (.int p0), .val (.int p1), .val (.int p2), .val (.int p3), .val (.int p4), .val (.int p5), .val (.int w.val.toInt32), .val (.int (3 : Int32)), .val (.int (2 : Int32)), .val (.int cc.val.toInt32), .unset, .unset, .unset, .unset, .unset] [])) _
    refine XS.iconst X0.here hx rfl (hb hby at_50) ?_
    show Steps p.tables e below (s₁.setTop (mkF m 51 #[.val (.int p0), .val (.int p1), .val (.int p2), .val (.int p3), .val (.int p4), .val (.int p5), .val (.int w.val.toInt32), .val (.int (3 : Int32)), .val (.int (2 : Int32)), .val (.int cc.val.toInt32), .unset, .unset, .unset, .unset, .unset] [(.int (3 : Int32))])) _
    refine st112 _ ?_
    show Steps p.tables e below (T112.setTop (mkF m 53 #[.val (.int p0), .val (.int p1), .val (.int p2), .val (.int p3), .val (.int p4), .val (.int p5), .val (.int w.val.toInt32), .val (.int (3 : Int32)), .val (.int (2 : Int32)), .val (.int cc.val.toInt32), .unset, .unset, .unset, .unset, .unset] [(.ref b112)])) _
    refine XS.dup X112.here hx rfl (hb hby at_53) rfl rfl ?_
    show Steps p.tables e below (T112.setTop (mkF m 54 #[.val (.int p0), .val (.int p1), .val (.int p2), .val (.int p3), .val (.int p4), .val (.int p5), .val (.int w.val.toInt32), .val (.int (3 : Int32)), .val (.int (2 : Int32)), .val (.int cc.val.toInt32), .unset, .unset, .unset, .unset, .unset] [(.ref b112), (.ref b112)])) _
    refine XS.iconst X112.here hx rfl (hb hby at_54) ?_
    show Steps p.tables e below (T112.setTop (mkF m 55 #[.val (.int p0), .val (.int p1), .val (.int p2), .val (.int p3), .val (.int p4), .val (.int p5), .val (.int w.val.toInt32), .val (.int (3 : Int32)), .val (.int (2 : Int32)), .val (.int cc.val.toInt32), .unset, .unset, .unset, .unset, .unset] [(.int (0 : Int32)), (.ref b112), (.ref b112)])) _
    refine XS.iloadN X112.here hx rfl (hb hby at_55) rfl ?_
    show Steps p.tables e below (T112.setTop (mkF m 56 #[.val (.int p0), .val (.int p1), .val (.int p2), .val (.int p3), .val (.int p4), .val (.int p5), .val (.int w.val.toInt32), .val (.int (3 : Int32)), .val (.int (2 : Int32)), .val (.int cc.val.toInt32), .unset, .unset, .unset, .unset, .unset] [(.int p0), (.int (0 : Int32)), (.ref b112), (.ref b112)])) _
    refine st113 _ ?_
    show Steps p.tables e below (T113.setTop (mkF m 57 #[.val (.int p0), .val (.int p1), .val (.int p2), .val (.int p3), .val (.int p4), .val (.int p5), .val (.int w.val.toInt32), .val (.int (3 : Int32)), .val (.int (2 : Int32)), .val (.int cc.val.toInt32), .unset, .unset, .unset, .unset, .unset] [(.ref b112)])) _
    refine XS.dup X113.here hx rfl (hb hby at_57) rfl rfl ?_
    show Steps p.tables e below (T113.setTop (mkF m 58 #[.val (.int p0), .val (.int p1), .val (.int p2), .val (.int p3), .val (.int p4), .val (.int p5), .val (.int w.val.toInt32), .val (.int (3 : Int32)), .val (.int (2 : Int32)), .val (.int cc.val.toInt32), .unset, .unset, .unset, .unset, .unset] [(.ref b112), (.ref b112)])) _
    refine XS.iconst X113.here hx rfl (hb hby at_58) ?_
    show Steps p.tables e below (T113.setTop (mkF m 59 #[.val (.int p0), .val (.int p1), .val (.int p2), .val (.int p3), .val (.int p4), .val (.int p5), .val (.int w.val.toInt32), .val (.int (3 : Int32)), .val (.int (2 : Int32)), .val (.int cc.val.toInt32), .unset, .unset, .unset, .unset, .unset] [(.int (1 : Int32)), (.ref b112), (.ref b112)])) _
    refine XS.iloadN X113.here hx rfl (hb hby at_59) rfl ?_
    show Steps p.tables e below (T113.setTop (mkF m 60 #[.val (.int p0), .val (.int p1), .val (.int p2), .val (.int p3), .val (.int p4), .val (.int p5), .val (.int w.val.toInt32), .val (.int (3 : Int32)), .val (.int (2 : Int32)), .val (.int cc.val.toInt32), .unset, .unset, .unset, .unset, .unset] [(.int p1), (.int (1 : Int32)), (.ref b112), (.ref b112)])) _
    refine st114 _ ?_
    show Steps p.tables e below (T114.setTop (mkF m 61 #[.val (.int p0), .val (.int p1), .val (.int p2), .val (.int p3), .val (.int p4), .val (.int p5), .val (.int w.val.toInt32), .val (.int (3 : Int32)), .val (.int (2 : Int32)), .val (.int cc.val.toInt32), .unset, .unset, .unset, .unset, .unset] [(.ref b112)])) _
    refine XS.dup X114.here hx rfl (hb hby at_61) rfl rfl ?_
    show Steps p.tables e below (T114.setTop (mkF m 62 #[.val (.int p0), .val (.int p1), .val (.int p2), .val (.int p3), .val (.int p4), .val (.int p5), .val (.int w.val.toInt32), .val (.int (3 : Int32)), .val (.int (2 : Int32)), .val (.int cc.val.toInt32), .unset, .unset, .unset, .unset, .unset] [(.ref b112), (.ref b112)])) _
    refine XS.iconst X114.here hx rfl (hb hby at_62) ?_
    show Steps p.tables e below (T114.setTop (mkF m 63 #[.val (.int p0), .val (.int p1), .val (.int p2), .val (.int p3), .val (.int p4), .val (.int p5), .val (.int w.val.toInt32), .val (.int (3 : Int32)), .val (.int (2 : Int32)), .val (.int cc.val.toInt32), .unset, .unset, .unset, .unset, .unset] [(.int (2 : Int32)), (.ref b112), (.ref b112)])) _
    refine XS.iloadN X114.here hx rfl (hb hby at_63) rfl ?_
    show Steps p.tables e below (T114.setTop (mkF m 64 #[.val (.int p0), .val (.int p1), .val (.int p2), .val (.int p3), .val (.int p4), .val (.int p5), .val (.int w.val.toInt32), .val (.int (3 : Int32)), .val (.int (2 : Int32)), .val (.int cc.val.toInt32), .unset, .unset, .unset, .unset, .unset] [(.int p2), (.int (2 : Int32)), (.ref b112), (.ref b112)])) _
    refine st115 _ ?_
    show Steps p.tables e below (T115.setTop (mkF m 65 #[.val (.int p0), .val (.int p1), .val (.int p2), .val (.int p3), .val (.int p4), .val (.int p5), .val (.int w.val.toInt32), .val (.int (3 : Int32)), .val (.int (2 : Int32)), .val (.int cc.val.toInt32), .unset, .unset, .unset, .unset, .unset] [(.ref b112)])) _
    refine XS.astore X115.here hx rfl (hb hby at_65) rfl rfl (l' := #[.val (.int p0), .val (.int p1), .val (.int p2), .val (.int p3), .val (.int p4), .val (.int p5), .val (.int w.val.toInt32), .val (.int (3 : Int32)), .val (.int (2 : Int32)), .val (.int cc.val.toInt32), .val (.ref b112), .unset, .unset, .unset, .unset]) rfl ?_
    show Steps p.tables e below (T115.setTop (mkF m 67 #[.val (.int p0), .val (.int p1), .val (.int p2), .val (.int p3), .val (.int p4), .val (.int p5), .val (.int w.val.toInt32), .val (.int (3 : Int32)), .val (.int (2 : Int32)), .val (.int cc.val.toInt32), .val (.ref b112), .unset, .unset, .unset, .unset] [])) _
    refine XS.iconst X115.here hx rfl (hb hby at_67) ?_
    show Steps p.tables e below (T115.setTop (mkF m 68 #[.val (.int p0), .val (.int p1), .val (.int p2), .val (.int p3), .val (.int p4), .val (.int p5), .val (.int w.val.toInt32), .val (.int (3 : Int32)), .val (.int (2 : Int32)), .val (.int cc.val.toInt32), .val (.ref b112), .unset, .unset, .unset, .unset] [(.int (3 : Int32))])) _
    refine st116 _ ?_
    show Steps p.tables e below (T116.setTop (mkF m 70 #[.val (.int p0), .val (.int p1), .val (.int p2), .val (.int p3), .val (.int p4), .val (.int p5), .val (.int w.val.toInt32), .val (.int (3 : Int32)), .val (.int (2 : Int32)), .val (.int cc.val.toInt32), .val (.ref b112), .unset, .unset, .unset, .unset] [(.ref b116)])) _
    refine XS.dup X116.here hx rfl (hb hby at_70) rfl rfl ?_
    show Steps p.tables e below (T116.setTop (mkF m 71 #[.val (.int p0), .val (.int p1), .val (.int p2), .val (.int p3), .val (.int p4), .val (.int p5), .val (.int w.val.toInt32), .val (.int (3 : Int32)), .val (.int (2 : Int32)), .val (.int cc.val.toInt32), .val (.ref b112), .unset, .unset, .unset, .unset] [(.ref b116), (.ref b116)])) _
    refine XS.iconst X116.here hx rfl (hb hby at_71) ?_
    show Steps p.tables e below (T116.setTop (mkF m 72 #[.val (.int p0), .val (.int p1), .val (.int p2), .val (.int p3), .val (.int p4), .val (.int p5), .val (.int w.val.toInt32), .val (.int (3 : Int32)), .val (.int (2 : Int32)), .val (.int cc.val.toInt32), .val (.ref b112), .unset, .unset, .unset, .unset] [(.int (0 : Int32)), (.ref b116), (.ref b116)])) _
    refine XS.iloadN X116.here hx rfl (hb hby at_72) rfl ?_
    show Steps p.tables e below (T116.setTop (mkF m 73 #[.val (.int p0), .val (.int p1), .val (.int p2), .val (.int p3), .val (.int p4), .val (.int p5), .val (.int w.val.toInt32), .val (.int (3 : Int32)), .val (.int (2 : Int32)), .val (.int cc.val.toInt32), .val (.ref b112), .unset, .unset, .unset, .unset] [(.int p3), (.int (0 : Int32)), (.ref b116), (.ref b116)])) _
    refine st117 _ ?_
    show Steps p.tables e below (T117.setTop (mkF m 74 #[.val (.int p0), .val (.int p1), .val (.int p2), .val (.int p3), .val (.int p4), .val (.int p5), .val (.int w.val.toInt32), .val (.int (3 : Int32)), .val (.int (2 : Int32)), .val (.int cc.val.toInt32), .val (.ref b112), .unset, .unset, .unset, .unset] [(.ref b116)])) _
    refine XS.dup X117.here hx rfl (hb hby at_74) rfl rfl ?_
    show Steps p.tables e below (T117.setTop (mkF m 75 #[.val (.int p0), .val (.int p1), .val (.int p2), .val (.int p3), .val (.int p4), .val (.int p5), .val (.int w.val.toInt32), .val (.int (3 : Int32)), .val (.int (2 : Int32)), .val (.int cc.val.toInt32), .val (.ref b112), .unset, .unset, .unset, .unset] [(.ref b116), (.ref b116)])) _
    refine XS.iconst X117.here hx rfl (hb hby at_75) ?_
    show Steps p.tables e below (T117.setTop (mkF m 76 #[.val (.int p0), .val (.int p1), .val (.int p2), .val (.int p3), .val (.int p4), .val (.int p5), .val (.int w.val.toInt32), .val (.int (3 : Int32)), .val (.int (2 : Int32)), .val (.int cc.val.toInt32), .val (.ref b112), .unset, .unset, .unset, .unset] [(.int (1 : Int32)), (.ref b116), (.ref b116)])) _
    refine XS.iload X117.here hx rfl (hb hby at_76) rfl ?_
    show Steps p.tables e below (T117.setTop (mkF m 78 #[.val (.int p0), .val (.int p1), .val (.int p2), .val (.int p3), .val (.int p4), .val (.int p5), .val (.int w.val.toInt32), .val (.int (3 : Int32)), .val (.int (2 : Int32)), .val (.int cc.val.toInt32), .val (.ref b112), .unset, .unset, .unset, .unset] [(.int p4), (.int (1 : Int32)), (.ref b116), (.ref b116)])) _
    refine st118 _ ?_
    show Steps p.tables e below (T118.setTop (mkF m 79 #[.val (.int p0), .val (.int p1), .val (.int p2), .val (.int p3), .val (.int p4), .val (.int p5), .val (.int w.val.toInt32), .val (.int (3 : Int32)), .val (.int (2 : Int32)), .val (.int cc.val.toInt32), .val (.ref b112), .unset, .unset, .unset, .unset] [(.ref b116)])) _
    refine XS.dup X118.here hx rfl (hb hby at_79) rfl rfl ?_
    show Steps p.tables e below (T118.setTop (mkF m 80 #[.val (.int p0), .val (.int p1), .val (.int p2), .val (.int p3), .val (.int p4), .val (.int p5), .val (.int w.val.toInt32), .val (.int (3 : Int32)), .val (.int (2 : Int32)), .val (.int cc.val.toInt32), .val (.ref b112), .unset, .unset, .unset, .unset] [(.ref b116), (.ref b116)])) _
    refine XS.iconst X118.here hx rfl (hb hby at_80) ?_
    show Steps p.tables e below (T118.setTop (mkF m 81 #[.val (.int p0), .val (.int p1), .val (.int p2), .val (.int p3), .val (.int p4), .val (.int p5), .val (.int w.val.toInt32), .val (.int (3 : Int32)), .val (.int (2 : Int32)), .val (.int cc.val.toInt32), .val (.ref b112), .unset, .unset, .unset, .unset] [(.int (2 : Int32)), (.ref b116), (.ref b116)])) _
    refine XS.iloadN X118.here hx rfl (hb hby at_81) rfl ?_
    show Steps p.tables e below (T118.setTop (mkF m 82 #[.val (.int p0), .val (.int p1), .val (.int p2), .val (.int p3), .val (.int p4), .val (.int p5), .val (.int w.val.toInt32), .val (.int (3 : Int32)), .val (.int (2 : Int32)), .val (.int cc.val.toInt32), .val (.ref b112), .unset, .unset, .unset, .unset] [(.int p0), (.int (2 : Int32)), (.ref b116), (.ref b116)])) _
    refine XS.iconst X118.here hx rfl (hb hby at_82) ?_
    show Steps p.tables e below (T118.setTop (mkF m 83 #[.val (.int p0), .val (.int p1), .val (.int p2), .val (.int p3), .val (.int p4), .val (.int p5), .val (.int w.val.toInt32), .val (.int (3 : Int32)), .val (.int (2 : Int32)), .val (.int cc.val.toInt32), .val (.ref b112), .unset, .unset, .unset, .unset] [(.int (-1 : Int32)), (.int p0), (.int (2 : Int32)), (.ref b116), (.ref b116)])) _
    refine XT.ixor X118.here hx rfl (hb hby at_83) rfl ?_
    show Steps p.tables e below (T118.setTop (mkF m 84 #[.val (.int p0), .val (.int p1), .val (.int p2), .val (.int p3), .val (.int p4), .val (.int p5), .val (.int w.val.toInt32), .val (.int (3 : Int32)), .val (.int (2 : Int32)), .val (.int cc.val.toInt32), .val (.ref b112), .unset, .unset, .unset, .unset] [(.int (p0 ^^^ (-1 : Int32))), (.int (2 : Int32)), (.ref b116), (.ref b116)])) _
    refine st119 _ ?_
    show Steps p.tables e below (T119.setTop (mkF m 85 #[.val (.int p0), .val (.int p1), .val (.int p2), .val (.int p3), .val (.int p4), .val (.int p5), .val (.int w.val.toInt32), .val (.int (3 : Int32)), .val (.int (2 : Int32)), .val (.int cc.val.toInt32), .val (.ref b112), .unset, .unset, .unset, .unset] [(.ref b116)])) _
    refine XS.astore X119.here hx rfl (hb hby at_85) rfl rfl (l' := #[.val (.int p0), .val (.int p1), .val (.int p2), .val (.int p3), .val (.int p4), .val (.int p5), .val (.int w.val.toInt32), .val (.int (3 : Int32)), .val (.int (2 : Int32)), .val (.int cc.val.toInt32), .val (.ref b112), .val (.ref b116), .unset, .unset, .unset]) rfl ?_
    show Steps p.tables e below (T119.setTop (mkF m 87 #[.val (.int p0), .val (.int p1), .val (.int p2), .val (.int p3), .val (.int p4), .val (.int p5), .val (.int w.val.toInt32), .val (.int (3 : Int32)), .val (.int (2 : Int32)), .val (.int cc.val.toInt32), .val (.ref b112), .val (.ref b116), .unset, .unset, .unset] [])) _
    refine XS.iconst X119.here hx rfl (hb hby at_87) ?_
    show Steps p.tables e below (T119.setTop (mkF m 88 #[.val (.int p0), .val (.int p1), .val (.int p2), .val (.int p3), .val (.int p4), .val (.int p5), .val (.int w.val.toInt32), .val (.int (3 : Int32)), .val (.int (2 : Int32)), .val (.int cc.val.toInt32), .val (.ref b112), .val (.ref b116), .unset, .unset, .unset] [(.int (3 : Int32))])) _
    refine st120 _ ?_
    show Steps p.tables e below (T120.setTop (mkF m 90 #[.val (.int p0), .val (.int p1), .val (.int p2), .val (.int p3), .val (.int p4), .val (.int p5), .val (.int w.val.toInt32), .val (.int (3 : Int32)), .val (.int (2 : Int32)), .val (.int cc.val.toInt32), .val (.ref b112), .val (.ref b116), .unset, .unset, .unset] [(.ref b120)])) _
    refine XS.dup X120.here hx rfl (hb hby at_90) rfl rfl ?_
    show Steps p.tables e below (T120.setTop (mkF m 91 #[.val (.int p0), .val (.int p1), .val (.int p2), .val (.int p3), .val (.int p4), .val (.int p5), .val (.int w.val.toInt32), .val (.int (3 : Int32)), .val (.int (2 : Int32)), .val (.int cc.val.toInt32), .val (.ref b112), .val (.ref b116), .unset, .unset, .unset] [(.ref b120), (.ref b120)])) _
    refine XS.iconst X120.here hx rfl (hb hby at_91) ?_
    show Steps p.tables e below (T120.setTop (mkF m 92 #[.val (.int p0), .val (.int p1), .val (.int p2), .val (.int p3), .val (.int p4), .val (.int p5), .val (.int w.val.toInt32), .val (.int (3 : Int32)), .val (.int (2 : Int32)), .val (.int cc.val.toInt32), .val (.ref b112), .val (.ref b116), .unset, .unset, .unset] [(.int (0 : Int32)), (.ref b120), (.ref b120)])) _
    refine XS.iloadN X120.here hx rfl (hb hby at_92) rfl ?_
    show Steps p.tables e below (T120.setTop (mkF m 93 #[.val (.int p0), .val (.int p1), .val (.int p2), .val (.int p3), .val (.int p4), .val (.int p5), .val (.int w.val.toInt32), .val (.int (3 : Int32)), .val (.int (2 : Int32)), .val (.int cc.val.toInt32), .val (.ref b112), .val (.ref b116), .unset, .unset, .unset] [(.int p1), (.int (0 : Int32)), (.ref b120), (.ref b120)])) _
    refine XS.iconst X120.here hx rfl (hb hby at_93) ?_
    show Steps p.tables e below (T120.setTop (mkF m 94 #[.val (.int p0), .val (.int p1), .val (.int p2), .val (.int p3), .val (.int p4), .val (.int p5), .val (.int w.val.toInt32), .val (.int (3 : Int32)), .val (.int (2 : Int32)), .val (.int cc.val.toInt32), .val (.ref b112), .val (.ref b116), .unset, .unset, .unset] [(.int (-1 : Int32)), (.int p1), (.int (0 : Int32)), (.ref b120), (.ref b120)])) _
    refine XT.ixor X120.here hx rfl (hb hby at_94) rfl ?_
    show Steps p.tables e below (T120.setTop (mkF m 95 #[.val (.int p0), .val (.int p1), .val (.int p2), .val (.int p3), .val (.int p4), .val (.int p5), .val (.int w.val.toInt32), .val (.int (3 : Int32)), .val (.int (2 : Int32)), .val (.int cc.val.toInt32), .val (.ref b112), .val (.ref b116), .unset, .unset, .unset] [(.int (p1 ^^^ (-1 : Int32))), (.int (0 : Int32)), (.ref b120), (.ref b120)])) _
    refine st121 _ ?_
    show Steps p.tables e below (T121.setTop (mkF m 96 #[.val (.int p0), .val (.int p1), .val (.int p2), .val (.int p3), .val (.int p4), .val (.int p5), .val (.int w.val.toInt32), .val (.int (3 : Int32)), .val (.int (2 : Int32)), .val (.int cc.val.toInt32), .val (.ref b112), .val (.ref b116), .unset, .unset, .unset] [(.ref b120)])) _
    refine XS.dup X121.here hx rfl (hb hby at_96) rfl rfl ?_
    show Steps p.tables e below (T121.setTop (mkF m 97 #[.val (.int p0), .val (.int p1), .val (.int p2), .val (.int p3), .val (.int p4), .val (.int p5), .val (.int w.val.toInt32), .val (.int (3 : Int32)), .val (.int (2 : Int32)), .val (.int cc.val.toInt32), .val (.ref b112), .val (.ref b116), .unset, .unset, .unset] [(.ref b120), (.ref b120)])) _
    refine XS.iconst X121.here hx rfl (hb hby at_97) ?_
    show Steps p.tables e below (T121.setTop (mkF m 98 #[.val (.int p0), .val (.int p1), .val (.int p2), .val (.int p3), .val (.int p4), .val (.int p5), .val (.int w.val.toInt32), .val (.int (3 : Int32)), .val (.int (2 : Int32)), .val (.int cc.val.toInt32), .val (.ref b112), .val (.ref b116), .unset, .unset, .unset] [(.int (1 : Int32)), (.ref b120), (.ref b120)])) _
    refine XS.iloadN X121.here hx rfl (hb hby at_98) rfl ?_
    show Steps p.tables e below (T121.setTop (mkF m 99 #[.val (.int p0), .val (.int p1), .val (.int p2), .val (.int p3), .val (.int p4), .val (.int p5), .val (.int w.val.toInt32), .val (.int (3 : Int32)), .val (.int (2 : Int32)), .val (.int cc.val.toInt32), .val (.ref b112), .val (.ref b116), .unset, .unset, .unset] [(.int p2), (.int (1 : Int32)), (.ref b120), (.ref b120)])) _
    refine XS.iconst X121.here hx rfl (hb hby at_99) ?_
    show Steps p.tables e below (T121.setTop (mkF m 100 #[.val (.int p0), .val (.int p1), .val (.int p2), .val (.int p3), .val (.int p4), .val (.int p5), .val (.int w.val.toInt32), .val (.int (3 : Int32)), .val (.int (2 : Int32)), .val (.int cc.val.toInt32), .val (.ref b112), .val (.ref b116), .unset, .unset, .unset] [(.int (-1 : Int32)), (.int p2), (.int (1 : Int32)), (.ref b120), (.ref b120)])) _
    refine XT.ixor X121.here hx rfl (hb hby at_100) rfl ?_
    show Steps p.tables e below (T121.setTop (mkF m 101 #[.val (.int p0), .val (.int p1), .val (.int p2), .val (.int p3), .val (.int p4), .val (.int p5), .val (.int w.val.toInt32), .val (.int (3 : Int32)), .val (.int (2 : Int32)), .val (.int cc.val.toInt32), .val (.ref b112), .val (.ref b116), .unset, .unset, .unset] [(.int (p2 ^^^ (-1 : Int32))), (.int (1 : Int32)), (.ref b120), (.ref b120)])) _
    refine st122 _ ?_
    show Steps p.tables e below (T122.setTop (mkF m 102 #[.val (.int p0), .val (.int p1), .val (.int p2), .val (.int p3), .val (.int p4), .val (.int p5), .val (.int w.val.toInt32), .val (.int (3 : Int32)), .val (.int (2 : Int32)), .val (.int cc.val.toInt32), .val (.ref b112), .val (.ref b116), .unset, .unset, .unset] [(.ref b120)])) _
    refine XS.dup X122.here hx rfl (hb hby at_102) rfl rfl ?_
    show Steps p.tables e below (T122.setTop (mkF m 103 #[.val (.int p0), .val (.int p1), .val (.int p2), .val (.int p3), .val (.int p4), .val (.int p5), .val (.int w.val.toInt32), .val (.int (3 : Int32)), .val (.int (2 : Int32)), .val (.int cc.val.toInt32), .val (.ref b112), .val (.ref b116), .unset, .unset, .unset] [(.ref b120), (.ref b120)])) _
    refine XS.iconst X122.here hx rfl (hb hby at_103) ?_
    show Steps p.tables e below (T122.setTop (mkF m 104 #[.val (.int p0), .val (.int p1), .val (.int p2), .val (.int p3), .val (.int p4), .val (.int p5), .val (.int w.val.toInt32), .val (.int (3 : Int32)), .val (.int (2 : Int32)), .val (.int cc.val.toInt32), .val (.ref b112), .val (.ref b116), .unset, .unset, .unset] [(.int (2 : Int32)), (.ref b120), (.ref b120)])) _
    refine XS.iloadN X122.here hx rfl (hb hby at_104) rfl ?_
    show Steps p.tables e below (T122.setTop (mkF m 105 #[.val (.int p0), .val (.int p1), .val (.int p2), .val (.int p3), .val (.int p4), .val (.int p5), .val (.int w.val.toInt32), .val (.int (3 : Int32)), .val (.int (2 : Int32)), .val (.int cc.val.toInt32), .val (.ref b112), .val (.ref b116), .unset, .unset, .unset] [(.int p3), (.int (2 : Int32)), (.ref b120), (.ref b120)])) _
    refine XS.iconst X122.here hx rfl (hb hby at_105) ?_
    show Steps p.tables e below (T122.setTop (mkF m 106 #[.val (.int p0), .val (.int p1), .val (.int p2), .val (.int p3), .val (.int p4), .val (.int p5), .val (.int w.val.toInt32), .val (.int (3 : Int32)), .val (.int (2 : Int32)), .val (.int cc.val.toInt32), .val (.ref b112), .val (.ref b116), .unset, .unset, .unset] [(.int (-1 : Int32)), (.int p3), (.int (2 : Int32)), (.ref b120), (.ref b120)])) _
    refine XT.ixor X122.here hx rfl (hb hby at_106) rfl ?_
    show Steps p.tables e below (T122.setTop (mkF m 107 #[.val (.int p0), .val (.int p1), .val (.int p2), .val (.int p3), .val (.int p4), .val (.int p5), .val (.int w.val.toInt32), .val (.int (3 : Int32)), .val (.int (2 : Int32)), .val (.int cc.val.toInt32), .val (.ref b112), .val (.ref b116), .unset, .unset, .unset] [(.int (p3 ^^^ (-1 : Int32))), (.int (2 : Int32)), (.ref b120), (.ref b120)])) _
    refine st123 _ ?_
    show Steps p.tables e below (T123.setTop (mkF m 108 #[.val (.int p0), .val (.int p1), .val (.int p2), .val (.int p3), .val (.int p4), .val (.int p5), .val (.int w.val.toInt32), .val (.int (3 : Int32)), .val (.int (2 : Int32)), .val (.int cc.val.toInt32), .val (.ref b112), .val (.ref b116), .unset, .unset, .unset] [(.ref b120)])) _
    refine XS.astore X123.here hx rfl (hb hby at_108) rfl rfl (l' := #[.val (.int p0), .val (.int p1), .val (.int p2), .val (.int p3), .val (.int p4), .val (.int p5), .val (.int w.val.toInt32), .val (.int (3 : Int32)), .val (.int (2 : Int32)), .val (.int cc.val.toInt32), .val (.ref b112), .val (.ref b116), .val (.ref b120), .unset, .unset]) rfl ?_
    show Steps p.tables e below (T123.setTop (mkF m 110 #[.val (.int p0), .val (.int p1), .val (.int p2), .val (.int p3), .val (.int p4), .val (.int p5), .val (.int w.val.toInt32), .val (.int (3 : Int32)), .val (.int (2 : Int32)), .val (.int cc.val.toInt32), .val (.ref b112), .val (.ref b116), .val (.ref b120), .unset, .unset] [])) _
    refine st124 _ ?_
    show Steps p.tables e below (T124.setTop (mkF m 113 #[.val (.int p0), .val (.int p1), .val (.int p2), .val (.int p3), .val (.int p4), .val (.int p5), .val (.int w.val.toInt32), .val (.int (3 : Int32)), .val (.int (2 : Int32)), .val (.int cc.val.toInt32), .val (.ref b112), .val (.ref b116), .val (.ref b120), .unset, .unset] [(.ref b124)])) _
    refine XS.dup X124.here hx rfl (hb hby at_113) rfl rfl ?_
    show Steps p.tables e below (T124.setTop (mkF m 114 #[.val (.int p0), .val (.int p1), .val (.int p2), .val (.int p3), .val (.int p4), .val (.int p5), .val (.int w.val.toInt32), .val (.int (3 : Int32)), .val (.int (2 : Int32)), .val (.int cc.val.toInt32), .val (.ref b112), .val (.ref b116), .val (.ref b120), .unset, .unset] [(.ref b124), (.ref b124)])) _
    refine XS.iload X124.here hx rfl (hb hby at_114) rfl ?_
    show Steps p.tables e below (T124.setTop (mkF m 116 #[.val (.int p0), .val (.int p1), .val (.int p2), .val (.int p3), .val (.int p4), .val (.int p5), .val (.int w.val.toInt32), .val (.int (3 : Int32)), .val (.int (2 : Int32)), .val (.int cc.val.toInt32), .val (.ref b112), .val (.ref b116), .val (.ref b120), .unset, .unset] [(.int w.val.toInt32), (.ref b124), (.ref b124)])) _
    refine st125.trans ?_
    show Steps p.tables e below (T125.setTop (mkF m 119 #[.val (.int p0), .val (.int p1), .val (.int p2), .val (.int p3), .val (.int p4), .val (.int p5), .val (.int w.val.toInt32), .val (.int (3 : Int32)), .val (.int (2 : Int32)), .val (.int cc.val.toInt32), .val (.ref b112), .val (.ref b116), .val (.ref b120), .unset, .unset] [(.ref b124)])) _
    refine XS.astore X125.here hx rfl (hb hby at_119) rfl rfl (l' := #[.val (.int p0), .val (.int p1), .val (.int p2), .val (.int p3), .val (.int p4), .val (.int p5), .val (.int w.val.toInt32), .val (.int (3 : Int32)), .val (.int (2 : Int32)), .val (.int cc.val.toInt32), .val (.ref b112), .val (.ref b116), .val (.ref b120), .val (.ref b124), .unset]) rfl ?_
    show Steps p.tables e below (T125.setTop (mkF m 121 #[.val (.int p0), .val (.int p1), .val (.int p2), .val (.int p3), .val (.int p4), .val (.int p5), .val (.int w.val.toInt32), .val (.int (3 : Int32)), .val (.int (2 : Int32)), .val (.int cc.val.toInt32), .val (.ref b112), .val (.ref b116), .val (.ref b120), .val (.ref b124), .unset] [])) _
    refine XS.aload X125.here hx rfl (hb hby at_121) rfl rfl ?_
    show Steps p.tables e below (T125.setTop (mkF m 123 #[.val (.int p0), .val (.int p1), .val (.int p2), .val (.int p3), .val (.int p4), .val (.int p5), .val (.int w.val.toInt32), .val (.int (3 : Int32)), .val (.int (2 : Int32)), .val (.int cc.val.toInt32), .val (.ref b112), .val (.ref b116), .val (.ref b120), .val (.ref b124), .unset] [(.ref b124)])) _
    refine XS.aload X125.here hx rfl (hb hby at_123) rfl rfl ?_
    show Steps p.tables e below (T125.setTop (mkF m 125 #[.val (.int p0), .val (.int p1), .val (.int p2), .val (.int p3), .val (.int p4), .val (.int p5), .val (.int w.val.toInt32), .val (.int (3 : Int32)), .val (.int (2 : Int32)), .val (.int cc.val.toInt32), .val (.ref b112), .val (.ref b116), .val (.ref b120), .val (.ref b124), .unset] [(.ref b112), (.ref b124)])) _
    refine st126.trans ?_
    show Steps p.tables e below (T126.setTop (mkF m 128 #[.val (.int p0), .val (.int p1), .val (.int p2), .val (.int p3), .val (.int p4), .val (.int p5), .val (.int w.val.toInt32), .val (.int (3 : Int32)), .val (.int (2 : Int32)), .val (.int cc.val.toInt32), .val (.ref b112), .val (.ref b116), .val (.ref b120), .val (.ref b124), .unset] [])) _
    refine XS.iload X126.here hx rfl (hb hby at_128) rfl ?_
    show Steps p.tables e below (T126.setTop (mkF m 130 #[.val (.int p0), .val (.int p1), .val (.int p2), .val (.int p3), .val (.int p4), .val (.int p5), .val (.int w.val.toInt32), .val (.int (3 : Int32)), .val (.int (2 : Int32)), .val (.int cc.val.toInt32), .val (.ref b112), .val (.ref b116), .val (.ref b120), .val (.ref b124), .unset] [(.int (3 : Int32))])) _
    refine XS.iconst X126.here hx rfl (hb hby at_130) ?_
    show Steps p.tables e below (T126.setTop (mkF m 131 #[.val (.int p0), .val (.int p1), .val (.int p2), .val (.int p3), .val (.int p4), .val (.int p5), .val (.int w.val.toInt32), .val (.int (3 : Int32)), .val (.int (2 : Int32)), .val (.int cc.val.toInt32), .val (.ref b112), .val (.ref b116), .val (.ref b120), .val (.ref b124), .unset] [(.int (2 : Int32)), (.int (3 : Int32))])) _
    refine XS.icmpNo X126.here hx rfl (hb hby at_131) rfl (XT.ii_lt_f (by decide)) ?_
    show Steps p.tables e below (T126.setTop (mkF m 134 #[.val (.int p0), .val (.int p1), .val (.int p2), .val (.int p3), .val (.int p4), .val (.int p5), .val (.int w.val.toInt32), .val (.int (3 : Int32)), .val (.int (2 : Int32)), .val (.int cc.val.toInt32), .val (.ref b112), .val (.ref b116), .val (.ref b120), .val (.ref b124), .unset] [])) _
    refine XS.aload X126.here hx rfl (hb hby at_134) rfl rfl ?_
    show Steps p.tables e below (T126.setTop (mkF m 136 #[.val (.int p0), .val (.int p1), .val (.int p2), .val (.int p3), .val (.int p4), .val (.int p5), .val (.int w.val.toInt32), .val (.int (3 : Int32)), .val (.int (2 : Int32)), .val (.int cc.val.toInt32), .val (.ref b112), .val (.ref b116), .val (.ref b120), .val (.ref b124), .unset] [(.ref b124)])) _
    refine XS.aload X126.here hx rfl (hb hby at_136) rfl rfl ?_
    show Steps p.tables e below (T126.setTop (mkF m 138 #[.val (.int p0), .val (.int p1), .val (.int p2), .val (.int p3), .val (.int p4), .val (.int p5), .val (.int w.val.toInt32), .val (.int (3 : Int32)), .val (.int (2 : Int32)), .val (.int cc.val.toInt32), .val (.ref b112), .val (.ref b116), .val (.ref b120), .val (.ref b124), .unset] [(.ref b116), (.ref b124)])) _
    refine st127.trans ?_
    show Steps p.tables e below (T127.setTop (mkF m 141 #[.val (.int p0), .val (.int p1), .val (.int p2), .val (.int p3), .val (.int p4), .val (.int p5), .val (.int w.val.toInt32), .val (.int (3 : Int32)), .val (.int (2 : Int32)), .val (.int cc.val.toInt32), .val (.ref b112), .val (.ref b116), .val (.ref b120), .val (.ref b124), .unset] [])) _
    refine XS.iload X127.here hx rfl (hb hby at_141) rfl ?_
    show Steps p.tables e below (T127.setTop (mkF m 143 #[.val (.int p0), .val (.int p1), .val (.int p2), .val (.int p3), .val (.int p4), .val (.int p5), .val (.int w.val.toInt32), .val (.int (3 : Int32)), .val (.int (2 : Int32)), .val (.int cc.val.toInt32), .val (.ref b112), .val (.ref b116), .val (.ref b120), .val (.ref b124), .unset] [(.int (3 : Int32))])) _
    refine XS.iconst X127.here hx rfl (hb hby at_143) ?_
    show Steps p.tables e below (T127.setTop (mkF m 144 #[.val (.int p0), .val (.int p1), .val (.int p2), .val (.int p3), .val (.int p4), .val (.int p5), .val (.int w.val.toInt32), .val (.int (3 : Int32)), .val (.int (2 : Int32)), .val (.int cc.val.toInt32), .val (.ref b112), .val (.ref b116), .val (.ref b120), .val (.ref b124), .unset] [(.int (3 : Int32)), (.int (3 : Int32))])) _
    refine XS.icmpNo X127.here hx rfl (hb hby at_144) rfl (XT.ii_lt_f (by decide)) ?_
    show Steps p.tables e below (T127.setTop (mkF m 147 #[.val (.int p0), .val (.int p1), .val (.int p2), .val (.int p3), .val (.int p4), .val (.int p5), .val (.int w.val.toInt32), .val (.int (3 : Int32)), .val (.int (2 : Int32)), .val (.int cc.val.toInt32), .val (.ref b112), .val (.ref b116), .val (.ref b120), .val (.ref b124), .unset] [])) _
    refine XS.aload X127.here hx rfl (hb hby at_147) rfl rfl ?_
    show Steps p.tables e below (T127.setTop (mkF m 149 #[.val (.int p0), .val (.int p1), .val (.int p2), .val (.int p3), .val (.int p4), .val (.int p5), .val (.int w.val.toInt32), .val (.int (3 : Int32)), .val (.int (2 : Int32)), .val (.int cc.val.toInt32), .val (.ref b112), .val (.ref b116), .val (.ref b120), .val (.ref b124), .unset] [(.ref b124)])) _
    refine XS.aload X127.here hx rfl (hb hby at_149) rfl rfl ?_
    show Steps p.tables e below (T127.setTop (mkF m 151 #[.val (.int p0), .val (.int p1), .val (.int p2), .val (.int p3), .val (.int p4), .val (.int p5), .val (.int w.val.toInt32), .val (.int (3 : Int32)), .val (.int (2 : Int32)), .val (.int cc.val.toInt32), .val (.ref b112), .val (.ref b116), .val (.ref b120), .val (.ref b124), .unset] [(.ref b120), (.ref b124)])) _
    refine st128.trans ?_
    show Steps p.tables e below (T128.setTop (mkF m 154 #[.val (.int p0), .val (.int p1), .val (.int p2), .val (.int p3), .val (.int p4), .val (.int p5), .val (.int w.val.toInt32), .val (.int (3 : Int32)), .val (.int (2 : Int32)), .val (.int cc.val.toInt32), .val (.ref b112), .val (.ref b116), .val (.ref b120), .val (.ref b124), .unset] [])) _
    refine XS.iload X128.here hx rfl (hb hby at_154) rfl ?_
    show Steps p.tables e below (T128.setTop (mkF m 156 #[.val (.int p0), .val (.int p1), .val (.int p2), .val (.int p3), .val (.int p4), .val (.int p5), .val (.int w.val.toInt32), .val (.int (3 : Int32)), .val (.int (2 : Int32)), .val (.int cc.val.toInt32), .val (.ref b112), .val (.ref b116), .val (.ref b120), .val (.ref b124), .unset] [(.int (2 : Int32))])) _
    refine XS.ifYes X128.here hx rfl (pc0 := 156) (pc' := 169) rfl (hb hby at_156) rfl (XT.i0_ne_t (by decide)) (by decide) (by decide) ?_
    show Steps p.tables e below (T128.setTop (mkF m 169 #[.val (.int p0), .val (.int p1), .val (.int p2), .val (.int p3), .val (.int p4), .val (.int p5), .val (.int w.val.toInt32), .val (.int (3 : Int32)), .val (.int (2 : Int32)), .val (.int cc.val.toInt32), .val (.ref b112), .val (.ref b116), .val (.ref b120), .val (.ref b124), .unset] [])) _
    refine XS.iload X128.here hx rfl (hb hby at_169) rfl ?_
    show Steps p.tables e below (T128.setTop (mkF m 171 #[.val (.int p0), .val (.int p1), .val (.int p2), .val (.int p3), .val (.int p4), .val (.int p5), .val (.int w.val.toInt32), .val (.int (3 : Int32)), .val (.int (2 : Int32)), .val (.int cc.val.toInt32), .val (.ref b112), .val (.ref b116), .val (.ref b120), .val (.ref b124), .unset] [(.int (2 : Int32))])) _
    refine XS.iconst X128.here hx rfl (hb hby at_171) ?_
    show Steps p.tables e below (T128.setTop (mkF m 172 #[.val (.int p0), .val (.int p1), .val (.int p2), .val (.int p3), .val (.int p4), .val (.int p5), .val (.int w.val.toInt32), .val (.int (3 : Int32)), .val (.int (2 : Int32)), .val (.int cc.val.toInt32), .val (.ref b112), .val (.ref b116), .val (.ref b120), .val (.ref b124), .unset] [(.int (1 : Int32)), (.int (2 : Int32))])) _
    refine XS.icmpYes X128.here hx rfl (pc0 := 172) (pc' := 185) rfl (hb hby at_172) rfl (XT.ii_ne_t (by decide)) (by decide) (by decide) ?_
    show Steps p.tables e below (T128.setTop (mkF m 185 #[.val (.int p0), .val (.int p1), .val (.int p2), .val (.int p3), .val (.int p4), .val (.int p5), .val (.int w.val.toInt32), .val (.int (3 : Int32)), .val (.int (2 : Int32)), .val (.int cc.val.toInt32), .val (.ref b112), .val (.ref b116), .val (.ref b120), .val (.ref b124), .unset] [])) _
    refine XS.aload X128.here hx rfl (hb hby at_185) rfl rfl ?_
    show Steps p.tables e below (T128.setTop (mkF m 187 #[.val (.int p0), .val (.int p1), .val (.int p2), .val (.int p3), .val (.int p4), .val (.int p5), .val (.int w.val.toInt32), .val (.int (3 : Int32)), .val (.int (2 : Int32)), .val (.int cc.val.toInt32), .val (.ref b112), .val (.ref b116), .val (.ref b120), .val (.ref b124), .unset] [(.ref b120)])) _
    refine XS.iload X128.here hx rfl (hb hby at_187) rfl ?_
    show Steps p.tables e below (T128.setTop (mkF m 189 #[.val (.int p0), .val (.int p1), .val (.int p2), .val (.int p3), .val (.int p4), .val (.int p5), .val (.int w.val.toInt32), .val (.int (3 : Int32)), .val (.int (2 : Int32)), .val (.int cc.val.toInt32), .val (.ref b112), .val (.ref b116), .val (.ref b120), .val (.ref b124), .unset] [(.int cc.val.toInt32), (.ref b120)])) _
    refine X128.iaload hx (j := cc.val.toInt32) (v := (.int (own_x (upd (upd (upd (fun _ => (.int 0)) 0 (.int (p1 ^^^ (-1 : Int32)))) 1 (.int (p2 ^^^ (-1 : Int32)))) 2 (.int (p3 ^^^ (-1 : Int32)))) cc.val))) Ar129.1 (State.isArrayOf_alike hZ.alike Ar129.2.1) Ar129.2.2 hin129 hat129 (g := (mkF m 189 #[.val (.int p0), .val (.int p1), .val (.int p2), .val (.int p3), .val (.int p4), .val (.int p5), .val (.int w.val.toInt32), .val (.int (3 : Int32)), .val (.int (2 : Int32)), .val (.int cc.val.toInt32), .val (.ref b112), .val (.ref b116), .val (.ref b120), .val (.ref b124), .unset] [(.int cc.val.toInt32), (.ref b120)])) rfl rfl (hb hby at_189) _ ?_
    show Steps p.tables e below (T128.setTop (mkF m 190 #[.val (.int p0), .val (.int p1), .val (.int p2), .val (.int p3), .val (.int p4), .val (.int p5), .val (.int w.val.toInt32), .val (.int (3 : Int32)), .val (.int (2 : Int32)), .val (.int cc.val.toInt32), .val (.ref b112), .val (.ref b116), .val (.ref b120), .val (.ref b124), .unset] [(.int (own_x (upd (upd (upd (fun _ => (.int 0)) 0 (.int (p1 ^^^ (-1 : Int32)))) 1 (.int (p2 ^^^ (-1 : Int32)))) 2 (.int (p3 ^^^ (-1 : Int32)))) cc.val))])) _
    refine XS.istore X128.here hx rfl (hb hby at_190) rfl (l' := #[.val (.int p0), .val (.int p1), .val (.int p2), .val (.int p3), .val (.int p4), .val (.int p5), .val (.int w.val.toInt32), .val (.int (3 : Int32)), .val (.int (2 : Int32)), .val (.int cc.val.toInt32), .val (.ref b112), .val (.ref b116), .val (.ref b120), .val (.ref b124), .val (.int (own_x (upd (upd (upd (fun _ => (.int 0)) 0 (.int (p1 ^^^ (-1 : Int32)))) 1 (.int (p2 ^^^ (-1 : Int32)))) 2 (.int (p3 ^^^ (-1 : Int32)))) cc.val))]) rfl ?_
    show Steps p.tables e below (T128.setTop (mkF m 192 #[.val (.int p0), .val (.int p1), .val (.int p2), .val (.int p3), .val (.int p4), .val (.int p5), .val (.int w.val.toInt32), .val (.int (3 : Int32)), .val (.int (2 : Int32)), .val (.int cc.val.toInt32), .val (.ref b112), .val (.ref b116), .val (.ref b120), .val (.ref b124), .val (.int (own_x (upd (upd (upd (fun _ => (.int 0)) 0 (.int (p1 ^^^ (-1 : Int32)))) 1 (.int (p2 ^^^ (-1 : Int32)))) 2 (.int (p3 ^^^ (-1 : Int32)))) cc.val))] [])) _
    refine XS.aload X128.here hx rfl (hb hby at_192) rfl rfl ?_
    show Steps p.tables e below (T128.setTop (mkF m 194 #[.val (.int p0), .val (.int p1), .val (.int p2), .val (.int p3), .val (.int p4), .val (.int p5), .val (.int w.val.toInt32), .val (.int (3 : Int32)), .val (.int (2 : Int32)), .val (.int cc.val.toInt32), .val (.ref b112), .val (.ref b116), .val (.ref b120), .val (.ref b124), .val (.int (own_x (upd (upd (upd (fun _ => (.int 0)) 0 (.int (p1 ^^^ (-1 : Int32)))) 1 (.int (p2 ^^^ (-1 : Int32)))) 2 (.int (p3 ^^^ (-1 : Int32)))) cc.val))] [(.ref b124)])) _
    refine XS.iload X128.here hx rfl (hb hby at_194) rfl ?_
    show Steps p.tables e below (T128.setTop (mkF m 196 #[.val (.int p0), .val (.int p1), .val (.int p2), .val (.int p3), .val (.int p4), .val (.int p5), .val (.int w.val.toInt32), .val (.int (3 : Int32)), .val (.int (2 : Int32)), .val (.int cc.val.toInt32), .val (.ref b112), .val (.ref b116), .val (.ref b120), .val (.ref b124), .val (.int (own_x (upd (upd (upd (fun _ => (.int 0)) 0 (.int (p1 ^^^ (-1 : Int32)))) 1 (.int (p2 ^^^ (-1 : Int32)))) 2 (.int (p3 ^^^ (-1 : Int32)))) cc.val))] [(.int (2 : Int32)), (.ref b124)])) _
    refine XS.iload X128.here hx rfl (hb hby at_196) rfl ?_
    show Steps p.tables e below (T128.setTop (mkF m 198 #[.val (.int p0), .val (.int p1), .val (.int p2), .val (.int p3), .val (.int p4), .val (.int p5), .val (.int w.val.toInt32), .val (.int (3 : Int32)), .val (.int (2 : Int32)), .val (.int cc.val.toInt32), .val (.ref b112), .val (.ref b116), .val (.ref b120), .val (.ref b124), .val (.int (own_x (upd (upd (upd (fun _ => (.int 0)) 0 (.int (p1 ^^^ (-1 : Int32)))) 1 (.int (p2 ^^^ (-1 : Int32)))) 2 (.int (p3 ^^^ (-1 : Int32)))) cc.val))] [(.int cc.val.toInt32), (.int (2 : Int32)), (.ref b124)])) _
    refine st130.trans ?_
    show Steps p.tables e below (T130.setTop (mkF m 201 #[.val (.int p0), .val (.int p1), .val (.int p2), .val (.int p3), .val (.int p4), .val (.int p5), .val (.int w.val.toInt32), .val (.int (3 : Int32)), .val (.int (2 : Int32)), .val (.int cc.val.toInt32), .val (.ref b112), .val (.ref b116), .val (.ref b120), .val (.ref b124), .val (.int (own_x (upd (upd (upd (fun _ => (.int 0)) 0 (.int (p1 ^^^ (-1 : Int32)))) 1 (.int (p2 ^^^ (-1 : Int32)))) 2 (.int (p3 ^^^ (-1 : Int32)))) cc.val))] [(.int (own_x (upd (upd (upd (fun _ => (.int 0)) 0 (.int (p1 ^^^ (-1 : Int32)))) 1 (.int (p2 ^^^ (-1 : Int32)))) 2 (.int (p3 ^^^ (-1 : Int32)))) cc.val))])) _
    refine XS.iload X130.here hx rfl (hb hby at_201) rfl ?_
    show Steps p.tables e below (T130.setTop (mkF m 203 #[.val (.int p0), .val (.int p1), .val (.int p2), .val (.int p3), .val (.int p4), .val (.int p5), .val (.int w.val.toInt32), .val (.int (3 : Int32)), .val (.int (2 : Int32)), .val (.int cc.val.toInt32), .val (.ref b112), .val (.ref b116), .val (.ref b120), .val (.ref b124), .val (.int (own_x (upd (upd (upd (fun _ => (.int 0)) 0 (.int (p1 ^^^ (-1 : Int32)))) 1 (.int (p2 ^^^ (-1 : Int32)))) 2 (.int (p3 ^^^ (-1 : Int32)))) cc.val))] [(.int (own_x (upd (upd (upd (fun _ => (.int 0)) 0 (.int (p1 ^^^ (-1 : Int32)))) 1 (.int (p2 ^^^ (-1 : Int32)))) 2 (.int (p3 ^^^ (-1 : Int32)))) cc.val)), (.int (own_x (upd (upd (upd (fun _ => (.int 0)) 0 (.int (p1 ^^^ (-1 : Int32)))) 1 (.int (p2 ^^^ (-1 : Int32)))) 2 (.int (p3 ^^^ (-1 : Int32)))) cc.val))])) _
    refine XS.icmpNo X130.here hx rfl (hb hby at_203) rfl (XT.ii_ne_f rfl) ?_
    show Steps p.tables e below (T130.setTop (mkF m 206 #[.val (.int p0), .val (.int p1), .val (.int p2), .val (.int p3), .val (.int p4), .val (.int p5), .val (.int w.val.toInt32), .val (.int (3 : Int32)), .val (.int (2 : Int32)), .val (.int cc.val.toInt32), .val (.ref b112), .val (.ref b116), .val (.ref b120), .val (.ref b124), .val (.int (own_x (upd (upd (upd (fun _ => (.int 0)) 0 (.int (p1 ^^^ (-1 : Int32)))) 1 (.int (p2 ^^^ (-1 : Int32)))) 2 (.int (p3 ^^^ (-1 : Int32)))) cc.val))] [])) _
    refine XS.iconst X130.here hx rfl (hb hby at_206) ?_
    show Steps p.tables e below (T130.setTop (mkF m 207 #[.val (.int p0), .val (.int p1), .val (.int p2), .val (.int p3), .val (.int p4), .val (.int p5), .val (.int w.val.toInt32), .val (.int (3 : Int32)), .val (.int (2 : Int32)), .val (.int cc.val.toInt32), .val (.ref b112), .val (.ref b116), .val (.ref b120), .val (.ref b124), .val (.int (own_x (upd (upd (upd (fun _ => (.int 0)) 0 (.int (p1 ^^^ (-1 : Int32)))) 1 (.int (p2 ^^^ (-1 : Int32)))) 2 (.int (p3 ^^^ (-1 : Int32)))) cc.val))] [(.int (1 : Int32))])) _
    refine XS.goto X130.here hx rfl (pc0 := 207) (pc' := 211) rfl (hb hby at_207) (by decide) (by decide) ?_
    show Steps p.tables e below (T130.setTop (mkF m 211 #[.val (.int p0), .val (.int p1), .val (.int p2), .val (.int p3), .val (.int p4), .val (.int p5), .val (.int w.val.toInt32), .val (.int (3 : Int32)), .val (.int (2 : Int32)), .val (.int cc.val.toInt32), .val (.ref b112), .val (.ref b116), .val (.ref b120), .val (.ref b124), .val (.int (own_x (upd (upd (upd (fun _ => (.int 0)) 0 (.int (p1 ^^^ (-1 : Int32)))) 1 (.int (p2 ^^^ (-1 : Int32)))) 2 (.int (p3 ^^^ (-1 : Int32)))) cc.val))] [(.int (1 : Int32))])) _
    exact retN X130 hx (t := .boolean) Bd.returns (by simp) (hb hby at_211) hr
  · show Q_own_law_3_2 Z p0 p1 p2 p3 p4 p5 w cc h0 n0 _ T130.heap _
    rw [eh130]
    exact ⟨rfl, N130⟩
theorem own_fin (n : Nat) (x : Int32) (h0 : 0 ≤ x.toInt) (h1 : x.toInt < n) : ∃ k : Fin n, x = k.val.toInt32 := by
  have hn : ¬ x < 0 := by rw [Int32.lt_iff_toInt_lt]; have e0 : (0 : Int32).toInt = 0 := rfl; omega
  exact ⟨⟨x.toNatClampNeg, by simp only [Int32.toNatClampNeg]; omega⟩, (back32 hn).1.symm⟩
theorem own_mod (x d : Int32) (D : Int) (hd : d.toInt = D) (h1 : 0 < D) (h2 : D < 1000) : 0 ≤ ((x &&& (15 : Int32)) % d).toInt ∧ ((x &&& (15 : Int32)) % d).toInt < D := by
  have a1 := c_mask x (15 : Int32) 4 (by decide) (by decide)
  simp only [Nat.reducePow] at a1
  have a2 := (c_irem (x &&& (15 : Int32)) d D hd).1 (by omega)
  have m1 := Int.emod_nonneg (x &&& (15 : Int32)).toInt (b := D) (by omega)
  have m2 := Int.emod_lt_of_pos (x &&& (15 : Int32)).toInt (b := D) h1
  omega
theorem own_w (x : Int32) : ∃ w : Fin 4, 1 ≤ w.val ∧ ((1 : Int32) + ((x &&& (15 : Int32)) % (3 : Int32))) = w.val.toInt32 := by
  obtain ⟨h1, h2⟩ := own_mod x 3 3 rfl (by decide) (by decide)
  obtain ⟨k, e⟩ := own_fin 3 _ h1 h2
  rw [e]
  have q : ∀ k : Fin 3, ∃ w : Fin 4, 1 ≤ w.val ∧ ((1 : Int32) + k.val.toInt32) = w.val.toInt32 := by decide +kernel
  exact q k
theorem own_c (x : Int32) (w : Fin 4) (h : 1 ≤ w.val) : ∃ cc : Fin 3, cc.val < w.val ∧ ((x &&& (15 : Int32)) % w.val.toInt32) = cc.val.toInt32 := by
  have hw4 := w.isLt
  have e : w.val.toInt32.toInt = w.val := len_toInt (by omega)
  obtain ⟨h1, h2⟩ := own_mod x w.val.toInt32 w.val e (by omega) (by omega)
  obtain ⟨k, e⟩ := own_fin w.val _ h1 h2
  exact ⟨⟨k.val, by have := k.isLt; omega⟩, k.isLt, e⟩
set_option maxRecDepth 65536 in
set_option maxHeartbeats 40000000 in
theorem comes_1 {Post : Tables → Env → Array Value → State → Outcome → State → Prop} (hpost : ∀ tb e args s v u, (limb_1_1.after args s (.returned v) u = true ∧ limb_1_2.after args s (.returned v) u = true ∧ True) → FrameEnd s (.returned v) u (Jvm.fieldLocs frame_1_writes args s ++ Jvm.arrayLocs frame_1_arrays args s ++ Jvm.staticLocs frame_1_statics s) 24 192 → Post tb e args s (.returned v) u) :
    ArmFor flags0 classFile x code maxLocals ret World_1 tables_1 room_1 Calls_1 rest_1 Pre_1 Post := by
  intro l hfl _ _ p e ha hc hk s m args below hf hA hF happ hP
  obtain ⟨hcalls, hrest, hpre⟩ := hP
  obtain ⟨-, -, -, hnamed, -, -, -, hat⟩ := (Spec.applies_iff hf).mp happ
  obtain ⟨hg, hn⟩ := and_e (Cond.before_iff.mp (show (Jvm.Cond.and given_1 narrow_1).before args s = true from hpre))
  obtain ⟨hcount, hq0⟩ := and_e hg
  obtain ⟨ha0, hq1⟩ := and_e hq0
  obtain ⟨ha1, hq2⟩ := and_e hq1
  obtain ⟨ha2, hq3⟩ := and_e hq2
  obtain ⟨ha3, hq4⟩ := and_e hq3
  obtain ⟨ha4, hq5⟩ := and_e hq4
  have ha5 := hq5
  obtain ⟨w0, w1, w2, w3, w4, w5, rfl⟩ : ∃ w0 w1 w2 w3 w4 w5 : Value, args = #[w0, w1, w2, w3, w4, w5] := by
    have hs : args.size = 6 := by simpa [Cond.value, given_1] using hcount
    obtain ⟨L⟩ := args
    match L, hs with
    | [w0, w1, w2, w3, w4, w5], _ => exact ⟨w0, w1, w2, w3, w4, w5, rfl⟩
  have hw := fun d (hd : d ∈ tables_1) => atoms_spec (ws := Jvm.Cond.code x code maxLocals ret :: tables_1) hat d (List.mem_cons_of_mem _ hd)
  have hfit : Fit s := fun {y c} hc i hi => by
    obtain ⟨ha, rfl⟩ := Array.getElem?_eq_some_iff.mp hc
    have q := List.all_eq_true.mp ((Array.all_eq_true_iff_forall_mem.mp hF) _ (Array.getElem_mem ha)) i (List.mem_range.mpr hi)
    simpa [Array.getElem?_eq_getElem hi] using q
  obtain ⟨i0, ei0⟩ := is_v ha0
  obtain rfl : w0 = (.int i0) := Option.some.inj ei0
  obtain ⟨i1, ei1⟩ := is_v ha1
  obtain rfl : w1 = (.int i1) := Option.some.inj ei1
  obtain ⟨i2, ei2⟩ := is_v ha2
  obtain rfl : w2 = (.int i2) := Option.some.inj ei2
  obtain ⟨i3, ei3⟩ := is_v ha3
  obtain rfl : w3 = (.int i3) := Option.some.inj ei3
  obtain ⟨i4, ei4⟩ := is_v ha4
  obtain rfl : w4 = (.int i4) := Option.some.inj ei4
  obtain ⟨i5, ei5⟩ := is_v ha5
  obtain rfl : w5 = (.int i5) := Option.some.inj ei5
  obtain ⟨w, hw1, hW_⟩ := own_w i5
  obtain ⟨nw, hn1, hN_⟩ := own_w (XT.ushr i5 (4 : Int32))
  obtain ⟨rw_, hr1, hR_⟩ := own_c (XT.ushr i5 (8 : Int32)) nw hn1
  obtain ⟨cc, hcw, hC_⟩ := own_c (XT.ushr i5 (12 : Int32)) w hw1
  match nw, hn1, hN_, rw_, hr1, hR_ with
  | ⟨1, _⟩, _, hN_, ⟨0, _⟩, _, hR_ =>
    obtain ⟨n, o, h1, h2, h3, _, L, rfl, ⟨rfl, N⟩, hq⟩ := own_law_1_0 l s _ hw tables_1 i0 i1 i2 i3 i4 i5 w cc s.heap s.heap.size (Nat.le_refl _) hW_ hN_ hR_ hC_ hw1 hcw p e ha hc hk s m _ below hf ((Spec.applies_iff_loose hf).mp happ).1 ⟨rfl, State.Warmed39.refl s, rfl⟩ trivial
    refine ⟨n, _, h1, h2, h3, hpost _ _ _ _ _ _ ⟨Cond.after_iff.mpr rfl, Cond.after_iff.mpr (eq_i res_at (Term.int_eval (1)) rfl), trivial⟩ ⟨hq.1, hq.2.1, (hq.2.2.sift fun y hy => Or.inr (N y hy)).mono (by decide) (by decide)⟩⟩
  | ⟨1, _⟩, _, _, ⟨1, _⟩, hr1, _ => exact absurd (show 1 < 1 from hr1) (by decide)
  | ⟨1, _⟩, _, _, ⟨2, _⟩, hr1, _ => exact absurd (show 2 < 1 from hr1) (by decide)
  | ⟨2, _⟩, _, hN_, ⟨0, _⟩, _, hR_ =>
    obtain ⟨n, o, h1, h2, h3, _, L, rfl, ⟨rfl, N⟩, hq⟩ := own_law_2_0 l s _ hw tables_1 i0 i1 i2 i3 i4 i5 w cc s.heap s.heap.size (Nat.le_refl _) hW_ hN_ hR_ hC_ hw1 hcw p e ha hc hk s m _ below hf ((Spec.applies_iff_loose hf).mp happ).1 ⟨rfl, State.Warmed39.refl s, rfl⟩ trivial
    refine ⟨n, _, h1, h2, h3, hpost _ _ _ _ _ _ ⟨Cond.after_iff.mpr rfl, Cond.after_iff.mpr (eq_i res_at (Term.int_eval (1)) rfl), trivial⟩ ⟨hq.1, hq.2.1, (hq.2.2.sift fun y hy => Or.inr (N y hy)).mono (by decide) (by decide)⟩⟩
  | ⟨2, _⟩, _, hN_, ⟨1, _⟩, _, hR_ =>
    obtain ⟨n, o, h1, h2, h3, _, L, rfl, ⟨rfl, N⟩, hq⟩ := own_law_2_1 l s _ hw tables_1 i0 i1 i2 i3 i4 i5 w cc s.heap s.heap.size (Nat.le_refl _) hW_ hN_ hR_ hC_ hw1 hcw p e ha hc hk s m _ below hf ((Spec.applies_iff_loose hf).mp happ).1 ⟨rfl, State.Warmed39.refl s, rfl⟩ trivial
    refine ⟨n, _, h1, h2, h3, hpost _ _ _ _ _ _ ⟨Cond.after_iff.mpr rfl, Cond.after_iff.mpr (eq_i res_at (Term.int_eval (1)) rfl), trivial⟩ ⟨hq.1, hq.2.1, (hq.2.2.sift fun y hy => Or.inr (N y hy)).mono (by decide) (by decide)⟩⟩
  | ⟨2, _⟩, _, _, ⟨2, _⟩, hr1, _ => exact absurd (show 2 < 2 from hr1) (by decide)
  | ⟨3, _⟩, _, hN_, ⟨0, _⟩, _, hR_ =>
    obtain ⟨n, o, h1, h2, h3, _, L, rfl, ⟨rfl, N⟩, hq⟩ := own_law_3_0 l s _ hw tables_1 i0 i1 i2 i3 i4 i5 w cc s.heap s.heap.size (Nat.le_refl _) hW_ hN_ hR_ hC_ hw1 hcw p e ha hc hk s m _ below hf ((Spec.applies_iff_loose hf).mp happ).1 ⟨rfl, State.Warmed39.refl s, rfl⟩ trivial
    refine ⟨n, _, h1, h2, h3, hpost _ _ _ _ _ _ ⟨Cond.after_iff.mpr rfl, Cond.after_iff.mpr (eq_i res_at (Term.int_eval (1)) rfl), trivial⟩ ⟨hq.1, hq.2.1, (hq.2.2.sift fun y hy => Or.inr (N y hy)).mono (by decide) (by decide)⟩⟩
  | ⟨3, _⟩, _, hN_, ⟨1, _⟩, _, hR_ =>
    obtain ⟨n, o, h1, h2, h3, _, L, rfl, ⟨rfl, N⟩, hq⟩ := own_law_3_1 l s _ hw tables_1 i0 i1 i2 i3 i4 i5 w cc s.heap s.heap.size (Nat.le_refl _) hW_ hN_ hR_ hC_ hw1 hcw p e ha hc hk s m _ below hf ((Spec.applies_iff_loose hf).mp happ).1 ⟨rfl, State.Warmed39.refl s, rfl⟩ trivial
    refine ⟨n, _, h1, h2, h3, hpost _ _ _ _ _ _ ⟨Cond.after_iff.mpr rfl, Cond.after_iff.mpr (eq_i res_at (Term.int_eval (1)) rfl), trivial⟩ ⟨hq.1, hq.2.1, (hq.2.2.sift fun y hy => Or.inr (N y hy)).mono (by decide) (by decide)⟩⟩
  | ⟨3, _⟩, _, hN_, ⟨2, _⟩, _, hR_ =>
    obtain ⟨n, o, h1, h2, h3, _, L, rfl, ⟨rfl, N⟩, hq⟩ := own_law_3_2 l s _ hw tables_1 i0 i1 i2 i3 i4 i5 w cc s.heap s.heap.size (Nat.le_refl _) hW_ hN_ hR_ hC_ hw1 hcw p e ha hc hk s m _ below hf ((Spec.applies_iff_loose hf).mp happ).1 ⟨rfl, State.Warmed39.refl s, rfl⟩ trivial
    refine ⟨n, _, h1, h2, h3, hpost _ _ _ _ _ _ ⟨Cond.after_iff.mpr rfl, Cond.after_iff.mpr (eq_i res_at (Term.int_eval (1)) rfl), trivial⟩ ⟨hq.1, hq.2.1, (hq.2.2.sift fun y hy => Or.inr (N y hy)).mono (by decide) (by decide)⟩⟩
  | ⟨0, _⟩, hn1, _, _, _, _ => exact absurd (show 1 ≤ 0 from hn1) (by decide)
theorem main_1_1 : Claimed_1_1 := comes_1 fun _ _ _ _ _ _ h hF => ⟨h.1, hF⟩
theorem main_1_2 : Claimed_1_2 := comes_1 fun _ _ _ _ _ _ h hF => ⟨h.2.1, hF⟩
end Jvm.Pilot.@@N@@
namespace Jvm.Pilot.@@N@@
open Jvm Jvm.ClassFile Sem Op Lib Jvm.Free Jvm.Stand Jvm.Pilot.@@N@@.Jvm.D
/-! MADE BY PROGRAM (witnessworld.py) out of the Statement's table words and the real class files: 10 classes; the members and pool entries that the words name. The judged class is class 1, her method 1. -/
namespace start1
open Jvm.ClassFile
def u (s : String) : CpInfo := .utf8 (stringToUtf16 s)
/-- a pool by its gaps: so many unusable entries, then the entry; so many at the end -/
def gap : Nat → List CpInfo → List CpInfo
  | 0, r => r
  | n + 1, r => .unusable :: gap n r
def poolList (es : List (Nat × CpInfo)) (last : Nat) : List CpInfo := es.foldr (fun e r => gap e.1 (e.2 :: r)) (gap last [])
def pool (es : List (Nat × CpInfo)) (last : Nat) : Array CpInfo := ⟨poolList es last⟩
def fileOf (pool : Array CpInfo) (this : Nat) (attrs : Array Attribute := #[]) (ms : Array MethodInfo := #[]) (fl : Nat := 33) (sup : Nat := 0) (ifs : Array Nat := #[]) (fds : Array FieldInfo := #[]) : ClassFile where
  minorVersion := 0
  majorVersion := 65
  constantPool := pool
  accessFlags := fl
  thisClass := this
  superClass := sup
  interfaces := ifs
  fields := fds
  methods := ms
  attributes := attrs
def plain (name : String) (sup : Option ClassId) : Class where
  name := name
  kind := .ordinary
  loader := none
  accessFlags := 33
  super := sup
  interfaces := #[]
  cf := none
  fields := #[]
  methods := #[]
  instanceTypes := #[]
  staticTypes := #[]
  resolved := #[]
  callSites := []
  init := .initialized
  statics := none
  mirror := none

def pool0 : Array CpInfo := pool [(5, u "<init>"), (0, u "()V"), (1, .class_ 10), (1, u "java/lang/Object")] 113

def k0c0 : Code := { maxStack := 0, maxLocals := 1, code := object_method_1_code, exceptionTable := #[], attributes := #[] }
def k0m0 : Method := { name := "<init>", desc := "()V", sig := { parameters := [], returnType := none }, accessFlags := 1, code := some k0c0 }
/-- java/lang/Object -/
def k0 : Class := { plain "java/lang/Object" none with
  accessFlags := 33
  interfaces := #[]
  cf := some (fileOf pool0 8 #[] #[{ accessFlags := 1, nameIndex := 5, descriptorIndex := 6, attributes := #[] }] 33 0 #[] #[])
  fields := #[]
  methods := #[k0m0]
  instanceTypes := #[]
  staticTypes := #[]
  resolved := Array.replicate 124 none
  statics := none }

def pool1 : Array CpInfo := pool [(2, .class_ 4), (1, u "java/lang/Object"), (0, u "<init>"), (0, u "()V"), (0, .class_ 8), (0, u "com/example/factwell/factwell/pql/Rows"), (0, .methodref 7 10), (0, .nameAndType 5 11), (0, u "(I)V"), (0, .methodref 7 13), (0, .nameAndType 14 15), (0, u "add"), (0, u "([I)V"), (0, .methodref 7 17), (0, .nameAndType 18 19), (0, u "get"), (0, u "(II)I"), (0, .class_ 21), (0, u "com/example/factwell/factwell/pql/RowsGetPinLaw"), (2, u "law"), (0, u "(IIIIII)Z")] 5

def k1m0 : Method := { name := "<init>", desc := "()V", sig := { parameters := [], returnType := none }, accessFlags := 2, code := none }
def k1c1 : Code := { maxStack := 5, maxLocals := 15, code := code, exceptionTable := #[], attributes := #[] }
def k1m1 : Method := { name := "law", desc := "(IIIIII)Z", sig := { parameters := [.int, .int, .int, .int, .int, .int], returnType := some .boolean }, accessFlags := 9, code := some k1c1 }
/-- com/example/factwell/factwell/pql/RowsGetPinLaw -/
def k1 : Class := { plain "com/example/factwell/factwell/pql/RowsGetPinLaw" (some 0) with
  accessFlags := 49
  interfaces := #[]
  cf := some (fileOf pool1 20 #[] #[{ accessFlags := 2, nameIndex := 5, descriptorIndex := 6, attributes := #[] }, { accessFlags := 9, nameIndex := 24, descriptorIndex := 25, attributes := #[] }] 49 2 #[] #[])
  fields := #[]
  methods := #[k1m0, k1m1]
  instanceTypes := #[]
  staticTypes := #[]
  resolved := Array.replicate 31 none
  statics := none }

def pool2 : Array CpInfo := pool [(3, .class_ 4), (0, u "com/example/factwell/factwell/pql/Rows"), (0, .methodref 3 6), (0, .nameAndType 7 8), (0, u "<init>"), (0, u "(IIZ)V"), (0, .methodref 10 11), (0, .class_ 12), (0, .nameAndType 7 13), (0, u "java/lang/Object"), (0, u "()V"), (0, .fieldref 3 15), (0, .nameAndType 16 17), (0, u "width"), (0, u "I"), (0, .fieldref 3 19), (0, .nameAndType 20 21), (0, u "mayRepeat"), (0, u "Z"), (0, .fieldref 3 23), (0, .nameAndType 24 25), (0, u "cells"), (0, u "[I"), (0, .fieldref 3 27), (0, .nameAndType 28 17), (0, u "count"), (3, .methodref 33 34), (0, .class_ 35), (0, .nameAndType 36 37), (0, u "java/lang/System"), (0, u "arraycopy"), (0, u "(Ljava/lang/Object;ILjava/lang/Object;II)V"), (7, u "get"), (0, u "(II)I"), (60, u "INITIAL_ROOM"), (2, u "MAX_DIGIT_BITS"), (1, u "MIN_DIGIT_BITS"), (1, u "MAX_LENGTH"), (1, u "(I)V"), (5, u "add"), (0, u "([I)V")] 23

def k2c0 : Code := { maxStack := 4, maxLocals := 2, code := prog_58_method_1_code, exceptionTable := #[], attributes := #[] }
def k2m0 : Method := { name := "<init>", desc := "(I)V", sig := { parameters := [.int], returnType := none }, accessFlags := 0, code := some k2c0 }
def k2c1 : Code := { maxStack := 3, maxLocals := 4, code := prog_58_method_2_code, exceptionTable := #[], attributes := #[] }
def k2m1 : Method := { name := "<init>", desc := "(IIZ)V", sig := { parameters := [.int, .int, .boolean], returnType := none }, accessFlags := 2, code := some k2c1 }
def k2c2 : Code := { maxStack := 3, maxLocals := 3, code := prog_58_method_5_code, exceptionTable := #[], attributes := #[] }
def k2m2 : Method := { name := "get", desc := "(II)I", sig := { parameters := [.int, .int], returnType := some .int }, accessFlags := 0, code := some k2c2 }
def k2c3 : Code := { maxStack := 5, maxLocals := 2, code := prog_58_method_6_code, exceptionTable := #[], attributes := #[] }
def k2m3 : Method := { name := "add", desc := "([I)V", sig := { parameters := [(.array .int)], returnType := none }, accessFlags := 0, code := some k2c3 }
/-- com/example/factwell/factwell/pql/Rows -/
def k2 : Class := { plain "com/example/factwell/factwell/pql/Rows" (some 0) with
  accessFlags := 48
  interfaces := #[]
  cf := some (fileOf pool2 3 #[] #[{ accessFlags := 0, nameIndex := 7, descriptorIndex := 116, attributes := #[] }, { accessFlags := 2, nameIndex := 7, descriptorIndex := 8, attributes := #[] }, { accessFlags := 0, nameIndex := 45, descriptorIndex := 46, attributes := #[] }, { accessFlags := 0, nameIndex := 122, descriptorIndex := 123, attributes := #[] }] 48 10 #[] #[{ accessFlags := 26, nameIndex := 107, descriptorIndex := 17, attributes := #[] }, { accessFlags := 26, nameIndex := 110, descriptorIndex := 17, attributes := #[] }, { accessFlags := 26, nameIndex := 112, descriptorIndex := 17, attributes := #[] }, { accessFlags := 26, nameIndex := 114, descriptorIndex := 17, attributes := #[] }, { accessFlags := 18, nameIndex := 16, descriptorIndex := 17, attributes := #[] }, { accessFlags := 18, nameIndex := 20, descriptorIndex := 21, attributes := #[] }, { accessFlags := 2, nameIndex := 24, descriptorIndex := 25, attributes := #[] }, { accessFlags := 2, nameIndex := 28, descriptorIndex := 17, attributes := #[] }])
  fields := #[{ name := "INITIAL_ROOM", type := .int, accessFlags := 26, slot := 0, constantValue := 0 }, { name := "MAX_DIGIT_BITS", type := .int, accessFlags := 26, slot := 1, constantValue := 0 }, { name := "MIN_DIGIT_BITS", type := .int, accessFlags := 26, slot := 2, constantValue := 0 }, { name := "MAX_LENGTH", type := .int, accessFlags := 26, slot := 3, constantValue := 0 }, { name := "width", type := .int, accessFlags := 18, slot := 0, constantValue := 0 }, { name := "mayRepeat", type := .boolean, accessFlags := 18, slot := 1, constantValue := 0 }, { name := "cells", type := (.array .int), accessFlags := 2, slot := 2, constantValue := 0 }, { name := "count", type := .int, accessFlags := 2, slot := 3, constantValue := 0 }]
  methods := #[k2m0, k2m1, k2m2, k2m3]
  instanceTypes := #[.int, .boolean, (.array .int), .int]
  staticTypes := #[.int, .int, .int, .int]
  resolved := Array.replicate 147 none
  statics := none }

def pool3 : Array CpInfo := pool [(2, .class_ 4), (1, u "java/lang/Object"), (0, u "<init>"), (0, u "()V"), (1, .class_ 10), (1, u "java/lang/System"), (0, u "allowSecurityManager"), (0, u "I"), (16, u "cons"), (0, u "Ljava/io/Console;"), (77, .class_ 110), (1, u "java/lang/System$CallersHolder"), (43, u "initialErrStream"), (0, u "Ljava/io/PrintStream;"), (19, u "security"), (0, u "Ljava/lang/SecurityManager;"), (31, .class_ 209), (0, u "java/lang/System$1"), (7, u "props"), (0, u "Ljava/util/Properties;"), (2, u "lineSeparator"), (0, u "Ljava/lang/String;"), (96, .class_ 321), (1, u "java/lang/System$LoggerFinder"), (5, .class_ 328), (0, u "java/lang/System$Logger"), (67, u "err"), (2, u "out"), (91, u "notSupportedJnuEncoding"), (15, u "in"), (17, u "initialIn"), (0, u "Ljava/io/InputStream;"), (35, u "bootLayer"), (0, u "Ljava/lang/ModuleLayer;"), (99, .class_ 664), (0, u "java/lang/System$2"), (9, u "NEVER"), (2, u "MAYBE"), (49, u "arraycopy"), (0, u "(Ljava/lang/Object;ILjava/lang/Object;II)V"), (72, .class_ 802), (0, u "java/lang/System$Logger$Level")] 31

def k3m0 : Method := { name := "<init>", desc := "()V", sig := { parameters := [], returnType := none }, accessFlags := 2, code := none }
def k3m1 : Method := { name := "arraycopy", desc := "(Ljava/lang/Object;ILjava/lang/Object;II)V", sig := { parameters := [(.object "java/lang/Object"), .int, (.object "java/lang/Object"), .int, .int], returnType := none }, accessFlags := 265, code := none }
/-- java/lang/System -/
def k3 : Class := { plain "java/lang/System" (some 0) with
  accessFlags := 49
  interfaces := #[]
  cf := some (fileOf pool3 8 #[.nestMembers #[319, 327, 801, 108, 663, 208]] #[{ accessFlags := 2, nameIndex := 5, descriptorIndex := 6, attributes := #[] }, { accessFlags := 265, nameIndex := 727, descriptorIndex := 728, attributes := #[] }] 49 2 #[] #[{ accessFlags := 25, nameIndex := 507, descriptorIndex := 526, attributes := #[] }, { accessFlags := 25, nameIndex := 399, descriptorIndex := 155, attributes := #[] }, { accessFlags := 25, nameIndex := 396, descriptorIndex := 155, attributes := #[] }, { accessFlags := 10, nameIndex := 525, descriptorIndex := 526, attributes := #[] }, { accessFlags := 26, nameIndex := 674, descriptorIndex := 12, attributes := #[] }, { accessFlags := 26, nameIndex := 677, descriptorIndex := 12, attributes := #[] }, { accessFlags := 10, nameIndex := 11, descriptorIndex := 12, attributes := #[] }, { accessFlags := 74, nameIndex := 175, descriptorIndex := 176, attributes := #[] }, { accessFlags := 10, nameIndex := 491, descriptorIndex := 222, attributes := #[] }, { accessFlags := 74, nameIndex := 29, descriptorIndex := 30, attributes := #[] }, { accessFlags := 74, nameIndex := 154, descriptorIndex := 155, attributes := #[] }, { accessFlags := 10, nameIndex := 217, descriptorIndex := 218, attributes := #[] }, { accessFlags := 10, nameIndex := 221, descriptorIndex := 222, attributes := #[] }, { accessFlags := 8, nameIndex := 562, descriptorIndex := 563, attributes := #[] }])
  fields := #[{ name := "in", type := (.object "java/io/InputStream"), accessFlags := 25, slot := 0, constantValue := 0 }, { name := "out", type := (.object "java/io/PrintStream"), accessFlags := 25, slot := 1, constantValue := 0 }, { name := "err", type := (.object "java/io/PrintStream"), accessFlags := 25, slot := 2, constantValue := 0 }, { name := "initialIn", type := (.object "java/io/InputStream"), accessFlags := 10, slot := 3, constantValue := 0 }, { name := "NEVER", type := .int, accessFlags := 26, slot := 4, constantValue := 0 }, { name := "MAYBE", type := .int, accessFlags := 26, slot := 5, constantValue := 0 }, { name := "allowSecurityManager", type := .int, accessFlags := 10, slot := 6, constantValue := 0 }, { name := "security", type := (.object "java/lang/SecurityManager"), accessFlags := 74, slot := 7, constantValue := 0 }, { name := "notSupportedJnuEncoding", type := (.object "java/lang/String"), accessFlags := 10, slot := 8, constantValue := 0 }, { name := "cons", type := (.object "java/io/Console"), accessFlags := 74, slot := 9, constantValue := 0 }, { name := "initialErrStream", type := (.object "java/io/PrintStream"), accessFlags := 74, slot := 10, constantValue := 0 }, { name := "props", type := (.object "java/util/Properties"), accessFlags := 10, slot := 11, constantValue := 0 }, { name := "lineSeparator", type := (.object "java/lang/String"), accessFlags := 10, slot := 12, constantValue := 0 }, { name := "bootLayer", type := (.object "java/lang/ModuleLayer"), accessFlags := 8, slot := 13, constantValue := 0 }]
  methods := #[k3m0, k3m1]
  instanceTypes := #[]
  staticTypes := #[(.object "java/io/InputStream"), (.object "java/io/PrintStream"), (.object "java/io/PrintStream"), (.object "java/io/InputStream"), .int, .int, .int, (.object "java/lang/SecurityManager"), (.object "java/lang/String"), (.object "java/io/Console"), (.object "java/io/PrintStream"), (.object "java/util/Properties"), (.object "java/lang/String"), (.object "java/lang/ModuleLayer")]
  resolved := Array.replicate 834 none
  statics := none }

def pool4 : Array CpInfo := pool [(1, u "java/lang/Cloneable"), (0, .class_ 1), (0, u "java/lang/Object"), (0, .class_ 3)] 3

/-- java/lang/Cloneable -/
def k4 : Class := { plain "java/lang/Cloneable" (some 0) with
  accessFlags := 1537
  interfaces := #[]
  cf := some (fileOf pool4 2 #[] #[] 1537 4 #[] #[])
  fields := #[]
  methods := #[]
  instanceTypes := #[]
  staticTypes := #[]
  resolved := Array.replicate 8 none
  statics := none }

def pool5 : Array CpInfo := pool [(1, u "java/io/Serializable"), (0, .class_ 1), (0, u "java/lang/Object"), (0, .class_ 3)] 3

/-- java/io/Serializable -/
def k5 : Class := { plain "java/io/Serializable" (some 0) with
  accessFlags := 1537
  interfaces := #[]
  cf := some (fileOf pool5 2 #[] #[] 1537 4 #[] #[])
  fields := #[]
  methods := #[]
  instanceTypes := #[]
  staticTypes := #[]
  resolved := Array.replicate 8 none
  statics := none }

/-- the primitive byte -/
def k6 : Class := { plain "byte" none with kind := .primitive 'B', accessFlags := 0x411 }
/-- [B -/
def k7 : Class := { plain "[B" (some 0) with kind := .array 6 .byte, interfaces := #[4, 5], accessFlags := 1041 }

/-- the primitive int -/
def k8 : Class := { plain "int" none with kind := .primitive 'I', accessFlags := 0x411 }
/-- [I -/
def k9 : Class := { plain "[I" (some 0) with kind := .array 8 .int, interfaces := #[4, 5], accessFlags := 1041 }

def heap : Heap := #[]
def classes : Array Class := #[k0, k1, k2, k3, k4, k5, k6, k7, k8, k9]
def interned : List (Array UInt16 × Addr) := []
def slotsUsed : Nat := 0
def theMethod : MethodId := ⟨1, 1⟩
def args0 : Array Value := #[.int 1, .int 2, .int 3, .int 4, .int 5, .int 6]
def aboutOver (below : List Frame) : State where
  vm := { classes := classes, interned := interned.toArray }
  heap := heap
  slotsUsed := slotsUsed
  threads := #[{ frames := .invoking theMethod args0 :: below }]
def below0 : List Frame := [.native { method := ⟨0, 0⟩, args := #[] }]
def about1 : State := aboutOver below0
def p0 : Program := .bare "" "" ""
def e0 : Env := launch0.env 0 0 0
theorem w_frames : about1.frames = Frame.invoking theMethod args0 :: below0 := rfl
set_option maxRecDepth 65536 in
theorem w_args : argsFit about1.vm theMethod args0 = true := by decide +kernel
set_option maxRecDepth 65536 in
theorem w_heap : heapFits about1 = true := by decide +kernel
set_option maxRecDepth 65536 in
theorem w_runnable : about1.curStatus? = some .runnable := by decide +kernel
set_option maxRecDepth 65536 in
theorem w_alone : about1.alone = true := by decide +kernel
set_option maxRecDepth 65536 in
theorem w_named : about1.methodNamed? x = some theMethod := by decide +kernel
set_option maxRecDepth 65536 in
theorem w_hears : about1.hears theMethod below0 = true := by decide +kernel
set_option maxRecDepth 65536 in
theorem w_ripe : about1.ripe theMethod args0 below0 = true := by decide +kernel
theorem w_running : about1.status = .running := rfl
set_option maxRecDepth 65536 in
theorem w_room : about1.hasRoom e0.platform room_1 = true :=
  launch0.hasRoom_least _ room_1 (by decide +kernel) (by decide +kernel) (by decide +kernel) (by decide +kernel) (by decide +kernel) (by decide +kernel)
theorem allAtoms_all (ts : List Jvm.Cond) (a : Array Jvm.Value) (st : Jvm.State) : (allAtoms ts).before a st = ts.all (fun c => c.before a st) := by
  induction ts with
  | nil => rfl
  | cons c t ih =>
    show (Jvm.Cond.and c (allAtoms t)).before a st = _
    rw [Jvm.Cond.before_and, ih, List.all_cons]
def words1 : List Jvm.Cond := Jvm.Cond.code x code maxLocals ret :: tables_1
/-- a 'code' word, met by the world's own term for the bytes: nothing is compared byte by byte -/
theorem code_word {y : MethodName} {bytes : ByteArray} {mx : Nat} {rt : Option FieldType} {a : Array Value} {s : State} {m : MethodId} {meth : Method} {c : Code} (h1 : s.methodNamed? y = some m) (h2 : s.vm.method? m = some meth) (h3 : meth.code = some c) (h4 : c.code = bytes)
    (h5 : (c.maxLocals == mx && c.exceptionTable.isEmpty && decide (c.maxStack ≤ mostOperands) && decide (meth.sig.returnType = rt) && !meth.locks && decide (parseMethodDescriptor y.desc = some meth.sig)) = true) : (Jvm.Cond.code y bytes mx rt).before a s = true := by
  simp only [Bool.and_eq_true, beq_iff_eq, Bool.not_eq_true', decide_eq_true_eq] at h5
  obtain ⟨⟨⟨⟨⟨g1, g2⟩, g3⟩, g4⟩, g5⟩, g6⟩ := h5
  simp [Cond.before, Cond.holds, Cond.value, h1, h2, h3, h4, g1, g2, g3, g4, g5, g6]
def isCode : Jvm.Cond → Bool
  | .code _ _ _ _ => true
  | _ => false
theorem all_split {L : List Jvm.Cond} {P : Jvm.Cond → Bool} (h1 : L.all (fun c => isCode c || P c) = true) (h2 : ∀ c ∈ L.filter isCode, P c = true) : L.all P = true := by
  refine List.all_eq_true.mpr fun c hc => ?_
  have h := List.all_eq_true.mp h1 c hc
  rcases Bool.eq_false_or_eq_true (isCode c) with hi | hi
  · exact h2 c (List.mem_filter.mpr ⟨hc, hi⟩)
  · simpa [hi] using h
set_option maxRecDepth 65536 in
theorem w_c0 : (Jvm.Cond.code x code maxLocals ret).before args0 about1 = true := code_word (m := ⟨1, 1⟩) (meth := k1m1) (c := k1c1) (by decide +kernel) rfl rfl rfl (by decide +kernel)
set_option maxRecDepth 65536 in
theorem w_c1 : (Jvm.Cond.code ({ cls := "com/example/factwell/factwell/pql/Rows", name := "<init>", desc := "(I)V" } : Jvm.MethodName) prog_58_method_1_code (2 : Nat) (Option.none : Option Jvm.ClassFile.FieldType)).before args0 about1 = true := code_word (m := ⟨2, 0⟩) (meth := k2m0) (c := k2c0) (by decide +kernel) rfl rfl rfl (by decide +kernel)
set_option maxRecDepth 65536 in
theorem w_c2 : (Jvm.Cond.code ({ cls := "com/example/factwell/factwell/pql/Rows", name := "<init>", desc := "(IIZ)V" } : Jvm.MethodName) prog_58_method_2_code (4 : Nat) (Option.none : Option Jvm.ClassFile.FieldType)).before args0 about1 = true := code_word (m := ⟨2, 1⟩) (meth := k2m1) (c := k2c1) (by decide +kernel) rfl rfl rfl (by decide +kernel)
set_option maxRecDepth 65536 in
theorem w_c3 : (Jvm.Cond.code ({ cls := "java/lang/Object", name := "<init>", desc := "()V" } : Jvm.MethodName) object_method_1_code (1 : Nat) (Option.none : Option Jvm.ClassFile.FieldType)).before args0 about1 = true := code_word (m := ⟨0, 0⟩) (meth := k0m0) (c := k0c0) (by decide +kernel) rfl rfl rfl (by decide +kernel)
set_option maxRecDepth 65536 in
theorem w_c4 : (Jvm.Cond.code ({ cls := "com/example/factwell/factwell/pql/Rows", name := "add", desc := "([I)V" } : Jvm.MethodName) prog_58_method_6_code (2 : Nat) (Option.none : Option Jvm.ClassFile.FieldType)).before args0 about1 = true := code_word (m := ⟨2, 3⟩) (meth := k2m3) (c := k2c3) (by decide +kernel) rfl rfl rfl (by decide +kernel)
set_option maxRecDepth 65536 in
theorem w_c5 : (Jvm.Cond.code ({ cls := "com/example/factwell/factwell/pql/Rows", name := "get", desc := "(II)I" } : Jvm.MethodName) prog_58_method_5_code (3 : Nat) (Option.some Jvm.ClassFile.FieldType.int)).before args0 about1 = true := code_word (m := ⟨2, 2⟩) (meth := k2m2) (c := k2c2) (by decide +kernel) rfl rfl rfl (by decide +kernel)
def codes1 : List Jvm.Cond := [Jvm.Cond.code x code maxLocals ret, Jvm.Cond.code ({ cls := "com/example/factwell/factwell/pql/Rows", name := "<init>", desc := "(I)V" } : Jvm.MethodName) prog_58_method_1_code (2 : Nat) (Option.none : Option Jvm.ClassFile.FieldType), Jvm.Cond.code ({ cls := "com/example/factwell/factwell/pql/Rows", name := "<init>", desc := "(IIZ)V" } : Jvm.MethodName) prog_58_method_2_code (4 : Nat) (Option.none : Option Jvm.ClassFile.FieldType), Jvm.Cond.code ({ cls := "java/lang/Object", name := "<init>", desc := "()V" } : Jvm.MethodName) object_method_1_code (1 : Nat) (Option.none : Option Jvm.ClassFile.FieldType), Jvm.Cond.code ({ cls := "com/example/factwell/factwell/pql/Rows", name := "add", desc := "([I)V" } : Jvm.MethodName) prog_58_method_6_code (2 : Nat) (Option.none : Option Jvm.ClassFile.FieldType), Jvm.Cond.code ({ cls := "com/example/factwell/factwell/pql/Rows", name := "get", desc := "(II)I" } : Jvm.MethodName) prog_58_method_5_code (3 : Nat) (Option.some Jvm.ClassFile.FieldType.int)]
set_option maxRecDepth 65536 in
theorem codes_eq : words1.filter isCode = codes1 := rfl
theorem w_codes : ∀ c ∈ words1.filter isCode, c.before args0 about1 = true := by
  rw [codes_eq]
  intro c hc
  simp only [codes1, List.mem_cons, List.not_mem_nil, or_false] at hc
  rcases hc with rfl | rfl | rfl | rfl | rfl | rfl
  · exact w_c0
  · exact w_c1
  · exact w_c2
  · exact w_c3
  · exact w_c4
  · exact w_c5
set_option maxRecDepth 65536 in
theorem w_t1 : (words1.take 24).all (fun c => isCode c || c.before args0 about1) = true := by decide +kernel
set_option maxRecDepth 65536 in
theorem w_t2 : (words1.drop 24).all (fun c => isCode c || c.before args0 about1) = true := by decide +kernel
theorem w_tables : (allAtoms (Jvm.Cond.code x code maxLocals ret :: tables_1)).before args0 about1 = true := by
  rw [allAtoms_all]
  show words1.all (fun c => c.before args0 about1) = true
  refine all_split ?_ w_codes
  rw [← List.take_append_drop 24 words1, List.all_append, w_t1, w_t2]
  rfl
set_option maxRecDepth 65536 in
theorem w_case : (Jvm.Cond.and given_1 narrow_1).before args0 about1 = true := by decide +kernel
theorem w_applies : (headSpec (Jvm.Cond.code x code maxLocals ret :: tables_1) room_1).applies x e0.platform about1 = true :=
  (Spec.applies_iff w_frames).mpr ⟨w_running, w_runnable, w_alone, w_named, w_hears, w_ripe, w_room, w_tables⟩
theorem atStart : AtStart classFile x code maxLocals ret World_1 tables_1 room_1 Calls_1 rest_1 Pre_1 launch0 p0 e0 about1 theMethod args0 below0 :=
  ⟨lists_1, trivial, launch0.admits_env _ _ _, launch0.least_env, fairChoices_fair.cas, fairChoices_fair.clock, w_frames, w_args, w_heap, w_applies, trivial, trivial, w_case⟩
end start1
theorem witness_1 : WitnessClaimed_1 := ⟨start1.p0, start1.e0, start1.about1, start1.theMethod, start1.args0, start1.below0, start1.atStart⟩
end Jvm.Pilot.@@N@@
