import JvmDerived
import JvmDerived.Pilot.@@N@@Statement
import JvmDerived.Pilot.@@N@@Code
set_option linter.unusedVariables false
set_option linter.unusedSimpArgs false
namespace Jvm.RoadKit
open Sem ClassFile Op Lib Jvm.Stand Jvm.Free Jvm.LawKit
section New
variable {p : Program} {l : Launch} {e : Env} {R : Room} {s : State} {m : MethodId} {args : Array Value} {below : List Frame} {meth : Method} {c : Code} {T : State} {locs : List Loc} {cells slots : Nat}
theorem retI (X : Stand p l e R s m args below meth c T locs cells slots) (hx : p.tables.exec = Jvm.exec) {pc : Nat} {Ls : Array Slot} {z : Int32} {rest : List Value} (hret : meth.sig.returnType = some .int) (hd : decode c.code pc = .ok (.ireturn, 1)) {fs : List Frame}
    (hl : ∀ (f : JFrame) (acts : List Action), f.method = m → f.locked = none → f.entered = [] → (doReturn e (T.setTop f) acts (some (.int z))).1 = T.setFrames fs) : Steps p.tables e below (T.setTop (mkF m pc Ls (.int z :: rest))) (T.setFrames fs) := by
  have hm' : T.vm.method? m = some meth := X.method'
  have hn : narrow .int (.int z) = .int z := rfl
  show Steps p.tables e below (T.setTop { method := m, pc := pc, locals := Ls, stack := _ :: rest, locked := none }) _
  jvm_step X.here [X.here.top, hx, hd, hm', hret, hn]
  first | (intro acts; rw [hl _ acts rfl rfl rfl]) | rw [hl _ _ rfl rfl rfl]
  exact Steps.refl _
end New
end Jvm.RoadKit
namespace Jvm.Pilot.@@N@@
open Jvm Jvm.ClassFile Sem Op Lib Jvm.Free Jvm.Stand Jvm.LawKit Jvm.RoadKit Bundle Jvm.Pilot.@@N@@.Jvm.D
/-- an array of n places, the j-th holds f j -/
def Arf (Z : State) (h : Heap) (a : Addr) (k : ClassId) (ty : FieldType) (n : Nat) (f : Nat → Value) : Prop := ∃ c : Cell, Arr Z h a c ty ∧ c.cls = k ∧ c.slots.size = n ∧ n < 2 ^ 31 ∧ (∀ j, j < n → c.slots[j]? = some (f j)) ∧ ∀ j, j < n → fits ty (f j) = true
def upd (f : Nat → Value) (i : Nat) (v : Value) : Nat → Value := fun j => if j = i then v else f j
section Arfs
variable {Z : State} {h h' : Heap} {a b : Addr} {k : ClassId} {ty : FieldType} {n i : Nat} {f : Nat → Value} {v : Value} {sl : Nat} {ws : List Addr} {c : Cell} {j : Int32}
theorem Arf.lt (F : Arf Z h a k ty n f) : a < h.size := by obtain ⟨c, A, -⟩ := F; exact A.lt
theorem Arf.ext (F : Arf Z h a k ty n f) (E : Ext h h') : Arf Z h' a k ty n f := by obtain ⟨c, A, r⟩ := F; exact ⟨c, A.ext E, r⟩
theorem Arf.other (F : Arf Z h b k ty n f) (W : Wr h h' a sl v) (q : b ≠ a) : Arf Z h' b k ty n f := by obtain ⟨c, A, r⟩ := F; exact ⟨c, A.other W q, r⟩
theorem Arf.keep (F : Arf Z h a k ty n f) (K : Keep h h' ws) (q : a ∉ ws) : Arf Z h' a k ty n f := by obtain ⟨c, A, r⟩ := F; exact ⟨c, ⟨K.2.1 a c A.1 q, A.2⟩, r⟩
theorem Arf.new {z : Int32} (A : Arr Z h a (newA k ty z) ty) (q : ¬ z < 0) (hz : z.toNatClampNeg = n) : Arf Z h a k ty n (fun _ => defaultValue ty) := ⟨_, A, rfl, by rw [sz_new, hz], by rw [← hz]; exact (back32 q).2, fun i hi => by
  rw [← hz] at hi; simp [newA, hi], fun _ _ => by cases ty <;> rfl⟩
theorem Arf.eq {g : Nat → Value} (F : Arf Z h a k ty n f) (e : ∀ j, j < n → f j = g j) : Arf Z h a k ty n g := by obtain ⟨c, A, r1, r2, r3, H, G⟩ := F; exact ⟨c, A, r1, r2, r3, fun j hj => by rw [← e j hj]; exact H j hj, fun j hj => by rw [← e j hj]; exact G j hj⟩
theorem own_inb (S : c.slots.size = n) (ix : ¬ j < 0 ∧ j.toNatClampNeg = i) (hi : i < n) : ¬ (j < 0 ∨ c.slots.size ≤ j.toNatClampNeg) := by rw [S, ix.2]; exact fun q => q.elim ix.1 (Nat.not_le.mpr hi)
theorem own_hat (H : ∀ j, j < n → c.slots[j]? = some (f j)) (ix : ¬ j < 0 ∧ j.toNatClampNeg = i) (hi : i < n) (hv : f i = v) : c.slots[j.toNatClampNeg]? = some v := by rw [ix.2, H _ hi, hv]
theorem own_set (A : Arr Z h a c ty) (q : c.cls = k) (S : c.slots.size = n) (B : n < 2 ^ 31) (H : ∀ j, j < n → c.slots[j]? = some (f j)) (G : ∀ j, j < n → fits ty (f j) = true) (hv : fits ty v = true) (ix : ¬ j < 0 ∧ j.toNatClampNeg = i) (W : Wr h h' a j.toNatClampNeg v) : Arf Z h' a k ty n (upd f i v) := by
  refine ⟨_, A.same W, q, by rw [sz_set]; exact S, B, fun x hx => ?_, fun x hx => ?_⟩
  · rw [ix.2]
    by_cases u : x = i
    · subst u; simp [Cell.setSlot, S, hx, upd]
    · simp only [Cell.setSlot, upd, if_neg u]
      rw [Array.getElem?_setIfInBounds_ne (Ne.symm u)]; exact H x hx
  · unfold upd
    split
    · exact hv
    · exact G x hx
theorem own_ix {k : Nat} (hk : k < 2 ^ 31) : ¬ k.toInt32 < 0 ∧ k.toInt32.toNatClampNeg = k := by
  have e := len_toInt hk
  refine ⟨?_, ?_⟩
  · rw [Int32.lt_iff_toInt_lt, e]; show ¬ (k : Int) < 0; omega
  · simp only [Int32.toNatClampNeg, e]; rfl
end Arfs
theorem pd_0 : parseMethodDescriptor "(IIIJB)B" = some ⟨[.int, .int, .int, .long, .byte], some .byte⟩ := by decide +kernel
theorem pd_1 : parseMethodDescriptor "([BIJ)I" = some ⟨[(.array .byte), .int, .long], some .int⟩ := by decide +kernel
theorem pd_2 : parseMethodDescriptor "(J)I" = some ⟨[.long], some .int⟩ := by decide +kernel
def own_len (v : Int64) : Int32 := if (XT.ushrL v (7 : Int32)) = (0 : Int64) then 1 else if (XT.ushrL v (14 : Int32)) = (0 : Int64) then 2 else if (XT.ushrL v (21 : Int32)) = (0 : Int64) then 3 else if (XT.ushrL v (28 : Int32)) = (0 : Int64) then 4 else if (XT.ushrL v (35 : Int32)) = (0 : Int64) then 5 else if (XT.ushrL v (42 : Int32)) = (0 : Int64) then 6 else if (XT.ushrL v (49 : Int32)) = (0 : Int64) then 7 else if (XT.ushrL v (56 : Int32)) = (0 : Int64) then 8 else if (XT.ushrL v (63 : Int32)) = (0 : Int64) then 9 else 10
def own_exp (j a len : Int32) (v : Int64) (f : Int32) : Int32 := if (j - a) < 0 then f.toInt8.toInt32 else if (j - a) < len then (if (j - a) < (len - (1 : Int32)) then ((((XT.ushrL v ((7 : Int32) * (j - a))) &&& (127 : Int64)).toInt32 ||| (128 : Int32)).toInt8.toInt32).toInt8.toInt32 else (((XT.ushrL v ((7 : Int32) * (j - a))) &&& (127 : Int64)).toInt32.toInt8.toInt32).toInt8.toInt32) else f.toInt8.toInt32
def own_r (v : Int64) : Nat → Int64
  | 0 => v
  | t + 1 => XT.ushrL (own_r v t) (7 : Int32)
def own_mid (v : Int64) (k : Nat) : Int32 := (((own_r v k &&& (127 : Int64)) ||| (128 : Int64)).toInt32.toInt8.toInt32).toInt8.toInt32
def own_w (f : Nat → Value) (at_ t : Nat) (v : Int64) : Nat → Value := fun j => if at_ ≤ j ∧ j < at_ + t then .int (own_mid v (j - at_)) else f j
def own_fb (v : Int64) (L k : Nat) : Int32 := if k + 1 < L then own_mid v k else ((own_r v k).toInt32.toInt8.toInt32).toInt8.toInt32
def own_fin (f : Nat → Value) (at_ L : Nat) (v : Int64) : Nat → Value := fun j => if at_ ≤ j ∧ j < at_ + L then .int (own_fb v L (j - at_)) else f j
theorem own_w_zero (f : Nat → Value) (at_ : Nat) (v : Int64) : ∀ j, j < 16 → f j = own_w f at_ 0 v j := fun j _ => by
  unfold own_w; rw [if_neg (by omega)]
theorem own_w_step (f : Nat → Value) (at_ t : Nat) (v : Int64) : ∀ j, j < 16 → upd (own_w f at_ t v) (at_ + t) (.int (own_mid v t)) j = own_w f at_ (t + 1) v j := fun j _ => by
  unfold upd own_w
  by_cases q : j = at_ + t
  · subst q
    rw [if_pos rfl, if_pos (by omega), Nat.add_sub_cancel_left]
  · rw [if_neg q]
    by_cases r : at_ ≤ j ∧ j < at_ + t
    · rw [if_pos r, if_pos (by omega)]
    · rw [if_neg r, if_neg (by omega)]
theorem own_fin_eq (f : Nat → Value) (at_ L : Nat) (v : Int64) (hL : 1 ≤ L) : ∀ j, j < 16 → upd (own_w f at_ (L - 1) v) (at_ + (L - 1)) (.int ((own_r v (L - 1)).toInt32.toInt8.toInt32).toInt8.toInt32) j = own_fin f at_ L v j := fun j _ => by
  unfold upd own_w own_fin own_fb
  by_cases q : j = at_ + (L - 1)
  · subst q
    rw [if_pos rfl, if_pos (by omega), Nat.add_sub_cancel_left, if_neg (by omega)]
  · rw [if_neg q]
    by_cases r : at_ ≤ j ∧ j < at_ + (L - 1)
    · rw [if_pos r, if_pos (by omega), if_pos (by omega)]
    · rw [if_neg r, if_neg (by omega)]
theorem own_addn (a b : Nat) : (a + b).toInt32 = a.toInt32 + b.toInt32 := Int32.ofNat_add a b
theorem own_succ (n : Nat) : (n + 1).toInt32 = n.toInt32 + (1 : Int32) := own_addn n 1
theorem own_ret (at_ L : Nat) (hL : 1 ≤ L) : ((at_ + (L - 1)).toInt32 + (1 : Int32)) = (at_ + L).toInt32 := by
  rw [← own_succ]; congr 1; omega
theorem own_us (x : Int64) (y : Int32) (k : Nat) (hk : (y.toInt64.toUInt64 &&& Int64.toUInt64 63).toNat = k) (h2 : k < 64) : (XT.ushrL x y).toBitVec.toNat = x.toBitVec.toNat / 2 ^ k := by
  show (x.toUInt64 >>> (y.toInt64.toUInt64 &&& Int64.toUInt64 63)).toNat = _
  rw [UInt64.toNat_shiftRight, hk, Nat.mod_eq_of_lt h2, Nat.shiftRight_eq_div_pow]
  rfl
theorem own_mask (i : Nat) : Nat.testBit 18446744073709551488 i = (decide (7 ≤ i) && decide (i < 64)) := by
  have e : (18446744073709551488 : Nat) = (2 ^ 57 - 1) <<< 7 := by decide
  rw [e, Nat.testBit_shiftLeft, Nat.testBit_two_pow_sub_one]
  by_cases h : 7 ≤ i
  · simp only [h, ge_iff_le, decide_true, Bool.true_and]
    congr 1; apply propext; omega
  · simp [h]
theorem own_nat (n : Nat) (hn : n < 2 ^ 64) : n &&& 18446744073709551488 = 0 ↔ n < 128 := by
  constructor
  · intro h
    show n < 2 ^ 7
    apply Nat.lt_pow_two_of_testBit
    intro i hi
    by_cases h64 : i < 64
    · have q := congrArg (fun z => Nat.testBit z i) h
      simp only [Nat.testBit_and, own_mask, Nat.zero_testBit] at q
      simpa [hi, h64] using q
    · exact Nat.testBit_lt_two_pow (Nat.lt_of_lt_of_le hn (Nat.pow_le_pow_right (by decide) (by omega)))
  · intro h
    apply Nat.eq_of_testBit_eq
    intro i
    rw [Nat.testBit_and, own_mask, Nat.zero_testBit]
    by_cases h7 : 7 ≤ i
    · rw [Nat.testBit_lt_two_pow (Nat.lt_of_lt_of_le h (Nat.pow_le_pow_right (n := 2) (by decide) h7))]; rfl
    · simp [h7]
theorem own_and (x : Int64) : (x &&& (-128 : Int64)) = (0 : Int64) ↔ x.toBitVec.toNat < 128 := by
  rw [← own_nat _ x.toBitVec.isLt, ← Int64.toBitVec_inj, Int64.toBitVec_and, ← BitVec.toNat_inj, BitVec.toNat_and]
  exact Iff.rfl
theorem own_zero (x : Int64) : x = (0 : Int64) ↔ x.toBitVec.toNat = 0 := by
  rw [← Int64.toBitVec_inj, ← BitVec.toNat_inj]; exact Iff.rfl
theorem own_ru (v : Int64) : ∀ t, (own_r v t).toBitVec.toNat = v.toBitVec.toNat / 128 ^ t
  | 0 => by rw [Nat.pow_zero, Nat.div_one]; rfl
  | t + 1 => by
    show (XT.ushrL (own_r v t) (7 : Int32)).toBitVec.toNat = _
    rw [own_us _ _ 7 (by decide) (by decide), own_ru v t, Nat.div_div_eq_div_mul]
    rfl
theorem own_rc (v : Int64) (t : Nat) : (own_r v t &&& (-128 : Int64)) = (0 : Int64) ↔ v.toBitVec.toNat < 128 ^ (t + 1) := by
  rw [own_and, own_ru, Nat.div_lt_iff_lt_mul (Nat.pow_pos (by decide)), Nat.pow_succ, Nat.mul_comm 128]
theorem own_lc (v : Int64) (y : Int32) (k : Nat) (hk : (y.toInt64.toUInt64 &&& Int64.toUInt64 63).toNat = 7 * k) (h2 : 7 * k < 64) : XT.ushrL v y = (0 : Int64) ↔ v.toBitVec.toNat < 128 ^ k := by
  rw [own_zero, own_us _ _ _ hk h2, Nat.pow_mul]
  exact Nat.div_eq_zero_iff_lt (Nat.pow_pos (by decide))
theorem own_rs (v : Int64) (k : Nat) (hk : k < 10) : own_r v k = XT.ushrL v ((7 : Int32) * k.toInt32) := by
  have q : ∀ k : Fin 10, ((((7 : Int32) * k.val.toInt32).toInt64.toUInt64 &&& Int64.toUInt64 63).toNat = 7 * k.val) := by decide +kernel
  rw [← Int64.toBitVec_inj, ← BitVec.toNat_inj, own_ru, own_us v _ (7 * k) (q ⟨k, hk⟩) (by omega), Nat.pow_mul]
theorem own_127 (x : Int64) (h : x.toBitVec.toNat < 128) : x &&& (127 : Int64) = x := by
  rw [← Int64.toBitVec_inj, ← BitVec.toNat_inj, Int64.toBitVec_and, BitVec.toNat_and]
  show x.toBitVec.toNat &&& (2 ^ 7 - 1) = _
  rw [Nat.and_two_pow_sub_one_eq_mod]
  exact Nat.mod_eq_of_lt h
theorem own_key (at_ L : Nat) (v : Int64) (B : Int32) (hat : at_ < 4) (hL0 : 1 ≤ L) (hL : L ≤ 10) (H2 : (own_r v (L - 1) &&& (-128 : Int64)) = (0 : Int64)) (j : Nat) (hj : j < 16) : own_fin (fun _ => .int B.toInt8.toInt32) at_ L v j = .int (own_exp j.toInt32 at_.toInt32 L.toInt32 v B) := by
  have e1 : j.toInt32.toInt = j := len_toInt (by omega)
  have e2 : at_.toInt32.toInt = at_ := len_toInt (by omega)
  have e3 : L.toInt32.toInt = L := len_toInt (by omega)
  have d1 : (j.toInt32 - at_.toInt32).toInt = (j : Int) - at_ := by
    have a := c_isub j.toInt32 at_.toInt32
    have b := rng32 (j.toInt32 - at_.toInt32)
    omega
  have d2 : (L.toInt32 - (1 : Int32)).toInt = (L : Int) - 1 := by
    have a := c_isub L.toInt32 (1 : Int32)
    have b := rng32 (L.toInt32 - (1 : Int32))
    have e : (1 : Int32).toInt = 1 := rfl
    omega
  have z0 : (0 : Int32).toInt = 0 := rfl
  show (if at_ ≤ j ∧ j < at_ + L then Value.int (own_fb v L (j - at_)) else Value.int B.toInt8.toInt32) = _
  unfold own_exp
  by_cases h1 : j < at_
  · rw [if_neg (by omega), if_pos (by rw [Int32.lt_iff_toInt_lt]; omega)]
  · rw [if_neg (c := (j.toInt32 - at_.toInt32) < 0) (by rw [Int32.lt_iff_toInt_lt]; omega)]
    by_cases h2 : j < at_ + L
    · have ek : j.toInt32 - at_.toInt32 = (j - at_).toInt32 := by
        apply Int32.toInt_inj.mp
        rw [d1, len_toInt (by omega)]; omega
      rw [if_pos (by omega), if_pos (c := (j.toInt32 - at_.toInt32) < L.toInt32) (by rw [Int32.lt_iff_toInt_lt]; omega)]
      unfold own_fb
      by_cases h3 : j - at_ + 1 < L
      · rw [if_pos h3, if_pos (by rw [Int32.lt_iff_toInt_lt]; omega), ek]
        unfold own_mid
        rw [own_rs v _ (by omega), Int64.toInt32_or]
        rfl
      · rw [if_neg h3, if_neg (by rw [Int32.lt_iff_toInt_lt]; omega), ek]
        obtain rfl : L = j - at_ + 1 := by omega
        rw [Nat.add_sub_cancel] at H2
        rw [← own_rs v _ (by omega), own_127 _ ((own_and _).mp H2)]
    · rw [if_neg (by omega), if_neg (by rw [Int32.lt_iff_toInt_lt]; omega)]
theorem own_three (x : Int32) : ∃ a : Nat, a < 4 ∧ (x &&& (3 : Int32)) = a.toInt32 := by
  have a1 := c_mask x (3 : Int32) 2 (by decide) (by decide)
  simp only [Nat.reducePow] at a1
  have hn : ¬ (x &&& (3 : Int32)) < 0 := by rw [Int32.lt_iff_toInt_lt]; have e0 : (0 : Int32).toInt = 0 := rfl; omega
  exact ⟨(x &&& (3 : Int32)).toNatClampNeg, by simp only [Int32.toNatClampNeg]; omega, (back32 hn).1.symm⟩
theorem own_take (v : Int64) (L : Nat) (h0 : 1 ≤ L) (h1 : L = 1 ∨ ¬ v.toBitVec.toNat < 128 ^ (L - 1)) (h2 : v.toBitVec.toNat < 128 ^ L) : (∀ t, t + 1 < L → ¬ (own_r v t &&& (-128 : Int64)) = (0 : Int64)) ∧ (own_r v (L - 1) &&& (-128 : Int64)) = (0 : Int64) := by
  refine ⟨fun t ht => ?_, ?_⟩
  · rw [own_rc]
    rcases h1 with h1 | h1
    · omega
    · have : 128 ^ (t + 1) ≤ 128 ^ (L - 1) := Nat.pow_le_pow_right (by decide) (by omega)
      omega
  · rw [own_rc, Nat.sub_add_cancel h0]; exact h2
theorem own_length (v : Int64) : ∃ L : Nat, 1 ≤ L ∧ L ≤ 10 ∧ (∀ t, t + 1 < L → ¬ (own_r v t &&& (-128 : Int64)) = (0 : Int64)) ∧ (own_r v (L - 1) &&& (-128 : Int64)) = (0 : Int64) ∧ own_len v = L.toInt32 := by
  have hb := v.toBitVec.isLt
  have c1 := own_lc v (7 : Int32) 1 (by decide) (by decide)
  have c2 := own_lc v (14 : Int32) 2 (by decide) (by decide)
  have c3 := own_lc v (21 : Int32) 3 (by decide) (by decide)
  have c4 := own_lc v (28 : Int32) 4 (by decide) (by decide)
  have c5 := own_lc v (35 : Int32) 5 (by decide) (by decide)
  have c6 := own_lc v (42 : Int32) 6 (by decide) (by decide)
  have c7 := own_lc v (49 : Int32) 7 (by decide) (by decide)
  have c8 := own_lc v (56 : Int32) 8 (by decide) (by decide)
  have c9 := own_lc v (63 : Int32) 9 (by decide) (by decide)
  by_cases h1 : XT.ushrL v (7 : Int32) = (0 : Int64)
  · obtain ⟨q1, q2⟩ := own_take v 1 (by decide) (Or.inl rfl) (c1.mp h1)
    exact ⟨1, by decide, by decide, q1, q2, by unfold own_len; rw [if_pos h1]; rfl⟩
  by_cases h2 : XT.ushrL v (14 : Int32) = (0 : Int64)
  · obtain ⟨q1, q2⟩ := own_take v 2 (by decide) (Or.inr fun q => h1 (c1.mpr q)) (c2.mp h2)
    exact ⟨2, by decide, by decide, q1, q2, by unfold own_len; rw [if_neg h1, if_pos h2]; rfl⟩
  by_cases h3 : XT.ushrL v (21 : Int32) = (0 : Int64)
  · obtain ⟨q1, q2⟩ := own_take v 3 (by decide) (Or.inr fun q => h2 (c2.mpr q)) (c3.mp h3)
    exact ⟨3, by decide, by decide, q1, q2, by unfold own_len; rw [if_neg h1, if_neg h2, if_pos h3]; rfl⟩
  by_cases h4 : XT.ushrL v (28 : Int32) = (0 : Int64)
  · obtain ⟨q1, q2⟩ := own_take v 4 (by decide) (Or.inr fun q => h3 (c3.mpr q)) (c4.mp h4)
    exact ⟨4, by decide, by decide, q1, q2, by unfold own_len; rw [if_neg h1, if_neg h2, if_neg h3, if_pos h4]; rfl⟩
  by_cases h5 : XT.ushrL v (35 : Int32) = (0 : Int64)
  · obtain ⟨q1, q2⟩ := own_take v 5 (by decide) (Or.inr fun q => h4 (c4.mpr q)) (c5.mp h5)
    exact ⟨5, by decide, by decide, q1, q2, by unfold own_len; rw [if_neg h1, if_neg h2, if_neg h3, if_neg h4, if_pos h5]; rfl⟩
  by_cases h6 : XT.ushrL v (42 : Int32) = (0 : Int64)
  · obtain ⟨q1, q2⟩ := own_take v 6 (by decide) (Or.inr fun q => h5 (c5.mpr q)) (c6.mp h6)
    exact ⟨6, by decide, by decide, q1, q2, by unfold own_len; rw [if_neg h1, if_neg h2, if_neg h3, if_neg h4, if_neg h5, if_pos h6]; rfl⟩
  by_cases h7 : XT.ushrL v (49 : Int32) = (0 : Int64)
  · obtain ⟨q1, q2⟩ := own_take v 7 (by decide) (Or.inr fun q => h6 (c6.mpr q)) (c7.mp h7)
    exact ⟨7, by decide, by decide, q1, q2, by unfold own_len; rw [if_neg h1, if_neg h2, if_neg h3, if_neg h4, if_neg h5, if_neg h6, if_pos h7]; rfl⟩
  by_cases h8 : XT.ushrL v (56 : Int32) = (0 : Int64)
  · obtain ⟨q1, q2⟩ := own_take v 8 (by decide) (Or.inr fun q => h7 (c7.mpr q)) (c8.mp h8)
    exact ⟨8, by decide, by decide, q1, q2, by unfold own_len; rw [if_neg h1, if_neg h2, if_neg h3, if_neg h4, if_neg h5, if_neg h6, if_neg h7, if_pos h8]; rfl⟩
  by_cases h9 : XT.ushrL v (63 : Int32) = (0 : Int64)
  · obtain ⟨q1, q2⟩ := own_take v 9 (by decide) (Or.inr fun q => h8 (c8.mpr q)) (c9.mp h9)
    exact ⟨9, by decide, by decide, q1, q2, by unfold own_len; rw [if_neg h1, if_neg h2, if_neg h3, if_neg h4, if_neg h5, if_neg h6, if_neg h7, if_neg h8, if_pos h9]; rfl⟩
  obtain ⟨q1, q2⟩ := own_take v 10 (by decide) (Or.inr fun q => h9 (c9.mpr q)) (Nat.lt_of_lt_of_le hb (by decide))
  exact ⟨10, by decide, by decide, q1, q2, by unfold own_len; rw [if_neg h1, if_neg h2, if_neg h3, if_neg h4, if_neg h5, if_neg h6, if_neg h7, if_neg h8, if_neg h9]; rfl⟩
theorem own_fill (b : Int32) : ∀ j, j < 16 → (upd (upd (upd (upd (upd (upd (upd (upd (upd (upd (upd (upd (upd (upd (upd (upd (fun _ => Value.int 0) 0 (.int b)) 1 (.int b)) 2 (.int b)) 3 (.int b)) 4 (.int b)) 5 (.int b)) 6 (.int b)) 7 (.int b)) 8 (.int b)) 9 (.int b)) 10 (.int b)) 11 (.int b)) 12 (.int b)) 13 (.int b)) 14 (.int b)) 15 (.int b)) j = (fun _ => Value.int b) j := fun j hj => by
  match j, hj with
  | 0, _ => rfl
  | 1, _ => rfl
  | 2, _ => rfl
  | 3, _ => rfl
  | 4, _ => rfl
  | 5, _ => rfl
  | 6, _ => rfl
  | 7, _ => rfl
  | 8, _ => rfl
  | 9, _ => rfl
  | 10, _ => rfl
  | 11, _ => rfl
  | 12, _ => rfl
  | 13, _ => rfl
  | 14, _ => rfl
  | 15, _ => rfl
  | n + 16, h => omega

theorem d2_0 : decode method_3_code 0 = .ok (.lload_n 0, 1) := by decide +kernel
theorem d2_1 : decode method_3_code 1 = .ok (.bipush 7, 2) := by decide +kernel
theorem d2_3 : decode method_3_code 3 = .ok (.lushr, 1) := by decide +kernel
theorem d2_4 : decode method_3_code 4 = .ok (.lconst 0, 1) := by decide +kernel
theorem d2_5 : decode method_3_code 5 = .ok (.lcmp, 1) := by decide +kernel
theorem d2_6 : decode method_3_code 6 = .ok (.ifCond .ne 5, 3) := by decide +kernel
theorem d2_9 : decode method_3_code 9 = .ok (.iconst 1, 1) := by decide +kernel
theorem d2_10 : decode method_3_code 10 = .ok (.ireturn, 1) := by decide +kernel
theorem d2_11 : decode method_3_code 11 = .ok (.lload_n 0, 1) := by decide +kernel
theorem d2_12 : decode method_3_code 12 = .ok (.bipush 14, 2) := by decide +kernel
theorem d2_14 : decode method_3_code 14 = .ok (.lushr, 1) := by decide +kernel
theorem d2_15 : decode method_3_code 15 = .ok (.lconst 0, 1) := by decide +kernel
theorem d2_16 : decode method_3_code 16 = .ok (.lcmp, 1) := by decide +kernel
theorem d2_17 : decode method_3_code 17 = .ok (.ifCond .ne 5, 3) := by decide +kernel
theorem d2_20 : decode method_3_code 20 = .ok (.iconst 2, 1) := by decide +kernel
theorem d2_21 : decode method_3_code 21 = .ok (.ireturn, 1) := by decide +kernel
theorem d2_22 : decode method_3_code 22 = .ok (.lload_n 0, 1) := by decide +kernel
theorem d2_23 : decode method_3_code 23 = .ok (.bipush 21, 2) := by decide +kernel
theorem d2_25 : decode method_3_code 25 = .ok (.lushr, 1) := by decide +kernel
theorem d2_26 : decode method_3_code 26 = .ok (.lconst 0, 1) := by decide +kernel
theorem d2_27 : decode method_3_code 27 = .ok (.lcmp, 1) := by decide +kernel
theorem d2_28 : decode method_3_code 28 = .ok (.ifCond .ne 5, 3) := by decide +kernel
theorem d2_31 : decode method_3_code 31 = .ok (.iconst 3, 1) := by decide +kernel
theorem d2_32 : decode method_3_code 32 = .ok (.ireturn, 1) := by decide +kernel
theorem d2_33 : decode method_3_code 33 = .ok (.lload_n 0, 1) := by decide +kernel
theorem d2_34 : decode method_3_code 34 = .ok (.bipush 28, 2) := by decide +kernel
theorem d2_36 : decode method_3_code 36 = .ok (.lushr, 1) := by decide +kernel
theorem d2_37 : decode method_3_code 37 = .ok (.lconst 0, 1) := by decide +kernel
theorem d2_38 : decode method_3_code 38 = .ok (.lcmp, 1) := by decide +kernel
theorem d2_39 : decode method_3_code 39 = .ok (.ifCond .ne 5, 3) := by decide +kernel
theorem d2_42 : decode method_3_code 42 = .ok (.iconst 4, 1) := by decide +kernel
theorem d2_43 : decode method_3_code 43 = .ok (.ireturn, 1) := by decide +kernel
theorem d2_44 : decode method_3_code 44 = .ok (.lload_n 0, 1) := by decide +kernel
theorem d2_45 : decode method_3_code 45 = .ok (.bipush 35, 2) := by decide +kernel
theorem d2_47 : decode method_3_code 47 = .ok (.lushr, 1) := by decide +kernel
theorem d2_48 : decode method_3_code 48 = .ok (.lconst 0, 1) := by decide +kernel
theorem d2_49 : decode method_3_code 49 = .ok (.lcmp, 1) := by decide +kernel
theorem d2_50 : decode method_3_code 50 = .ok (.ifCond .ne 5, 3) := by decide +kernel
theorem d2_53 : decode method_3_code 53 = .ok (.iconst 5, 1) := by decide +kernel
theorem d2_54 : decode method_3_code 54 = .ok (.ireturn, 1) := by decide +kernel
theorem d2_55 : decode method_3_code 55 = .ok (.lload_n 0, 1) := by decide +kernel
theorem d2_56 : decode method_3_code 56 = .ok (.bipush 42, 2) := by decide +kernel
theorem d2_58 : decode method_3_code 58 = .ok (.lushr, 1) := by decide +kernel
theorem d2_59 : decode method_3_code 59 = .ok (.lconst 0, 1) := by decide +kernel
theorem d2_60 : decode method_3_code 60 = .ok (.lcmp, 1) := by decide +kernel
theorem d2_61 : decode method_3_code 61 = .ok (.ifCond .ne 6, 3) := by decide +kernel
theorem d2_64 : decode method_3_code 64 = .ok (.bipush 6, 2) := by decide +kernel
theorem d2_66 : decode method_3_code 66 = .ok (.ireturn, 1) := by decide +kernel
theorem d2_67 : decode method_3_code 67 = .ok (.lload_n 0, 1) := by decide +kernel
theorem d2_68 : decode method_3_code 68 = .ok (.bipush 49, 2) := by decide +kernel
theorem d2_70 : decode method_3_code 70 = .ok (.lushr, 1) := by decide +kernel
theorem d2_71 : decode method_3_code 71 = .ok (.lconst 0, 1) := by decide +kernel
theorem d2_72 : decode method_3_code 72 = .ok (.lcmp, 1) := by decide +kernel
theorem d2_73 : decode method_3_code 73 = .ok (.ifCond .ne 6, 3) := by decide +kernel
theorem d2_76 : decode method_3_code 76 = .ok (.bipush 7, 2) := by decide +kernel
theorem d2_78 : decode method_3_code 78 = .ok (.ireturn, 1) := by decide +kernel
theorem d2_79 : decode method_3_code 79 = .ok (.lload_n 0, 1) := by decide +kernel
theorem d2_80 : decode method_3_code 80 = .ok (.bipush 56, 2) := by decide +kernel
theorem d2_82 : decode method_3_code 82 = .ok (.lushr, 1) := by decide +kernel
theorem d2_83 : decode method_3_code 83 = .ok (.lconst 0, 1) := by decide +kernel
theorem d2_84 : decode method_3_code 84 = .ok (.lcmp, 1) := by decide +kernel
theorem d2_85 : decode method_3_code 85 = .ok (.ifCond .ne 6, 3) := by decide +kernel
theorem d2_88 : decode method_3_code 88 = .ok (.bipush 8, 2) := by decide +kernel
theorem d2_90 : decode method_3_code 90 = .ok (.ireturn, 1) := by decide +kernel
theorem d2_91 : decode method_3_code 91 = .ok (.lload_n 0, 1) := by decide +kernel
theorem d2_92 : decode method_3_code 92 = .ok (.bipush 63, 2) := by decide +kernel
theorem d2_94 : decode method_3_code 94 = .ok (.lushr, 1) := by decide +kernel
theorem d2_95 : decode method_3_code 95 = .ok (.lconst 0, 1) := by decide +kernel
theorem d2_96 : decode method_3_code 96 = .ok (.lcmp, 1) := by decide +kernel
theorem d2_97 : decode method_3_code 97 = .ok (.ifCond .ne 6, 3) := by decide +kernel
theorem d2_100 : decode method_3_code 100 = .ok (.bipush 9, 2) := by decide +kernel
theorem d2_102 : decode method_3_code 102 = .ok (.ireturn, 1) := by decide +kernel
theorem d2_103 : decode method_3_code 103 = .ok (.bipush 10, 2) := by decide +kernel
theorem d2_105 : decode method_3_code 105 = .ok (.ireturn, 1) := by decide +kernel
theorem pn_own_lenOf : plainName "com/example/xml_element_search/xmlelementsearch/VarLongPutPinLaw" = true := by first | (simp [plainName, overriddenIn]; done) | decide +kernel
theorem ef_own_lenOf (m : MethodId) (x0 : Int64) : entryFrame m #[(.long x0)] 2 = mkF m 0 #[.val (.long x0), .second] [] := by first | (simp [entryFrame, mkF, argsToLocals, Value.category]; done) | rfl
def Q_own_lenOf (Z : State) (q : Int64)  (h0 : Heap) (n0 : Nat) (v : Option Value) (h : Heap) (L : List Loc) : Prop := v = some (.int (own_len q)) ∧ Fr n0 L ∧ h = h0
set_option maxRecDepth 65536 in
set_option maxHeartbeats 40000000 in
theorem own_lenOf (l : Launch) (Z : State) (a0 : Array Value) (hw : ∀ d ∈ tables_1, d.before a0 Z = true) (ws : List Jvm.Cond) (q : Int64)  (h0 : Heap) (n0 : Nat) (Z0 : n0 ≤ h0.size)  :
    MetFree l (⟨"com/example/xml_element_search/xmlelementsearch/VarLongPutPinLaw", "lenOf", "(J)I"⟩ : MethodName) (head1 (Jvm.Cond.code (⟨"com/example/xml_element_search/xmlelementsearch/VarLongPutPinLaw", "lenOf", "(J)I"⟩ : MethodName) method_3_code 2 (some .int) :: ws) ({ frames := 0, cells := 0, slots := 0, locals := 0 } : Room)) (fun a U => a = #[(.long q)] ∧ Z.Warmed39 U.vm ∧ U.heap = h0) (fun _ _ _ _ _ => True) (fun _ U o U' => ∃ v L, o = .returned v ∧ Q_own_lenOf Z q  h0 n0 v U'.heap L ∧ FrameEnd U o U' L ({ frames := 0, cells := 0, slots := 0, locals := 0 } : Room).cells ({ frames := 0, cells := 0, slots := 0, locals := 0 } : Room).slots) := by
  refine MetFree.of_bodySF (plainFor_of_name pn_own_lenOf) hisR ?_
  intro p e s m args below meth c s₁ Bd hml0 hP hK
  obtain ⟨rfl, hZ, hh⟩ := hP
  have hx := Bd.exec
  have hby := Bd.bytes
  have hml : c.maxLocals = 2 := hml0
  have hown : s.vm.findClass "com/example/xml_element_search/xmlelementsearch/VarLongPutPinLaw" = some m.cls := findClass_of_methodNamed Bd.named
  have hnm := (name_of_methodNamed Bd.named Bd.method).1
  have X0 : Stand p l e ({ frames := 0, cells := 0, slots := 0, locals := 0 } : Room) s m #[(.long q)] below meth c s₁ [] 0 0 := Stand.of_body Bd
  have e0 : s₁.heap = h0 := by rw [← hh, Bd.state]; rfl
  have N0 := Fr.nil n0
  have pre0 : ∀ t, Steps p.tables e below (s₁.setTop (mkF m 0 #[.val (.long q), .second] [])) t → Steps p.tables e below (s₁.setTop (entryFrame m #[(.long q)] 2)) t := fun t k => castTop (ef_own_lenOf m (q)) k
  by_cases hp0 : (XT.ushrL q (7 : Int32)) = (0 : Int64)
  · obtain ⟨fs, hr, hrun, hended, hW, hsame⟩ := X0.leave (v := some (.int (1 : Int32))) (fun h => by rw [Bd.returns] at h; cases h)
    refine ⟨_, _, pre0 _ ?_, hrun, hended, _, _, rfl, ?_, ⟨_, rfl⟩, hW, hsame.mono (by decide) (by decide)⟩
    · show Steps p.tables e below (s₁.setTop (mkF m 0 #[.val (.long q), .second] [])) _
      refine XT.lloadN X0.here hx rfl (hb hby d2_0) rfl ?_
      show Steps p.tables e below (s₁.setTop (mkF m 1 #[.val (.long q), .second] [(.long q)])) _
      refine XS.bipush X0.here hx rfl (hb hby d2_1) ?_
      show Steps p.tables e below (s₁.setTop (mkF m 3 #[.val (.long q), .second] [(.int (7 : Int32)), (.long q)])) _
      refine XT.lushr X0.here hx rfl (hb hby d2_3) rfl ?_
      show Steps p.tables e below (s₁.setTop (mkF m 4 #[.val (.long q), .second] [(.long (XT.ushrL q (7 : Int32)))])) _
      refine XT.lconst X0.here hx rfl (hb hby d2_4) ?_
      show Steps p.tables e below (s₁.setTop (mkF m 5 #[.val (.long q), .second] [(.long (0 : Int64)), (.long (XT.ushrL q (7 : Int32)))])) _
      refine XT.lcmp X0.here hx rfl (hb hby d2_5) rfl ?_
      show Steps p.tables e below (s₁.setTop (mkF m 6 #[.val (.long q), .second] [(.int (XT.cmpL (XT.ushrL q (7 : Int32)) (0 : Int64)))])) _
      refine XS.ifNo X0.here hx rfl (hb hby d2_6) rfl (XT.ll_ne_f hp0) ?_
      show Steps p.tables e below (s₁.setTop (mkF m 9 #[.val (.long q), .second] [])) _
      refine XS.iconst X0.here hx rfl (hb hby d2_9) ?_
      show Steps p.tables e below (s₁.setTop (mkF m 10 #[.val (.long q), .second] [(.int (1 : Int32))])) _
      exact retI X0 hx Bd.returns (hb hby d2_10) hr
    · show Q_own_lenOf Z q  h0 n0 _ s₁.heap _
      rw [e0]
      exact ⟨by unfold own_len; rw [if_pos hp0], N0, rfl⟩
  · by_cases hp1 : (XT.ushrL q (14 : Int32)) = (0 : Int64)
    · obtain ⟨fs, hr, hrun, hended, hW, hsame⟩ := X0.leave (v := some (.int (2 : Int32))) (fun h => by rw [Bd.returns] at h; cases h)
      refine ⟨_, _, pre0 _ ?_, hrun, hended, _, _, rfl, ?_, ⟨_, rfl⟩, hW, hsame.mono (by decide) (by decide)⟩
      · show Steps p.tables e below (s₁.setTop (mkF m 0 #[.val (.long q), .second] [])) _
        refine XT.lloadN X0.here hx rfl (hb hby d2_0) rfl ?_
        show Steps p.tables e below (s₁.setTop (mkF m 1 #[.val (.long q), .second] [(.long q)])) _
        refine XS.bipush X0.here hx rfl (hb hby d2_1) ?_
        show Steps p.tables e below (s₁.setTop (mkF m 3 #[.val (.long q), .second] [(.int (7 : Int32)), (.long q)])) _
        refine XT.lushr X0.here hx rfl (hb hby d2_3) rfl ?_
        show Steps p.tables e below (s₁.setTop (mkF m 4 #[.val (.long q), .second] [(.long (XT.ushrL q (7 : Int32)))])) _
        refine XT.lconst X0.here hx rfl (hb hby d2_4) ?_
        show Steps p.tables e below (s₁.setTop (mkF m 5 #[.val (.long q), .second] [(.long (0 : Int64)), (.long (XT.ushrL q (7 : Int32)))])) _
        refine XT.lcmp X0.here hx rfl (hb hby d2_5) rfl ?_
        show Steps p.tables e below (s₁.setTop (mkF m 6 #[.val (.long q), .second] [(.int (XT.cmpL (XT.ushrL q (7 : Int32)) (0 : Int64)))])) _
        refine XS.ifYes X0.here hx rfl (pc0 := 6) (pc' := 11) rfl (hb hby d2_6) rfl (XT.ll_ne_t hp0) (by decide) (by decide) ?_
        show Steps p.tables e below (s₁.setTop (mkF m 11 #[.val (.long q), .second] [])) _
        refine XT.lloadN X0.here hx rfl (hb hby d2_11) rfl ?_
        show Steps p.tables e below (s₁.setTop (mkF m 12 #[.val (.long q), .second] [(.long q)])) _
        refine XS.bipush X0.here hx rfl (hb hby d2_12) ?_
        show Steps p.tables e below (s₁.setTop (mkF m 14 #[.val (.long q), .second] [(.int (14 : Int32)), (.long q)])) _
        refine XT.lushr X0.here hx rfl (hb hby d2_14) rfl ?_
        show Steps p.tables e below (s₁.setTop (mkF m 15 #[.val (.long q), .second] [(.long (XT.ushrL q (14 : Int32)))])) _
        refine XT.lconst X0.here hx rfl (hb hby d2_15) ?_
        show Steps p.tables e below (s₁.setTop (mkF m 16 #[.val (.long q), .second] [(.long (0 : Int64)), (.long (XT.ushrL q (14 : Int32)))])) _
        refine XT.lcmp X0.here hx rfl (hb hby d2_16) rfl ?_
        show Steps p.tables e below (s₁.setTop (mkF m 17 #[.val (.long q), .second] [(.int (XT.cmpL (XT.ushrL q (14 : Int32)) (0 : Int64)))])) _
        refine XS.ifNo X0.here hx rfl (hb hby d2_17) rfl (XT.ll_ne_f hp1) ?_
        show Steps p.tables e below (s₁.setTop (mkF m 20 #[.val (.long q), .second] [])) _
        refine XS.iconst X0.here hx rfl (hb hby d2_20) ?_
        show Steps p.tables e below (s₁.setTop (mkF m 21 #[.val (.long q), .second] [(.int (2 : Int32))])) _
        exact retI X0 hx Bd.returns (hb hby d2_21) hr
      · show Q_own_lenOf Z q  h0 n0 _ s₁.heap _
        rw [e0]
        exact ⟨by unfold own_len; rw [if_neg hp0, if_pos hp1], N0, rfl⟩
    · by_cases hp2 : (XT.ushrL q (21 : Int32)) = (0 : Int64)
      · obtain ⟨fs, hr, hrun, hended, hW, hsame⟩ := X0.leave (v := some (.int (3 : Int32))) (fun h => by rw [Bd.returns] at h; cases h)
        refine ⟨_, _, pre0 _ ?_, hrun, hended, _, _, rfl, ?_, ⟨_, rfl⟩, hW, hsame.mono (by decide) (by decide)⟩
        · show Steps p.tables e below (s₁.setTop (mkF m 0 #[.val (.long q), .second] [])) _
          refine XT.lloadN X0.here hx rfl (hb hby d2_0) rfl ?_
          show Steps p.tables e below (s₁.setTop (mkF m 1 #[.val (.long q), .second] [(.long q)])) _
          refine XS.bipush X0.here hx rfl (hb hby d2_1) ?_
          show Steps p.tables e below (s₁.setTop (mkF m 3 #[.val (.long q), .second] [(.int (7 : Int32)), (.long q)])) _
          refine XT.lushr X0.here hx rfl (hb hby d2_3) rfl ?_
          show Steps p.tables e below (s₁.setTop (mkF m 4 #[.val (.long q), .second] [(.long (XT.ushrL q (7 : Int32)))])) _
          refine XT.lconst X0.here hx rfl (hb hby d2_4) ?_
          show Steps p.tables e below (s₁.setTop (mkF m 5 #[.val (.long q), .second] [(.long (0 : Int64)), (.long (XT.ushrL q (7 : Int32)))])) _
          refine XT.lcmp X0.here hx rfl (hb hby d2_5) rfl ?_
          show Steps p.tables e below (s₁.setTop (mkF m 6 #[.val (.long q), .second] [(.int (XT.cmpL (XT.ushrL q (7 : Int32)) (0 : Int64)))])) _
          refine XS.ifYes X0.here hx rfl (pc0 := 6) (pc' := 11) rfl (hb hby d2_6) rfl (XT.ll_ne_t hp0) (by decide) (by decide) ?_
          show Steps p.tables e below (s₁.setTop (mkF m 11 #[.val (.long q), .second] [])) _
          refine XT.lloadN X0.here hx rfl (hb hby d2_11) rfl ?_
          show Steps p.tables e below (s₁.setTop (mkF m 12 #[.val (.long q), .second] [(.long q)])) _
          refine XS.bipush X0.here hx rfl (hb hby d2_12) ?_
          show Steps p.tables e below (s₁.setTop (mkF m 14 #[.val (.long q), .second] [(.int (14 : Int32)), (.long q)])) _
          refine XT.lushr X0.here hx rfl (hb hby d2_14) rfl ?_
          show Steps p.tables e below (s₁.setTop (mkF m 15 #[.val (.long q), .second] [(.long (XT.ushrL q (14 : Int32)))])) _
          refine XT.lconst X0.here hx rfl (hb hby d2_15) ?_
          show Steps p.tables e below (s₁.setTop (mkF m 16 #[.val (.long q), .second] [(.long (0 : Int64)), (.long (XT.ushrL q (14 : Int32)))])) _
          refine XT.lcmp X0.here hx rfl (hb hby d2_16) rfl ?_
          show Steps p.tables e below (s₁.setTop (mkF m 17 #[.val (.long q), .second] [(.int (XT.cmpL (XT.ushrL q (14 : Int32)) (0 : Int64)))])) _
          refine XS.ifYes X0.here hx rfl (pc0 := 17) (pc' := 22) rfl (hb hby d2_17) rfl (XT.ll_ne_t hp1) (by decide) (by decide) ?_
          show Steps p.tables e below (s₁.setTop (mkF m 22 #[.val (.long q), .second] [])) _
          refine XT.lloadN X0.here hx rfl (hb hby d2_22) rfl ?_
          show Steps p.tables e below (s₁.setTop (mkF m 23 #[.val (.long q), .second] [(.long q)])) _
          refine XS.bipush X0.here hx rfl (hb hby d2_23) ?_
          show Steps p.tables e below (s₁.setTop (mkF m 25 #[.val (.long q), .second] [(.int (21 : Int32)), (.long q)])) _
          refine XT.lushr X0.here hx rfl (hb hby d2_25) rfl ?_
          show Steps p.tables e below (s₁.setTop (mkF m 26 #[.val (.long q), .second] [(.long (XT.ushrL q (21 : Int32)))])) _
          refine XT.lconst X0.here hx rfl (hb hby d2_26) ?_
          show Steps p.tables e below (s₁.setTop (mkF m 27 #[.val (.long q), .second] [(.long (0 : Int64)), (.long (XT.ushrL q (21 : Int32)))])) _
          refine XT.lcmp X0.here hx rfl (hb hby d2_27) rfl ?_
          show Steps p.tables e below (s₁.setTop (mkF m 28 #[.val (.long q), .second] [(.int (XT.cmpL (XT.ushrL q (21 : Int32)) (0 : Int64)))])) _
          refine XS.ifNo X0.here hx rfl (hb hby d2_28) rfl (XT.ll_ne_f hp2) ?_
          show Steps p.tables e below (s₁.setTop (mkF m 31 #[.val (.long q), .second] [])) _
          refine XS.iconst X0.here hx rfl (hb hby d2_31) ?_
          show Steps p.tables e below (s₁.setTop (mkF m 32 #[.val (.long q), .second] [(.int (3 : Int32))])) _
          exact retI X0 hx Bd.returns (hb hby d2_32) hr
        · show Q_own_lenOf Z q  h0 n0 _ s₁.heap _
          rw [e0]
          exact ⟨by unfold own_len; rw [if_neg hp0, if_neg hp1, if_pos hp2], N0, rfl⟩
      · by_cases hp3 : (XT.ushrL q (28 : Int32)) = (0 : Int64)
        · obtain ⟨fs, hr, hrun, hended, hW, hsame⟩ := X0.leave (v := some (.int (4 : Int32))) (fun h => by rw [Bd.returns] at h; cases h)
          refine ⟨_, _, pre0 _ ?_, hrun, hended, _, _, rfl, ?_, ⟨_, rfl⟩, hW, hsame.mono (by decide) (by decide)⟩
          · show Steps p.tables e below (s₁.setTop (mkF m 0 #[.val (.long q), .second] [])) _
            refine XT.lloadN X0.here hx rfl (hb hby d2_0) rfl ?_
            show Steps p.tables e below (s₁.setTop (mkF m 1 #[.val (.long q), .second] [(.long q)])) _
            refine XS.bipush X0.here hx rfl (hb hby d2_1) ?_
            show Steps p.tables e below (s₁.setTop (mkF m 3 #[.val (.long q), .second] [(.int (7 : Int32)), (.long q)])) _
            refine XT.lushr X0.here hx rfl (hb hby d2_3) rfl ?_
            show Steps p.tables e below (s₁.setTop (mkF m 4 #[.val (.long q), .second] [(.long (XT.ushrL q (7 : Int32)))])) _
            refine XT.lconst X0.here hx rfl (hb hby d2_4) ?_
            show Steps p.tables e below (s₁.setTop (mkF m 5 #[.val (.long q), .second] [(.long (0 : Int64)), (.long (XT.ushrL q (7 : Int32)))])) _
            refine XT.lcmp X0.here hx rfl (hb hby d2_5) rfl ?_
            show Steps p.tables e below (s₁.setTop (mkF m 6 #[.val (.long q), .second] [(.int (XT.cmpL (XT.ushrL q (7 : Int32)) (0 : Int64)))])) _
            refine XS.ifYes X0.here hx rfl (pc0 := 6) (pc' := 11) rfl (hb hby d2_6) rfl (XT.ll_ne_t hp0) (by decide) (by decide) ?_
            show Steps p.tables e below (s₁.setTop (mkF m 11 #[.val (.long q), .second] [])) _
            refine XT.lloadN X0.here hx rfl (hb hby d2_11) rfl ?_
            show Steps p.tables e below (s₁.setTop (mkF m 12 #[.val (.long q), .second] [(.long q)])) _
            refine XS.bipush X0.here hx rfl (hb hby d2_12) ?_
            show Steps p.tables e below (s₁.setTop (mkF m 14 #[.val (.long q), .second] [(.int (14 : Int32)), (.long q)])) _
            refine XT.lushr X0.here hx rfl (hb hby d2_14) rfl ?_
            show Steps p.tables e below (s₁.setTop (mkF m 15 #[.val (.long q), .second] [(.long (XT.ushrL q (14 : Int32)))])) _
            refine XT.lconst X0.here hx rfl (hb hby d2_15) ?_
            show Steps p.tables e below (s₁.setTop (mkF m 16 #[.val (.long q), .second] [(.long (0 : Int64)), (.long (XT.ushrL q (14 : Int32)))])) _
            refine XT.lcmp X0.here hx rfl (hb hby d2_16) rfl ?_
            show Steps p.tables e below (s₁.setTop (mkF m 17 #[.val (.long q), .second] [(.int (XT.cmpL (XT.ushrL q (14 : Int32)) (0 : Int64)))])) _
            refine XS.ifYes X0.here hx rfl (pc0 := 17) (pc' := 22) rfl (hb hby d2_17) rfl (XT.ll_ne_t hp1) (by decide) (by decide) ?_
            show Steps p.tables e below (s₁.setTop (mkF m 22 #[.val (.long q), .second] [])) _
            refine XT.lloadN X0.here hx rfl (hb hby d2_22) rfl ?_
            show Steps p.tables e below (s₁.setTop (mkF m 23 #[.val (.long q), .second] [(.long q)])) _
            refine XS.bipush X0.here hx rfl (hb hby d2_23) ?_
            show Steps p.tables e below (s₁.setTop (mkF m 25 #[.val (.long q), .second] [(.int (21 : Int32)), (.long q)])) _
            refine XT.lushr X0.here hx rfl (hb hby d2_25) rfl ?_
            show Steps p.tables e below (s₁.setTop (mkF m 26 #[.val (.long q), .second] [(.long (XT.ushrL q (21 : Int32)))])) _
            refine XT.lconst X0.here hx rfl (hb hby d2_26) ?_
            show Steps p.tables e below (s₁.setTop (mkF m 27 #[.val (.long q), .second] [(.long (0 : Int64)), (.long (XT.ushrL q (21 : Int32)))])) _
            refine XT.lcmp X0.here hx rfl (hb hby d2_27) rfl ?_
            show Steps p.tables e below (s₁.setTop (mkF m 28 #[.val (.long q), .second] [(.int (XT.cmpL (XT.ushrL q (21 : Int32)) (0 : Int64)))])) _
            refine XS.ifYes X0.here hx rfl (pc0 := 28) (pc' := 33) rfl (hb hby d2_28) rfl (XT.ll_ne_t hp2) (by decide) (by decide) ?_
            show Steps p.tables e below (s₁.setTop (mkF m 33 #[.val (.long q), .second] [])) _
            refine XT.lloadN X0.here hx rfl (hb hby d2_33) rfl ?_
            show Steps p.tables e below (s₁.setTop (mkF m 34 #[.val (.long q), .second] [(.long q)])) _
            refine XS.bipush X0.here hx rfl (hb hby d2_34) ?_
            show Steps p.tables e below (s₁.setTop (mkF m 36 #[.val (.long q), .second] [(.int (28 : Int32)), (.long q)])) _
            refine XT.lushr X0.here hx rfl (hb hby d2_36) rfl ?_
            show Steps p.tables e below (s₁.setTop (mkF m 37 #[.val (.long q), .second] [(.long (XT.ushrL q (28 : Int32)))])) _
            refine XT.lconst X0.here hx rfl (hb hby d2_37) ?_
            show Steps p.tables e below (s₁.setTop (mkF m 38 #[.val (.long q), .second] [(.long (0 : Int64)), (.long (XT.ushrL q (28 : Int32)))])) _
            refine XT.lcmp X0.here hx rfl (hb hby d2_38) rfl ?_
            show Steps p.tables e below (s₁.setTop (mkF m 39 #[.val (.long q), .second] [(.int (XT.cmpL (XT.ushrL q (28 : Int32)) (0 : Int64)))])) _
            refine XS.ifNo X0.here hx rfl (hb hby d2_39) rfl (XT.ll_ne_f hp3) ?_
            show Steps p.tables e below (s₁.setTop (mkF m 42 #[.val (.long q), .second] [])) _
            refine XS.iconst X0.here hx rfl (hb hby d2_42) ?_
            show Steps p.tables e below (s₁.setTop (mkF m 43 #[.val (.long q), .second] [(.int (4 : Int32))])) _
            exact retI X0 hx Bd.returns (hb hby d2_43) hr
          · show Q_own_lenOf Z q  h0 n0 _ s₁.heap _
            rw [e0]
            exact ⟨by unfold own_len; rw [if_neg hp0, if_neg hp1, if_neg hp2, if_pos hp3], N0, rfl⟩
        · by_cases hp4 : (XT.ushrL q (35 : Int32)) = (0 : Int64)
          · obtain ⟨fs, hr, hrun, hended, hW, hsame⟩ := X0.leave (v := some (.int (5 : Int32))) (fun h => by rw [Bd.returns] at h; cases h)
            refine ⟨_, _, pre0 _ ?_, hrun, hended, _, _, rfl, ?_, ⟨_, rfl⟩, hW, hsame.mono (by decide) (by decide)⟩
            · show Steps p.tables e below (s₁.setTop (mkF m 0 #[.val (.long q), .second] [])) _
              refine XT.lloadN X0.here hx rfl (hb hby d2_0) rfl ?_
              show Steps p.tables e below (s₁.setTop (mkF m 1 #[.val (.long q), .second] [(.long q)])) _
              refine XS.bipush X0.here hx rfl (hb hby d2_1) ?_
              show Steps p.tables e below (s₁.setTop (mkF m 3 #[.val (.long q), .second] [(.int (7 : Int32)), (.long q)])) _
              refine XT.lushr X0.here hx rfl (hb hby d2_3) rfl ?_
              show Steps p.tables e below (s₁.setTop (mkF m 4 #[.val (.long q), .second] [(.long (XT.ushrL q (7 : Int32)))])) _
              refine XT.lconst X0.here hx rfl (hb hby d2_4) ?_
              show Steps p.tables e below (s₁.setTop (mkF m 5 #[.val (.long q), .second] [(.long (0 : Int64)), (.long (XT.ushrL q (7 : Int32)))])) _
              refine XT.lcmp X0.here hx rfl (hb hby d2_5) rfl ?_
              show Steps p.tables e below (s₁.setTop (mkF m 6 #[.val (.long q), .second] [(.int (XT.cmpL (XT.ushrL q (7 : Int32)) (0 : Int64)))])) _
              refine XS.ifYes X0.here hx rfl (pc0 := 6) (pc' := 11) rfl (hb hby d2_6) rfl (XT.ll_ne_t hp0) (by decide) (by decide) ?_
              show Steps p.tables e below (s₁.setTop (mkF m 11 #[.val (.long q), .second] [])) _
              refine XT.lloadN X0.here hx rfl (hb hby d2_11) rfl ?_
              show Steps p.tables e below (s₁.setTop (mkF m 12 #[.val (.long q), .second] [(.long q)])) _
              refine XS.bipush X0.here hx rfl (hb hby d2_12) ?_
              show Steps p.tables e below (s₁.setTop (mkF m 14 #[.val (.long q), .second] [(.int (14 : Int32)), (.long q)])) _
              refine XT.lushr X0.here hx rfl (hb hby d2_14) rfl ?_
              show Steps p.tables e below (s₁.setTop (mkF m 15 #[.val (.long q), .second] [(.long (XT.ushrL q (14 : Int32)))])) _
              refine XT.lconst X0.here hx rfl (hb hby d2_15) ?_
              show Steps p.tables e below (s₁.setTop (mkF m 16 #[.val (.long q), .second] [(.long (0 : Int64)), (.long (XT.ushrL q (14 : Int32)))])) _
              refine XT.lcmp X0.here hx rfl (hb hby d2_16) rfl ?_
              show Steps p.tables e below (s₁.setTop (mkF m 17 #[.val (.long q), .second] [(.int (XT.cmpL (XT.ushrL q (14 : Int32)) (0 : Int64)))])) _
              refine XS.ifYes X0.here hx rfl (pc0 := 17) (pc' := 22) rfl (hb hby d2_17) rfl (XT.ll_ne_t hp1) (by decide) (by decide) ?_
              show Steps p.tables e below (s₁.setTop (mkF m 22 #[.val (.long q), .second] [])) _
              refine XT.lloadN X0.here hx rfl (hb hby d2_22) rfl ?_
              show Steps p.tables e below (s₁.setTop (mkF m 23 #[.val (.long q), .second] [(.long q)])) _
              refine XS.bipush X0.here hx rfl (hb hby d2_23) ?_
              show Steps p.tables e below (s₁.setTop (mkF m 25 #[.val (.long q), .second] [(.int (21 : Int32)), (.long q)])) _
              refine XT.lushr X0.here hx rfl (hb hby d2_25) rfl ?_
              show Steps p.tables e below (s₁.setTop (mkF m 26 #[.val (.long q), .second] [(.long (XT.ushrL q (21 : Int32)))])) _
              refine XT.lconst X0.here hx rfl (hb hby d2_26) ?_
              show Steps p.tables e below (s₁.setTop (mkF m 27 #[.val (.long q), .second] [(.long (0 : Int64)), (.long (XT.ushrL q (21 : Int32)))])) _
              refine XT.lcmp X0.here hx rfl (hb hby d2_27) rfl ?_
              show Steps p.tables e below (s₁.setTop (mkF m 28 #[.val (.long q), .second] [(.int (XT.cmpL (XT.ushrL q (21 : Int32)) (0 : Int64)))])) _
              refine XS.ifYes X0.here hx rfl (pc0 := 28) (pc' := 33) rfl (hb hby d2_28) rfl (XT.ll_ne_t hp2) (by decide) (by decide) ?_
              show Steps p.tables e below (s₁.setTop (mkF m 33 #[.val (.long q), .second] [])) _
              refine XT.lloadN X0.here hx rfl (hb hby d2_33) rfl ?_
              show Steps p.tables e below (s₁.setTop (mkF m 34 #[.val (.long q), .second] [(.long q)])) _
              refine XS.bipush X0.here hx rfl (hb hby d2_34) ?_
              show Steps p.tables e below (s₁.setTop (mkF m 36 #[.val (.long q), .second] [(.int (28 : Int32)), (.long q)])) _
              refine XT.lushr X0.here hx rfl (hb hby d2_36) rfl ?_
              show Steps p.tables e below (s₁.setTop (mkF m 37 #[.val (.long q), .second] [(.long (XT.ushrL q (28 : Int32)))])) _
              refine XT.lconst X0.here hx rfl (hb hby d2_37) ?_
              show Steps p.tables e below (s₁.setTop (mkF m 38 #[.val (.long q), .second] [(.long (0 : Int64)), (.long (XT.ushrL q (28 : Int32)))])) _
              refine XT.lcmp X0.here hx rfl (hb hby d2_38) rfl ?_
              show Steps p.tables e below (s₁.setTop (mkF m 39 #[.val (.long q), .second] [(.int (XT.cmpL (XT.ushrL q (28 : Int32)) (0 : Int64)))])) _
              refine XS.ifYes X0.here hx rfl (pc0 := 39) (pc' := 44) rfl (hb hby d2_39) rfl (XT.ll_ne_t hp3) (by decide) (by decide) ?_
              show Steps p.tables e below (s₁.setTop (mkF m 44 #[.val (.long q), .second] [])) _
              refine XT.lloadN X0.here hx rfl (hb hby d2_44) rfl ?_
              show Steps p.tables e below (s₁.setTop (mkF m 45 #[.val (.long q), .second] [(.long q)])) _
              refine XS.bipush X0.here hx rfl (hb hby d2_45) ?_
              show Steps p.tables e below (s₁.setTop (mkF m 47 #[.val (.long q), .second] [(.int (35 : Int32)), (.long q)])) _
              refine XT.lushr X0.here hx rfl (hb hby d2_47) rfl ?_
              show Steps p.tables e below (s₁.setTop (mkF m 48 #[.val (.long q), .second] [(.long (XT.ushrL q (35 : Int32)))])) _
              refine XT.lconst X0.here hx rfl (hb hby d2_48) ?_
              show Steps p.tables e below (s₁.setTop (mkF m 49 #[.val (.long q), .second] [(.long (0 : Int64)), (.long (XT.ushrL q (35 : Int32)))])) _
              refine XT.lcmp X0.here hx rfl (hb hby d2_49) rfl ?_
              show Steps p.tables e below (s₁.setTop (mkF m 50 #[.val (.long q), .second] [(.int (XT.cmpL (XT.ushrL q (35 : Int32)) (0 : Int64)))])) _
              refine XS.ifNo X0.here hx rfl (hb hby d2_50) rfl (XT.ll_ne_f hp4) ?_
              show Steps p.tables e below (s₁.setTop (mkF m 53 #[.val (.long q), .second] [])) _
              refine XS.iconst X0.here hx rfl (hb hby d2_53) ?_
              show Steps p.tables e below (s₁.setTop (mkF m 54 #[.val (.long q), .second] [(.int (5 : Int32))])) _
              exact retI X0 hx Bd.returns (hb hby d2_54) hr
            · show Q_own_lenOf Z q  h0 n0 _ s₁.heap _
              rw [e0]
              exact ⟨by unfold own_len; rw [if_neg hp0, if_neg hp1, if_neg hp2, if_neg hp3, if_pos hp4], N0, rfl⟩
          · by_cases hp5 : (XT.ushrL q (42 : Int32)) = (0 : Int64)
            · obtain ⟨fs, hr, hrun, hended, hW, hsame⟩ := X0.leave (v := some (.int (6 : Int32))) (fun h => by rw [Bd.returns] at h; cases h)
              refine ⟨_, _, pre0 _ ?_, hrun, hended, _, _, rfl, ?_, ⟨_, rfl⟩, hW, hsame.mono (by decide) (by decide)⟩
              · show Steps p.tables e below (s₁.setTop (mkF m 0 #[.val (.long q), .second] [])) _
                refine XT.lloadN X0.here hx rfl (hb hby d2_0) rfl ?_
                show Steps p.tables e below (s₁.setTop (mkF m 1 #[.val (.long q), .second] [(.long q)])) _
                refine XS.bipush X0.here hx rfl (hb hby d2_1) ?_
                show Steps p.tables e below (s₁.setTop (mkF m 3 #[.val (.long q), .second] [(.int (7 : Int32)), (.long q)])) _
                refine XT.lushr X0.here hx rfl (hb hby d2_3) rfl ?_
                show Steps p.tables e below (s₁.setTop (mkF m 4 #[.val (.long q), .second] [(.long (XT.ushrL q (7 : Int32)))])) _
                refine XT.lconst X0.here hx rfl (hb hby d2_4) ?_
                show Steps p.tables e below (s₁.setTop (mkF m 5 #[.val (.long q), .second] [(.long (0 : Int64)), (.long (XT.ushrL q (7 : Int32)))])) _
                refine XT.lcmp X0.here hx rfl (hb hby d2_5) rfl ?_
                show Steps p.tables e below (s₁.setTop (mkF m 6 #[.val (.long q), .second] [(.int (XT.cmpL (XT.ushrL q (7 : Int32)) (0 : Int64)))])) _
                refine XS.ifYes X0.here hx rfl (pc0 := 6) (pc' := 11) rfl (hb hby d2_6) rfl (XT.ll_ne_t hp0) (by decide) (by decide) ?_
                show Steps p.tables e below (s₁.setTop (mkF m 11 #[.val (.long q), .second] [])) _
                refine XT.lloadN X0.here hx rfl (hb hby d2_11) rfl ?_
                show Steps p.tables e below (s₁.setTop (mkF m 12 #[.val (.long q), .second] [(.long q)])) _
                refine XS.bipush X0.here hx rfl (hb hby d2_12) ?_
                show Steps p.tables e below (s₁.setTop (mkF m 14 #[.val (.long q), .second] [(.int (14 : Int32)), (.long q)])) _
                refine XT.lushr X0.here hx rfl (hb hby d2_14) rfl ?_
                show Steps p.tables e below (s₁.setTop (mkF m 15 #[.val (.long q), .second] [(.long (XT.ushrL q (14 : Int32)))])) _
                refine XT.lconst X0.here hx rfl (hb hby d2_15) ?_
                show Steps p.tables e below (s₁.setTop (mkF m 16 #[.val (.long q), .second] [(.long (0 : Int64)), (.long (XT.ushrL q (14 : Int32)))])) _
                refine XT.lcmp X0.here hx rfl (hb hby d2_16) rfl ?_
                show Steps p.tables e below (s₁.setTop (mkF m 17 #[.val (.long q), .second] [(.int (XT.cmpL (XT.ushrL q (14 : Int32)) (0 : Int64)))])) _
                refine XS.ifYes X0.here hx rfl (pc0 := 17) (pc' := 22) rfl (hb hby d2_17) rfl (XT.ll_ne_t hp1) (by decide) (by decide) ?_
                show Steps p.tables e below (s₁.setTop (mkF m 22 #[.val (.long q), .second] [])) _
                refine XT.lloadN X0.here hx rfl (hb hby d2_22) rfl ?_
                show Steps p.tables e below (s₁.setTop (mkF m 23 #[.val (.long q), .second] [(.long q)])) _
                refine XS.bipush X0.here hx rfl (hb hby d2_23) ?_
                show Steps p.tables e below (s₁.setTop (mkF m 25 #[.val (.long q), .second] [(.int (21 : Int32)), (.long q)])) _
                refine XT.lushr X0.here hx rfl (hb hby d2_25) rfl ?_
                show Steps p.tables e below (s₁.setTop (mkF m 26 #[.val (.long q), .second] [(.long (XT.ushrL q (21 : Int32)))])) _
                refine XT.lconst X0.here hx rfl (hb hby d2_26) ?_
                show Steps p.tables e below (s₁.setTop (mkF m 27 #[.val (.long q), .second] [(.long (0 : Int64)), (.long (XT.ushrL q (21 : Int32)))])) _
                refine XT.lcmp X0.here hx rfl (hb hby d2_27) rfl ?_
                show Steps p.tables e below (s₁.setTop (mkF m 28 #[.val (.long q), .second] [(.int (XT.cmpL (XT.ushrL q (21 : Int32)) (0 : Int64)))])) _
                refine XS.ifYes X0.here hx rfl (pc0 := 28) (pc' := 33) rfl (hb hby d2_28) rfl (XT.ll_ne_t hp2) (by decide) (by decide) ?_
                show Steps p.tables e below (s₁.setTop (mkF m 33 #[.val (.long q), .second] [])) _
                refine XT.lloadN X0.here hx rfl (hb hby d2_33) rfl ?_
                show Steps p.tables e below (s₁.setTop (mkF m 34 #[.val (.long q), .second] [(.long q)])) _
                refine XS.bipush X0.here hx rfl (hb hby d2_34) ?_
                show Steps p.tables e below (s₁.setTop (mkF m 36 #[.val (.long q), .second] [(.int (28 : Int32)), (.long q)])) _
                refine XT.lushr X0.here hx rfl (hb hby d2_36) rfl ?_
                show Steps p.tables e below (s₁.setTop (mkF m 37 #[.val (.long q), .second] [(.long (XT.ushrL q (28 : Int32)))])) _
                refine XT.lconst X0.here hx rfl (hb hby d2_37) ?_
                show Steps p.tables e below (s₁.setTop (mkF m 38 #[.val (.long q), .second] [(.long (0 : Int64)), (.long (XT.ushrL q (28 : Int32)))])) _
                refine XT.lcmp X0.here hx rfl (hb hby d2_38) rfl ?_
                show Steps p.tables e below (s₁.setTop (mkF m 39 #[.val (.long q), .second] [(.int (XT.cmpL (XT.ushrL q (28 : Int32)) (0 : Int64)))])) _
                refine XS.ifYes X0.here hx rfl (pc0 := 39) (pc' := 44) rfl (hb hby d2_39) rfl (XT.ll_ne_t hp3) (by decide) (by decide) ?_
                show Steps p.tables e below (s₁.setTop (mkF m 44 #[.val (.long q), .second] [])) _
                refine XT.lloadN X0.here hx rfl (hb hby d2_44) rfl ?_
                show Steps p.tables e below (s₁.setTop (mkF m 45 #[.val (.long q), .second] [(.long q)])) _
                refine XS.bipush X0.here hx rfl (hb hby d2_45) ?_
                show Steps p.tables e below (s₁.setTop (mkF m 47 #[.val (.long q), .second] [(.int (35 : Int32)), (.long q)])) _
                refine XT.lushr X0.here hx rfl (hb hby d2_47) rfl ?_
                show Steps p.tables e below (s₁.setTop (mkF m 48 #[.val (.long q), .second] [(.long (XT.ushrL q (35 : Int32)))])) _
                refine XT.lconst X0.here hx rfl (hb hby d2_48) ?_
                show Steps p.tables e below (s₁.setTop (mkF m 49 #[.val (.long q), .second] [(.long (0 : Int64)), (.long (XT.ushrL q (35 : Int32)))])) _
                refine XT.lcmp X0.here hx rfl (hb hby d2_49) rfl ?_
                show Steps p.tables e below (s₁.setTop (mkF m 50 #[.val (.long q), .second] [(.int (XT.cmpL (XT.ushrL q (35 : Int32)) (0 : Int64)))])) _
                refine XS.ifYes X0.here hx rfl (pc0 := 50) (pc' := 55) rfl (hb hby d2_50) rfl (XT.ll_ne_t hp4) (by decide) (by decide) ?_
                show Steps p.tables e below (s₁.setTop (mkF m 55 #[.val (.long q), .second] [])) _
                refine XT.lloadN X0.here hx rfl (hb hby d2_55) rfl ?_
                show Steps p.tables e below (s₁.setTop (mkF m 56 #[.val (.long q), .second] [(.long q)])) _
                refine XS.bipush X0.here hx rfl (hb hby d2_56) ?_
                show Steps p.tables e below (s₁.setTop (mkF m 58 #[.val (.long q), .second] [(.int (42 : Int32)), (.long q)])) _
                refine XT.lushr X0.here hx rfl (hb hby d2_58) rfl ?_
                show Steps p.tables e below (s₁.setTop (mkF m 59 #[.val (.long q), .second] [(.long (XT.ushrL q (42 : Int32)))])) _
                refine XT.lconst X0.here hx rfl (hb hby d2_59) ?_
                show Steps p.tables e below (s₁.setTop (mkF m 60 #[.val (.long q), .second] [(.long (0 : Int64)), (.long (XT.ushrL q (42 : Int32)))])) _
                refine XT.lcmp X0.here hx rfl (hb hby d2_60) rfl ?_
                show Steps p.tables e below (s₁.setTop (mkF m 61 #[.val (.long q), .second] [(.int (XT.cmpL (XT.ushrL q (42 : Int32)) (0 : Int64)))])) _
                refine XS.ifNo X0.here hx rfl (hb hby d2_61) rfl (XT.ll_ne_f hp5) ?_
                show Steps p.tables e below (s₁.setTop (mkF m 64 #[.val (.long q), .second] [])) _
                refine XS.bipush X0.here hx rfl (hb hby d2_64) ?_
                show Steps p.tables e below (s₁.setTop (mkF m 66 #[.val (.long q), .second] [(.int (6 : Int32))])) _
                exact retI X0 hx Bd.returns (hb hby d2_66) hr
              · show Q_own_lenOf Z q  h0 n0 _ s₁.heap _
                rw [e0]
                exact ⟨by unfold own_len; rw [if_neg hp0, if_neg hp1, if_neg hp2, if_neg hp3, if_neg hp4, if_pos hp5], N0, rfl⟩
            · by_cases hp6 : (XT.ushrL q (49 : Int32)) = (0 : Int64)
              · obtain ⟨fs, hr, hrun, hended, hW, hsame⟩ := X0.leave (v := some (.int (7 : Int32))) (fun h => by rw [Bd.returns] at h; cases h)
                refine ⟨_, _, pre0 _ ?_, hrun, hended, _, _, rfl, ?_, ⟨_, rfl⟩, hW, hsame.mono (by decide) (by decide)⟩
                · show Steps p.tables e below (s₁.setTop (mkF m 0 #[.val (.long q), .second] [])) _
                  refine XT.lloadN X0.here hx rfl (hb hby d2_0) rfl ?_
                  show Steps p.tables e below (s₁.setTop (mkF m 1 #[.val (.long q), .second] [(.long q)])) _
                  refine XS.bipush X0.here hx rfl (hb hby d2_1) ?_
                  show Steps p.tables e below (s₁.setTop (mkF m 3 #[.val (.long q), .second] [(.int (7 : Int32)), (.long q)])) _
                  refine XT.lushr X0.here hx rfl (hb hby d2_3) rfl ?_
                  show Steps p.tables e below (s₁.setTop (mkF m 4 #[.val (.long q), .second] [(.long (XT.ushrL q (7 : Int32)))])) _
                  refine XT.lconst X0.here hx rfl (hb hby d2_4) ?_
                  show Steps p.tables e below (s₁.setTop (mkF m 5 #[.val (.long q), .second] [(.long (0 : Int64)), (.long (XT.ushrL q (7 : Int32)))])) _
                  refine XT.lcmp X0.here hx rfl (hb hby d2_5) rfl ?_
                  show Steps p.tables e below (s₁.setTop (mkF m 6 #[.val (.long q), .second] [(.int (XT.cmpL (XT.ushrL q (7 : Int32)) (0 : Int64)))])) _
                  refine XS.ifYes X0.here hx rfl (pc0 := 6) (pc' := 11) rfl (hb hby d2_6) rfl (XT.ll_ne_t hp0) (by decide) (by decide) ?_
                  show Steps p.tables e below (s₁.setTop (mkF m 11 #[.val (.long q), .second] [])) _
                  refine XT.lloadN X0.here hx rfl (hb hby d2_11) rfl ?_
                  show Steps p.tables e below (s₁.setTop (mkF m 12 #[.val (.long q), .second] [(.long q)])) _
                  refine XS.bipush X0.here hx rfl (hb hby d2_12) ?_
                  show Steps p.tables e below (s₁.setTop (mkF m 14 #[.val (.long q), .second] [(.int (14 : Int32)), (.long q)])) _
                  refine XT.lushr X0.here hx rfl (hb hby d2_14) rfl ?_
                  show Steps p.tables e below (s₁.setTop (mkF m 15 #[.val (.long q), .second] [(.long (XT.ushrL q (14 : Int32)))])) _
                  refine XT.lconst X0.here hx rfl (hb hby d2_15) ?_
                  show Steps p.tables e below (s₁.setTop (mkF m 16 #[.val (.long q), .second] [(.long (0 : Int64)), (.long (XT.ushrL q (14 : Int32)))])) _
                  refine XT.lcmp X0.here hx rfl (hb hby d2_16) rfl ?_
                  show Steps p.tables e below (s₁.setTop (mkF m 17 #[.val (.long q), .second] [(.int (XT.cmpL (XT.ushrL q (14 : Int32)) (0 : Int64)))])) _
                  refine XS.ifYes X0.here hx rfl (pc0 := 17) (pc' := 22) rfl (hb hby d2_17) rfl (XT.ll_ne_t hp1) (by decide) (by decide) ?_
                  show Steps p.tables e below (s₁.setTop (mkF m 22 #[.val (.long q), .second] [])) _
                  refine XT.lloadN X0.here hx rfl (hb hby d2_22) rfl ?_
                  show Steps p.tables e below (s₁.setTop (mkF m 23 #[.val (.long q), .second] [(.long q)])) _
                  refine XS.bipush X0.here hx rfl (hb hby d2_23) ?_
                  show Steps p.tables e below (s₁.setTop (mkF m 25 #[.val (.long q), .second] [(.int (21 : Int32)), (.long q)])) _
                  refine XT.lushr X0.here hx rfl (hb hby d2_25) rfl ?_
                  show Steps p.tables e below (s₁.setTop (mkF m 26 #[.val (.long q), .second] [(.long (XT.ushrL q (21 : Int32)))])) _
                  refine XT.lconst X0.here hx rfl (hb hby d2_26) ?_
                  show Steps p.tables e below (s₁.setTop (mkF m 27 #[.val (.long q), .second] [(.long (0 : Int64)), (.long (XT.ushrL q (21 : Int32)))])) _
                  refine XT.lcmp X0.here hx rfl (hb hby d2_27) rfl ?_
                  show Steps p.tables e below (s₁.setTop (mkF m 28 #[.val (.long q), .second] [(.int (XT.cmpL (XT.ushrL q (21 : Int32)) (0 : Int64)))])) _
                  refine XS.ifYes X0.here hx rfl (pc0 := 28) (pc' := 33) rfl (hb hby d2_28) rfl (XT.ll_ne_t hp2) (by decide) (by decide) ?_
                  show Steps p.tables e below (s₁.setTop (mkF m 33 #[.val (.long q), .second] [])) _
                  refine XT.lloadN X0.here hx rfl (hb hby d2_33) rfl ?_
                  show Steps p.tables e below (s₁.setTop (mkF m 34 #[.val (.long q), .second] [(.long q)])) _
                  refine XS.bipush X0.here hx rfl (hb hby d2_34) ?_
                  show Steps p.tables e below (s₁.setTop (mkF m 36 #[.val (.long q), .second] [(.int (28 : Int32)), (.long q)])) _
                  refine XT.lushr X0.here hx rfl (hb hby d2_36) rfl ?_
                  show Steps p.tables e below (s₁.setTop (mkF m 37 #[.val (.long q), .second] [(.long (XT.ushrL q (28 : Int32)))])) _
                  refine XT.lconst X0.here hx rfl (hb hby d2_37) ?_
                  show Steps p.tables e below (s₁.setTop (mkF m 38 #[.val (.long q), .second] [(.long (0 : Int64)), (.long (XT.ushrL q (28 : Int32)))])) _
                  refine XT.lcmp X0.here hx rfl (hb hby d2_38) rfl ?_
                  show Steps p.tables e below (s₁.setTop (mkF m 39 #[.val (.long q), .second] [(.int (XT.cmpL (XT.ushrL q (28 : Int32)) (0 : Int64)))])) _
                  refine XS.ifYes X0.here hx rfl (pc0 := 39) (pc' := 44) rfl (hb hby d2_39) rfl (XT.ll_ne_t hp3) (by decide) (by decide) ?_
                  show Steps p.tables e below (s₁.setTop (mkF m 44 #[.val (.long q), .second] [])) _
                  refine XT.lloadN X0.here hx rfl (hb hby d2_44) rfl ?_
                  show Steps p.tables e below (s₁.setTop (mkF m 45 #[.val (.long q), .second] [(.long q)])) _
                  refine XS.bipush X0.here hx rfl (hb hby d2_45) ?_
                  show Steps p.tables e below (s₁.setTop (mkF m 47 #[.val (.long q), .second] [(.int (35 : Int32)), (.long q)])) _
                  refine XT.lushr X0.here hx rfl (hb hby d2_47) rfl ?_
                  show Steps p.tables e below (s₁.setTop (mkF m 48 #[.val (.long q), .second] [(.long (XT.ushrL q (35 : Int32)))])) _
                  refine XT.lconst X0.here hx rfl (hb hby d2_48) ?_
                  show Steps p.tables e below (s₁.setTop (mkF m 49 #[.val (.long q), .second] [(.long (0 : Int64)), (.long (XT.ushrL q (35 : Int32)))])) _
                  refine XT.lcmp X0.here hx rfl (hb hby d2_49) rfl ?_
                  show Steps p.tables e below (s₁.setTop (mkF m 50 #[.val (.long q), .second] [(.int (XT.cmpL (XT.ushrL q (35 : Int32)) (0 : Int64)))])) _
                  refine XS.ifYes X0.here hx rfl (pc0 := 50) (pc' := 55) rfl (hb hby d2_50) rfl (XT.ll_ne_t hp4) (by decide) (by decide) ?_
                  show Steps p.tables e below (s₁.setTop (mkF m 55 #[.val (.long q), .second] [])) _
                  refine XT.lloadN X0.here hx rfl (hb hby d2_55) rfl ?_
                  show Steps p.tables e below (s₁.setTop (mkF m 56 #[.val (.long q), .second] [(.long q)])) _
                  refine XS.bipush X0.here hx rfl (hb hby d2_56) ?_
                  show Steps p.tables e below (s₁.setTop (mkF m 58 #[.val (.long q), .second] [(.int (42 : Int32)), (.long q)])) _
                  refine XT.lushr X0.here hx rfl (hb hby d2_58) rfl ?_
                  show Steps p.tables e below (s₁.setTop (mkF m 59 #[.val (.long q), .second] [(.long (XT.ushrL q (42 : Int32)))])) _
                  refine XT.lconst X0.here hx rfl (hb hby d2_59) ?_
                  show Steps p.tables e below (s₁.setTop (mkF m 60 #[.val (.long q), .second] [(.long (0 : Int64)), (.long (XT.ushrL q (42 : Int32)))])) _
                  refine XT.lcmp X0.here hx rfl (hb hby d2_60) rfl ?_
                  show Steps p.tables e below (s₁.setTop (mkF m 61 #[.val (.long q), .second] [(.int (XT.cmpL (XT.ushrL q (42 : Int32)) (0 : Int64)))])) _
                  refine XS.ifYes X0.here hx rfl (pc0 := 61) (pc' := 67) rfl (hb hby d2_61) rfl (XT.ll_ne_t hp5) (by decide) (by decide) ?_
                  show Steps p.tables e below (s₁.setTop (mkF m 67 #[.val (.long q), .second] [])) _
                  refine XT.lloadN X0.here hx rfl (hb hby d2_67) rfl ?_
                  show Steps p.tables e below (s₁.setTop (mkF m 68 #[.val (.long q), .second] [(.long q)])) _
                  refine XS.bipush X0.here hx rfl (hb hby d2_68) ?_
                  show Steps p.tables e below (s₁.setTop (mkF m 70 #[.val (.long q), .second] [(.int (49 : Int32)), (.long q)])) _
                  refine XT.lushr X0.here hx rfl (hb hby d2_70) rfl ?_
                  show Steps p.tables e below (s₁.setTop (mkF m 71 #[.val (.long q), .second] [(.long (XT.ushrL q (49 : Int32)))])) _
                  refine XT.lconst X0.here hx rfl (hb hby d2_71) ?_
                  show Steps p.tables e below (s₁.setTop (mkF m 72 #[.val (.long q), .second] [(.long (0 : Int64)), (.long (XT.ushrL q (49 : Int32)))])) _
                  refine XT.lcmp X0.here hx rfl (hb hby d2_72) rfl ?_
                  show Steps p.tables e below (s₁.setTop (mkF m 73 #[.val (.long q), .second] [(.int (XT.cmpL (XT.ushrL q (49 : Int32)) (0 : Int64)))])) _
                  refine XS.ifNo X0.here hx rfl (hb hby d2_73) rfl (XT.ll_ne_f hp6) ?_
                  show Steps p.tables e below (s₁.setTop (mkF m 76 #[.val (.long q), .second] [])) _
                  refine XS.bipush X0.here hx rfl (hb hby d2_76) ?_
                  show Steps p.tables e below (s₁.setTop (mkF m 78 #[.val (.long q), .second] [(.int (7 : Int32))])) _
                  exact retI X0 hx Bd.returns (hb hby d2_78) hr
                · show Q_own_lenOf Z q  h0 n0 _ s₁.heap _
                  rw [e0]
                  exact ⟨by unfold own_len; rw [if_neg hp0, if_neg hp1, if_neg hp2, if_neg hp3, if_neg hp4, if_neg hp5, if_pos hp6], N0, rfl⟩
              · by_cases hp7 : (XT.ushrL q (56 : Int32)) = (0 : Int64)
                · obtain ⟨fs, hr, hrun, hended, hW, hsame⟩ := X0.leave (v := some (.int (8 : Int32))) (fun h => by rw [Bd.returns] at h; cases h)
                  refine ⟨_, _, pre0 _ ?_, hrun, hended, _, _, rfl, ?_, ⟨_, rfl⟩, hW, hsame.mono (by decide) (by decide)⟩
                  · show Steps p.tables e below (s₁.setTop (mkF m 0 #[.val (.long q), .second] [])) _
                    refine XT.lloadN X0.here hx rfl (hb hby d2_0) rfl ?_
                    show Steps p.tables e below (s₁.setTop (mkF m 1 #[.val (.long q), .second] [(.long q)])) _
                    refine XS.bipush X0.here hx rfl (hb hby d2_1) ?_
                    show Steps p.tables e below (s₁.setTop (mkF m 3 #[.val (.long q), .second] [(.int (7 : Int32)), (.long q)])) _
                    refine XT.lushr X0.here hx rfl (hb hby d2_3) rfl ?_
                    show Steps p.tables e below (s₁.setTop (mkF m 4 #[.val (.long q), .second] [(.long (XT.ushrL q (7 : Int32)))])) _
                    refine XT.lconst X0.here hx rfl (hb hby d2_4) ?_
                    show Steps p.tables e below (s₁.setTop (mkF m 5 #[.val (.long q), .second] [(.long (0 : Int64)), (.long (XT.ushrL q (7 : Int32)))])) _
                    refine XT.lcmp X0.here hx rfl (hb hby d2_5) rfl ?_
                    show Steps p.tables e below (s₁.setTop (mkF m 6 #[.val (.long q), .second] [(.int (XT.cmpL (XT.ushrL q (7 : Int32)) (0 : Int64)))])) _
                    refine XS.ifYes X0.here hx rfl (pc0 := 6) (pc' := 11) rfl (hb hby d2_6) rfl (XT.ll_ne_t hp0) (by decide) (by decide) ?_
                    show Steps p.tables e below (s₁.setTop (mkF m 11 #[.val (.long q), .second] [])) _
                    refine XT.lloadN X0.here hx rfl (hb hby d2_11) rfl ?_
                    show Steps p.tables e below (s₁.setTop (mkF m 12 #[.val (.long q), .second] [(.long q)])) _
                    refine XS.bipush X0.here hx rfl (hb hby d2_12) ?_
                    show Steps p.tables e below (s₁.setTop (mkF m 14 #[.val (.long q), .second] [(.int (14 : Int32)), (.long q)])) _
                    refine XT.lushr X0.here hx rfl (hb hby d2_14) rfl ?_
                    show Steps p.tables e below (s₁.setTop (mkF m 15 #[.val (.long q), .second] [(.long (XT.ushrL q (14 : Int32)))])) _
                    refine XT.lconst X0.here hx rfl (hb hby d2_15) ?_
                    show Steps p.tables e below (s₁.setTop (mkF m 16 #[.val (.long q), .second] [(.long (0 : Int64)), (.long (XT.ushrL q (14 : Int32)))])) _
                    refine XT.lcmp X0.here hx rfl (hb hby d2_16) rfl ?_
                    show Steps p.tables e below (s₁.setTop (mkF m 17 #[.val (.long q), .second] [(.int (XT.cmpL (XT.ushrL q (14 : Int32)) (0 : Int64)))])) _
                    refine XS.ifYes X0.here hx rfl (pc0 := 17) (pc' := 22) rfl (hb hby d2_17) rfl (XT.ll_ne_t hp1) (by decide) (by decide) ?_
                    show Steps p.tables e below (s₁.setTop (mkF m 22 #[.val (.long q), .second] [])) _
                    refine XT.lloadN X0.here hx rfl (hb hby d2_22) rfl ?_
                    show Steps p.tables e below (s₁.setTop (mkF m 23 #[.val (.long q), .second] [(.long q)])) _
                    refine XS.bipush X0.here hx rfl (hb hby d2_23) ?_
                    show Steps p.tables e below (s₁.setTop (mkF m 25 #[.val (.long q), .second] [(.int (21 : Int32)), (.long q)])) _
                    refine XT.lushr X0.here hx rfl (hb hby d2_25) rfl ?_
                    show Steps p.tables e below (s₁.setTop (mkF m 26 #[.val (.long q), .second] [(.long (XT.ushrL q (21 : Int32)))])) _
                    refine XT.lconst X0.here hx rfl (hb hby d2_26) ?_
                    show Steps p.tables e below (s₁.setTop (mkF m 27 #[.val (.long q), .second] [(.long (0 : Int64)), (.long (XT.ushrL q (21 : Int32)))])) _
                    refine XT.lcmp X0.here hx rfl (hb hby d2_27) rfl ?_
                    show Steps p.tables e below (s₁.setTop (mkF m 28 #[.val (.long q), .second] [(.int (XT.cmpL (XT.ushrL q (21 : Int32)) (0 : Int64)))])) _
                    refine XS.ifYes X0.here hx rfl (pc0 := 28) (pc' := 33) rfl (hb hby d2_28) rfl (XT.ll_ne_t hp2) (by decide) (by decide) ?_
                    show Steps p.tables e below (s₁.setTop (mkF m 33 #[.val (.long q), .second] [])) _
                    refine XT.lloadN X0.here hx rfl (hb hby d2_33) rfl ?_
                    show Steps p.tables e below (s₁.setTop (mkF m 34 #[.val (.long q), .second] [(.long q)])) _
                    refine XS.bipush X0.here hx rfl (hb hby d2_34) ?_
                    show Steps p.tables e below (s₁.setTop (mkF m 36 #[.val (.long q), .second] [(.int (28 : Int32)), (.long q)])) _
                    refine XT.lushr X0.here hx rfl (hb hby d2_36) rfl ?_
                    show Steps p.tables e below (s₁.setTop (mkF m 37 #[.val (.long q), .second] [(.long (XT.ushrL q (28 : Int32)))])) _
                    refine XT.lconst X0.here hx rfl (hb hby d2_37) ?_
                    show Steps p.tables e below (s₁.setTop (mkF m 38 #[.val (.long q), .second] [(.long (0 : Int64)), (.long (XT.ushrL q (28 : Int32)))])) _
                    refine XT.lcmp X0.here hx rfl (hb hby d2_38) rfl ?_
                    show Steps p.tables e below (s₁.setTop (mkF m 39 #[.val (.long q), .second] [(.int (XT.cmpL (XT.ushrL q (28 : Int32)) (0 : Int64)))])) _
                    refine XS.ifYes X0.here hx rfl (pc0 := 39) (pc' := 44) rfl (hb hby d2_39) rfl (XT.ll_ne_t hp3) (by decide) (by decide) ?_
                    show Steps p.tables e below (s₁.setTop (mkF m 44 #[.val (.long q), .second] [])) _
                    refine XT.lloadN X0.here hx rfl (hb hby d2_44) rfl ?_
                    show Steps p.tables e below (s₁.setTop (mkF m 45 #[.val (.long q), .second] [(.long q)])) _
                    refine XS.bipush X0.here hx rfl (hb hby d2_45) ?_
                    show Steps p.tables e below (s₁.setTop (mkF m 47 #[.val (.long q), .second] [(.int (35 : Int32)), (.long q)])) _
                    refine XT.lushr X0.here hx rfl (hb hby d2_47) rfl ?_
                    show Steps p.tables e below (s₁.setTop (mkF m 48 #[.val (.long q), .second] [(.long (XT.ushrL q (35 : Int32)))])) _
                    refine XT.lconst X0.here hx rfl (hb hby d2_48) ?_
                    show Steps p.tables e below (s₁.setTop (mkF m 49 #[.val (.long q), .second] [(.long (0 : Int64)), (.long (XT.ushrL q (35 : Int32)))])) _
                    refine XT.lcmp X0.here hx rfl (hb hby d2_49) rfl ?_
                    show Steps p.tables e below (s₁.setTop (mkF m 50 #[.val (.long q), .second] [(.int (XT.cmpL (XT.ushrL q (35 : Int32)) (0 : Int64)))])) _
                    refine XS.ifYes X0.here hx rfl (pc0 := 50) (pc' := 55) rfl (hb hby d2_50) rfl (XT.ll_ne_t hp4) (by decide) (by decide) ?_
                    show Steps p.tables e below (s₁.setTop (mkF m 55 #[.val (.long q), .second] [])) _
                    refine XT.lloadN X0.here hx rfl (hb hby d2_55) rfl ?_
                    show Steps p.tables e below (s₁.setTop (mkF m 56 #[.val (.long q), .second] [(.long q)])) _
                    refine XS.bipush X0.here hx rfl (hb hby d2_56) ?_
                    show Steps p.tables e below (s₁.setTop (mkF m 58 #[.val (.long q), .second] [(.int (42 : Int32)), (.long q)])) _
                    refine XT.lushr X0.here hx rfl (hb hby d2_58) rfl ?_
                    show Steps p.tables e below (s₁.setTop (mkF m 59 #[.val (.long q), .second] [(.long (XT.ushrL q (42 : Int32)))])) _
                    refine XT.lconst X0.here hx rfl (hb hby d2_59) ?_
                    show Steps p.tables e below (s₁.setTop (mkF m 60 #[.val (.long q), .second] [(.long (0 : Int64)), (.long (XT.ushrL q (42 : Int32)))])) _
                    refine XT.lcmp X0.here hx rfl (hb hby d2_60) rfl ?_
                    show Steps p.tables e below (s₁.setTop (mkF m 61 #[.val (.long q), .second] [(.int (XT.cmpL (XT.ushrL q (42 : Int32)) (0 : Int64)))])) _
                    refine XS.ifYes X0.here hx rfl (pc0 := 61) (pc' := 67) rfl (hb hby d2_61) rfl (XT.ll_ne_t hp5) (by decide) (by decide) ?_
                    show Steps p.tables e below (s₁.setTop (mkF m 67 #[.val (.long q), .second] [])) _
                    refine XT.lloadN X0.here hx rfl (hb hby d2_67) rfl ?_
                    show Steps p.tables e below (s₁.setTop (mkF m 68 #[.val (.long q), .second] [(.long q)])) _
                    refine XS.bipush X0.here hx rfl (hb hby d2_68) ?_
                    show Steps p.tables e below (s₁.setTop (mkF m 70 #[.val (.long q), .second] [(.int (49 : Int32)), (.long q)])) _
                    refine XT.lushr X0.here hx rfl (hb hby d2_70) rfl ?_
                    show Steps p.tables e below (s₁.setTop (mkF m 71 #[.val (.long q), .second] [(.long (XT.ushrL q (49 : Int32)))])) _
                    refine XT.lconst X0.here hx rfl (hb hby d2_71) ?_
                    show Steps p.tables e below (s₁.setTop (mkF m 72 #[.val (.long q), .second] [(.long (0 : Int64)), (.long (XT.ushrL q (49 : Int32)))])) _
                    refine XT.lcmp X0.here hx rfl (hb hby d2_72) rfl ?_
                    show Steps p.tables e below (s₁.setTop (mkF m 73 #[.val (.long q), .second] [(.int (XT.cmpL (XT.ushrL q (49 : Int32)) (0 : Int64)))])) _
                    refine XS.ifYes X0.here hx rfl (pc0 := 73) (pc' := 79) rfl (hb hby d2_73) rfl (XT.ll_ne_t hp6) (by decide) (by decide) ?_
                    show Steps p.tables e below (s₁.setTop (mkF m 79 #[.val (.long q), .second] [])) _
                    refine XT.lloadN X0.here hx rfl (hb hby d2_79) rfl ?_
                    show Steps p.tables e below (s₁.setTop (mkF m 80 #[.val (.long q), .second] [(.long q)])) _
                    refine XS.bipush X0.here hx rfl (hb hby d2_80) ?_
                    show Steps p.tables e below (s₁.setTop (mkF m 82 #[.val (.long q), .second] [(.int (56 : Int32)), (.long q)])) _
                    refine XT.lushr X0.here hx rfl (hb hby d2_82) rfl ?_
                    show Steps p.tables e below (s₁.setTop (mkF m 83 #[.val (.long q), .second] [(.long (XT.ushrL q (56 : Int32)))])) _
                    refine XT.lconst X0.here hx rfl (hb hby d2_83) ?_
                    show Steps p.tables e below (s₁.setTop (mkF m 84 #[.val (.long q), .second] [(.long (0 : Int64)), (.long (XT.ushrL q (56 : Int32)))])) _
                    refine XT.lcmp X0.here hx rfl (hb hby d2_84) rfl ?_
                    show Steps p.tables e below (s₁.setTop (mkF m 85 #[.val (.long q), .second] [(.int (XT.cmpL (XT.ushrL q (56 : Int32)) (0 : Int64)))])) _
                    refine XS.ifNo X0.here hx rfl (hb hby d2_85) rfl (XT.ll_ne_f hp7) ?_
                    show Steps p.tables e below (s₁.setTop (mkF m 88 #[.val (.long q), .second] [])) _
                    refine XS.bipush X0.here hx rfl (hb hby d2_88) ?_
                    show Steps p.tables e below (s₁.setTop (mkF m 90 #[.val (.long q), .second] [(.int (8 : Int32))])) _
                    exact retI X0 hx Bd.returns (hb hby d2_90) hr
                  · show Q_own_lenOf Z q  h0 n0 _ s₁.heap _
                    rw [e0]
                    exact ⟨by unfold own_len; rw [if_neg hp0, if_neg hp1, if_neg hp2, if_neg hp3, if_neg hp4, if_neg hp5, if_neg hp6, if_pos hp7], N0, rfl⟩
                · by_cases hp8 : (XT.ushrL q (63 : Int32)) = (0 : Int64)
                  · obtain ⟨fs, hr, hrun, hended, hW, hsame⟩ := X0.leave (v := some (.int (9 : Int32))) (fun h => by rw [Bd.returns] at h; cases h)
                    refine ⟨_, _, pre0 _ ?_, hrun, hended, _, _, rfl, ?_, ⟨_, rfl⟩, hW, hsame.mono (by decide) (by decide)⟩
                    · show Steps p.tables e below (s₁.setTop (mkF m 0 #[.val (.long q), .second] [])) _
                      refine XT.lloadN X0.here hx rfl (hb hby d2_0) rfl ?_
                      show Steps p.tables e below (s₁.setTop (mkF m 1 #[.val (.long q), .second] [(.long q)])) _
                      refine XS.bipush X0.here hx rfl (hb hby d2_1) ?_
                      show Steps p.tables e below (s₁.setTop (mkF m 3 #[.val (.long q), .second] [(.int (7 : Int32)), (.long q)])) _
                      refine XT.lushr X0.here hx rfl (hb hby d2_3) rfl ?_
                      show Steps p.tables e below (s₁.setTop (mkF m 4 #[.val (.long q), .second] [(.long (XT.ushrL q (7 : Int32)))])) _
                      refine XT.lconst X0.here hx rfl (hb hby d2_4) ?_
                      show Steps p.tables e below (s₁.setTop (mkF m 5 #[.val (.long q), .second] [(.long (0 : Int64)), (.long (XT.ushrL q (7 : Int32)))])) _
                      refine XT.lcmp X0.here hx rfl (hb hby d2_5) rfl ?_
                      show Steps p.tables e below (s₁.setTop (mkF m 6 #[.val (.long q), .second] [(.int (XT.cmpL (XT.ushrL q (7 : Int32)) (0 : Int64)))])) _
                      refine XS.ifYes X0.here hx rfl (pc0 := 6) (pc' := 11) rfl (hb hby d2_6) rfl (XT.ll_ne_t hp0) (by decide) (by decide) ?_
                      show Steps p.tables e below (s₁.setTop (mkF m 11 #[.val (.long q), .second] [])) _
                      refine XT.lloadN X0.here hx rfl (hb hby d2_11) rfl ?_
                      show Steps p.tables e below (s₁.setTop (mkF m 12 #[.val (.long q), .second] [(.long q)])) _
                      refine XS.bipush X0.here hx rfl (hb hby d2_12) ?_
                      show Steps p.tables e below (s₁.setTop (mkF m 14 #[.val (.long q), .second] [(.int (14 : Int32)), (.long q)])) _
                      refine XT.lushr X0.here hx rfl (hb hby d2_14) rfl ?_
                      show Steps p.tables e below (s₁.setTop (mkF m 15 #[.val (.long q), .second] [(.long (XT.ushrL q (14 : Int32)))])) _
                      refine XT.lconst X0.here hx rfl (hb hby d2_15) ?_
                      show Steps p.tables e below (s₁.setTop (mkF m 16 #[.val (.long q), .second] [(.long (0 : Int64)), (.long (XT.ushrL q (14 : Int32)))])) _
                      refine XT.lcmp X0.here hx rfl (hb hby d2_16) rfl ?_
                      show Steps p.tables e below (s₁.setTop (mkF m 17 #[.val (.long q), .second] [(.int (XT.cmpL (XT.ushrL q (14 : Int32)) (0 : Int64)))])) _
                      refine XS.ifYes X0.here hx rfl (pc0 := 17) (pc' := 22) rfl (hb hby d2_17) rfl (XT.ll_ne_t hp1) (by decide) (by decide) ?_
                      show Steps p.tables e below (s₁.setTop (mkF m 22 #[.val (.long q), .second] [])) _
                      refine XT.lloadN X0.here hx rfl (hb hby d2_22) rfl ?_
                      show Steps p.tables e below (s₁.setTop (mkF m 23 #[.val (.long q), .second] [(.long q)])) _
                      refine XS.bipush X0.here hx rfl (hb hby d2_23) ?_
                      show Steps p.tables e below (s₁.setTop (mkF m 25 #[.val (.long q), .second] [(.int (21 : Int32)), (.long q)])) _
                      refine XT.lushr X0.here hx rfl (hb hby d2_25) rfl ?_
                      show Steps p.tables e below (s₁.setTop (mkF m 26 #[.val (.long q), .second] [(.long (XT.ushrL q (21 : Int32)))])) _
                      refine XT.lconst X0.here hx rfl (hb hby d2_26) ?_
                      show Steps p.tables e below (s₁.setTop (mkF m 27 #[.val (.long q), .second] [(.long (0 : Int64)), (.long (XT.ushrL q (21 : Int32)))])) _
                      refine XT.lcmp X0.here hx rfl (hb hby d2_27) rfl ?_
                      show Steps p.tables e below (s₁.setTop (mkF m 28 #[.val (.long q), .second] [(.int (XT.cmpL (XT.ushrL q (21 : Int32)) (0 : Int64)))])) _
                      refine XS.ifYes X0.here hx rfl (pc0 := 28) (pc' := 33) rfl (hb hby d2_28) rfl (XT.ll_ne_t hp2) (by decide) (by decide) ?_
                      show Steps p.tables e below (s₁.setTop (mkF m 33 #[.val (.long q), .second] [])) _
                      refine XT.lloadN X0.here hx rfl (hb hby d2_33) rfl ?_
                      show Steps p.tables e below (s₁.setTop (mkF m 34 #[.val (.long q), .second] [(.long q)])) _
                      refine XS.bipush X0.here hx rfl (hb hby d2_34) ?_
                      show Steps p.tables e below (s₁.setTop (mkF m 36 #[.val (.long q), .second] [(.int (28 : Int32)), (.long q)])) _
                      refine XT.lushr X0.here hx rfl (hb hby d2_36) rfl ?_
                      show Steps p.tables e below (s₁.setTop (mkF m 37 #[.val (.long q), .second] [(.long (XT.ushrL q (28 : Int32)))])) _
                      refine XT.lconst X0.here hx rfl (hb hby d2_37) ?_
                      show Steps p.tables e below (s₁.setTop (mkF m 38 #[.val (.long q), .second] [(.long (0 : Int64)), (.long (XT.ushrL q (28 : Int32)))])) _
                      refine XT.lcmp X0.here hx rfl (hb hby d2_38) rfl ?_
                      show Steps p.tables e below (s₁.setTop (mkF m 39 #[.val (.long q), .second] [(.int (XT.cmpL (XT.ushrL q (28 : Int32)) (0 : Int64)))])) _
                      refine XS.ifYes X0.here hx rfl (pc0 := 39) (pc' := 44) rfl (hb hby d2_39) rfl (XT.ll_ne_t hp3) (by decide) (by decide) ?_
                      show Steps p.tables e below (s₁.setTop (mkF m 44 #[.val (.long q), .second] [])) _
                      refine XT.lloadN X0.here hx rfl (hb hby d2_44) rfl ?_
                      show Steps p.tables e below (s₁.setTop (mkF m 45 #[.val (.long q), .second] [(.long q)])) _
                      refine XS.bipush X0.here hx rfl (hb hby d2_45) ?_
                      show Steps p.tables e below (s₁.setTop (mkF m 47 #[.val (.long q), .second] [(.int (35 : Int32)), (.long q)])) _
                      refine XT.lushr X0.here hx rfl (hb hby d2_47) rfl ?_
                      show Steps p.tables e below (s₁.setTop (mkF m 48 #[.val (.long q), .second] [(.long (XT.ushrL q (35 : Int32)))])) _
                      refine XT.lconst X0.here hx rfl (hb hby d2_48) ?_
                      show Steps p.tables e below (s₁.setTop (mkF m 49 #[.val (.long q), .second] [(.long (0 : Int64)), (.long (XT.ushrL q (35 : Int32)))])) _
                      refine XT.lcmp X0.here hx rfl (hb hby d2_49) rfl ?_
                      show Steps p.tables e below (s₁.setTop (mkF m 50 #[.val (.long q), .second] [(.int (XT.cmpL (XT.ushrL q (35 : Int32)) (0 : Int64)))])) _
                      refine XS.ifYes X0.here hx rfl (pc0 := 50) (pc' := 55) rfl (hb hby d2_50) rfl (XT.ll_ne_t hp4) (by decide) (by decide) ?_
                      show Steps p.tables e below (s₁.setTop (mkF m 55 #[.val (.long q), .second] [])) _
                      refine XT.lloadN X0.here hx rfl (hb hby d2_55) rfl ?_
                      show Steps p.tables e below (s₁.setTop (mkF m 56 #[.val (.long q), .second] [(.long q)])) _
                      refine XS.bipush X0.here hx rfl (hb hby d2_56) ?_
                      show Steps p.tables e below (s₁.setTop (mkF m 58 #[.val (.long q), .second] [(.int (42 : Int32)), (.long q)])) _
                      refine XT.lushr X0.here hx rfl (hb hby d2_58) rfl ?_
                      show Steps p.tables e below (s₁.setTop (mkF m 59 #[.val (.long q), .second] [(.long (XT.ushrL q (42 : Int32)))])) _
                      refine XT.lconst X0.here hx rfl (hb hby d2_59) ?_
                      show Steps p.tables e below (s₁.setTop (mkF m 60 #[.val (.long q), .second] [(.long (0 : Int64)), (.long (XT.ushrL q (42 : Int32)))])) _
                      refine XT.lcmp X0.here hx rfl (hb hby d2_60) rfl ?_
                      show Steps p.tables e below (s₁.setTop (mkF m 61 #[.val (.long q), .second] [(.int (XT.cmpL (XT.ushrL q (42 : Int32)) (0 : Int64)))])) _
                      refine XS.ifYes X0.here hx rfl (pc0 := 61) (pc' := 67) rfl (hb hby d2_61) rfl (XT.ll_ne_t hp5) (by decide) (by decide) ?_
                      show Steps p.tables e below (s₁.setTop (mkF m 67 #[.val (.long q), .second] [])) _
                      refine XT.lloadN X0.here hx rfl (hb hby d2_67) rfl ?_
                      show Steps p.tables e below (s₁.setTop (mkF m 68 #[.val (.long q), .second] [(.long q)])) _
                      refine XS.bipush X0.here hx rfl (hb hby d2_68) ?_
                      show Steps p.tables e below (s₁.setTop (mkF m 70 #[.val (.long q), .second] [(.int (49 : Int32)), (.long q)])) _
                      refine XT.lushr X0.here hx rfl (hb hby d2_70) rfl ?_
                      show Steps p.tables e below (s₁.setTop (mkF m 71 #[.val (.long q), .second] [(.long (XT.ushrL q (49 : Int32)))])) _
                      refine XT.lconst X0.here hx rfl (hb hby d2_71) ?_
                      show Steps p.tables e below (s₁.setTop (mkF m 72 #[.val (.long q), .second] [(.long (0 : Int64)), (.long (XT.ushrL q (49 : Int32)))])) _
                      refine XT.lcmp X0.here hx rfl (hb hby d2_72) rfl ?_
                      show Steps p.tables e below (s₁.setTop (mkF m 73 #[.val (.long q), .second] [(.int (XT.cmpL (XT.ushrL q (49 : Int32)) (0 : Int64)))])) _
                      refine XS.ifYes X0.here hx rfl (pc0 := 73) (pc' := 79) rfl (hb hby d2_73) rfl (XT.ll_ne_t hp6) (by decide) (by decide) ?_
                      show Steps p.tables e below (s₁.setTop (mkF m 79 #[.val (.long q), .second] [])) _
                      refine XT.lloadN X0.here hx rfl (hb hby d2_79) rfl ?_
                      show Steps p.tables e below (s₁.setTop (mkF m 80 #[.val (.long q), .second] [(.long q)])) _
                      refine XS.bipush X0.here hx rfl (hb hby d2_80) ?_
                      show Steps p.tables e below (s₁.setTop (mkF m 82 #[.val (.long q), .second] [(.int (56 : Int32)), (.long q)])) _
                      refine XT.lushr X0.here hx rfl (hb hby d2_82) rfl ?_
                      show Steps p.tables e below (s₁.setTop (mkF m 83 #[.val (.long q), .second] [(.long (XT.ushrL q (56 : Int32)))])) _
                      refine XT.lconst X0.here hx rfl (hb hby d2_83) ?_
                      show Steps p.tables e below (s₁.setTop (mkF m 84 #[.val (.long q), .second] [(.long (0 : Int64)), (.long (XT.ushrL q (56 : Int32)))])) _
                      refine XT.lcmp X0.here hx rfl (hb hby d2_84) rfl ?_
                      show Steps p.tables e below (s₁.setTop (mkF m 85 #[.val (.long q), .second] [(.int (XT.cmpL (XT.ushrL q (56 : Int32)) (0 : Int64)))])) _
                      refine XS.ifYes X0.here hx rfl (pc0 := 85) (pc' := 91) rfl (hb hby d2_85) rfl (XT.ll_ne_t hp7) (by decide) (by decide) ?_
                      show Steps p.tables e below (s₁.setTop (mkF m 91 #[.val (.long q), .second] [])) _
                      refine XT.lloadN X0.here hx rfl (hb hby d2_91) rfl ?_
                      show Steps p.tables e below (s₁.setTop (mkF m 92 #[.val (.long q), .second] [(.long q)])) _
                      refine XS.bipush X0.here hx rfl (hb hby d2_92) ?_
                      show Steps p.tables e below (s₁.setTop (mkF m 94 #[.val (.long q), .second] [(.int (63 : Int32)), (.long q)])) _
                      refine XT.lushr X0.here hx rfl (hb hby d2_94) rfl ?_
                      show Steps p.tables e below (s₁.setTop (mkF m 95 #[.val (.long q), .second] [(.long (XT.ushrL q (63 : Int32)))])) _
                      refine XT.lconst X0.here hx rfl (hb hby d2_95) ?_
                      show Steps p.tables e below (s₁.setTop (mkF m 96 #[.val (.long q), .second] [(.long (0 : Int64)), (.long (XT.ushrL q (63 : Int32)))])) _
                      refine XT.lcmp X0.here hx rfl (hb hby d2_96) rfl ?_
                      show Steps p.tables e below (s₁.setTop (mkF m 97 #[.val (.long q), .second] [(.int (XT.cmpL (XT.ushrL q (63 : Int32)) (0 : Int64)))])) _
                      refine XS.ifNo X0.here hx rfl (hb hby d2_97) rfl (XT.ll_ne_f hp8) ?_
                      show Steps p.tables e below (s₁.setTop (mkF m 100 #[.val (.long q), .second] [])) _
                      refine XS.bipush X0.here hx rfl (hb hby d2_100) ?_
                      show Steps p.tables e below (s₁.setTop (mkF m 102 #[.val (.long q), .second] [(.int (9 : Int32))])) _
                      exact retI X0 hx Bd.returns (hb hby d2_102) hr
                    · show Q_own_lenOf Z q  h0 n0 _ s₁.heap _
                      rw [e0]
                      exact ⟨by unfold own_len; rw [if_neg hp0, if_neg hp1, if_neg hp2, if_neg hp3, if_neg hp4, if_neg hp5, if_neg hp6, if_neg hp7, if_pos hp8], N0, rfl⟩
                  · obtain ⟨fs, hr, hrun, hended, hW, hsame⟩ := X0.leave (v := some (.int (10 : Int32))) (fun h => by rw [Bd.returns] at h; cases h)
                    refine ⟨_, _, pre0 _ ?_, hrun, hended, _, _, rfl, ?_, ⟨_, rfl⟩, hW, hsame.mono (by decide) (by decide)⟩
                    · show Steps p.tables e below (s₁.setTop (mkF m 0 #[.val (.long q), .second] [])) _
                      refine XT.lloadN X0.here hx rfl (hb hby d2_0) rfl ?_
                      show Steps p.tables e below (s₁.setTop (mkF m 1 #[.val (.long q), .second] [(.long q)])) _
                      refine XS.bipush X0.here hx rfl (hb hby d2_1) ?_
                      show Steps p.tables e below (s₁.setTop (mkF m 3 #[.val (.long q), .second] [(.int (7 : Int32)), (.long q)])) _
                      refine XT.lushr X0.here hx rfl (hb hby d2_3) rfl ?_
                      show Steps p.tables e below (s₁.setTop (mkF m 4 #[.val (.long q), .second] [(.long (XT.ushrL q (7 : Int32)))])) _
                      refine XT.lconst X0.here hx rfl (hb hby d2_4) ?_
                      show Steps p.tables e below (s₁.setTop (mkF m 5 #[.val (.long q), .second] [(.long (0 : Int64)), (.long (XT.ushrL q (7 : Int32)))])) _
                      refine XT.lcmp X0.here hx rfl (hb hby d2_5) rfl ?_
                      show Steps p.tables e below (s₁.setTop (mkF m 6 #[.val (.long q), .second] [(.int (XT.cmpL (XT.ushrL q (7 : Int32)) (0 : Int64)))])) _
                      refine XS.ifYes X0.here hx rfl (pc0 := 6) (pc' := 11) rfl (hb hby d2_6) rfl (XT.ll_ne_t hp0) (by decide) (by decide) ?_
                      show Steps p.tables e below (s₁.setTop (mkF m 11 #[.val (.long q), .second] [])) _
                      refine XT.lloadN X0.here hx rfl (hb hby d2_11) rfl ?_
                      show Steps p.tables e below (s₁.setTop (mkF m 12 #[.val (.long q), .second] [(.long q)])) _
                      refine XS.bipush X0.here hx rfl (hb hby d2_12) ?_
                      show Steps p.tables e below (s₁.setTop (mkF m 14 #[.val (.long q), .second] [(.int (14 : Int32)), (.long q)])) _
                      refine XT.lushr X0.here hx rfl (hb hby d2_14) rfl ?_
                      show Steps p.tables e below (s₁.setTop (mkF m 15 #[.val (.long q), .second] [(.long (XT.ushrL q (14 : Int32)))])) _
                      refine XT.lconst X0.here hx rfl (hb hby d2_15) ?_
                      show Steps p.tables e below (s₁.setTop (mkF m 16 #[.val (.long q), .second] [(.long (0 : Int64)), (.long (XT.ushrL q (14 : Int32)))])) _
                      refine XT.lcmp X0.here hx rfl (hb hby d2_16) rfl ?_
                      show Steps p.tables e below (s₁.setTop (mkF m 17 #[.val (.long q), .second] [(.int (XT.cmpL (XT.ushrL q (14 : Int32)) (0 : Int64)))])) _
                      refine XS.ifYes X0.here hx rfl (pc0 := 17) (pc' := 22) rfl (hb hby d2_17) rfl (XT.ll_ne_t hp1) (by decide) (by decide) ?_
                      show Steps p.tables e below (s₁.setTop (mkF m 22 #[.val (.long q), .second] [])) _
                      refine XT.lloadN X0.here hx rfl (hb hby d2_22) rfl ?_
                      show Steps p.tables e below (s₁.setTop (mkF m 23 #[.val (.long q), .second] [(.long q)])) _
                      refine XS.bipush X0.here hx rfl (hb hby d2_23) ?_
                      show Steps p.tables e below (s₁.setTop (mkF m 25 #[.val (.long q), .second] [(.int (21 : Int32)), (.long q)])) _
                      refine XT.lushr X0.here hx rfl (hb hby d2_25) rfl ?_
                      show Steps p.tables e below (s₁.setTop (mkF m 26 #[.val (.long q), .second] [(.long (XT.ushrL q (21 : Int32)))])) _
                      refine XT.lconst X0.here hx rfl (hb hby d2_26) ?_
                      show Steps p.tables e below (s₁.setTop (mkF m 27 #[.val (.long q), .second] [(.long (0 : Int64)), (.long (XT.ushrL q (21 : Int32)))])) _
                      refine XT.lcmp X0.here hx rfl (hb hby d2_27) rfl ?_
                      show Steps p.tables e below (s₁.setTop (mkF m 28 #[.val (.long q), .second] [(.int (XT.cmpL (XT.ushrL q (21 : Int32)) (0 : Int64)))])) _
                      refine XS.ifYes X0.here hx rfl (pc0 := 28) (pc' := 33) rfl (hb hby d2_28) rfl (XT.ll_ne_t hp2) (by decide) (by decide) ?_
                      show Steps p.tables e below (s₁.setTop (mkF m 33 #[.val (.long q), .second] [])) _
                      refine XT.lloadN X0.here hx rfl (hb hby d2_33) rfl ?_
                      show Steps p.tables e below (s₁.setTop (mkF m 34 #[.val (.long q), .second] [(.long q)])) _
                      refine XS.bipush X0.here hx rfl (hb hby d2_34) ?_
                      show Steps p.tables e below (s₁.setTop (mkF m 36 #[.val (.long q), .second] [(.int (28 : Int32)), (.long q)])) _
                      refine XT.lushr X0.here hx rfl (hb hby d2_36) rfl ?_
                      show Steps p.tables e below (s₁.setTop (mkF m 37 #[.val (.long q), .second] [(.long (XT.ushrL q (28 : Int32)))])) _
                      refine XT.lconst X0.here hx rfl (hb hby d2_37) ?_
                      show Steps p.tables e below (s₁.setTop (mkF m 38 #[.val (.long q), .second] [(.long (0 : Int64)), (.long (XT.ushrL q (28 : Int32)))])) _
                      refine XT.lcmp X0.here hx rfl (hb hby d2_38) rfl ?_
                      show Steps p.tables e below (s₁.setTop (mkF m 39 #[.val (.long q), .second] [(.int (XT.cmpL (XT.ushrL q (28 : Int32)) (0 : Int64)))])) _
                      refine XS.ifYes X0.here hx rfl (pc0 := 39) (pc' := 44) rfl (hb hby d2_39) rfl (XT.ll_ne_t hp3) (by decide) (by decide) ?_
                      show Steps p.tables e below (s₁.setTop (mkF m 44 #[.val (.long q), .second] [])) _
                      refine XT.lloadN X0.here hx rfl (hb hby d2_44) rfl ?_
                      show Steps p.tables e below (s₁.setTop (mkF m 45 #[.val (.long q), .second] [(.long q)])) _
                      refine XS.bipush X0.here hx rfl (hb hby d2_45) ?_
                      show Steps p.tables e below (s₁.setTop (mkF m 47 #[.val (.long q), .second] [(.int (35 : Int32)), (.long q)])) _
                      refine XT.lushr X0.here hx rfl (hb hby d2_47) rfl ?_
                      show Steps p.tables e below (s₁.setTop (mkF m 48 #[.val (.long q), .second] [(.long (XT.ushrL q (35 : Int32)))])) _
                      refine XT.lconst X0.here hx rfl (hb hby d2_48) ?_
                      show Steps p.tables e below (s₁.setTop (mkF m 49 #[.val (.long q), .second] [(.long (0 : Int64)), (.long (XT.ushrL q (35 : Int32)))])) _
                      refine XT.lcmp X0.here hx rfl (hb hby d2_49) rfl ?_
                      show Steps p.tables e below (s₁.setTop (mkF m 50 #[.val (.long q), .second] [(.int (XT.cmpL (XT.ushrL q (35 : Int32)) (0 : Int64)))])) _
                      refine XS.ifYes X0.here hx rfl (pc0 := 50) (pc' := 55) rfl (hb hby d2_50) rfl (XT.ll_ne_t hp4) (by decide) (by decide) ?_
                      show Steps p.tables e below (s₁.setTop (mkF m 55 #[.val (.long q), .second] [])) _
                      refine XT.lloadN X0.here hx rfl (hb hby d2_55) rfl ?_
                      show Steps p.tables e below (s₁.setTop (mkF m 56 #[.val (.long q), .second] [(.long q)])) _
                      refine XS.bipush X0.here hx rfl (hb hby d2_56) ?_
                      show Steps p.tables e below (s₁.setTop (mkF m 58 #[.val (.long q), .second] [(.int (42 : Int32)), (.long q)])) _
                      refine XT.lushr X0.here hx rfl (hb hby d2_58) rfl ?_
                      show Steps p.tables e below (s₁.setTop (mkF m 59 #[.val (.long q), .second] [(.long (XT.ushrL q (42 : Int32)))])) _
                      refine XT.lconst X0.here hx rfl (hb hby d2_59) ?_
                      show Steps p.tables e below (s₁.setTop (mkF m 60 #[.val (.long q), .second] [(.long (0 : Int64)), (.long (XT.ushrL q (42 : Int32)))])) _
                      refine XT.lcmp X0.here hx rfl (hb hby d2_60) rfl ?_
                      show Steps p.tables e below (s₁.setTop (mkF m 61 #[.val (.long q), .second] [(.int (XT.cmpL (XT.ushrL q (42 : Int32)) (0 : Int64)))])) _
                      refine XS.ifYes X0.here hx rfl (pc0 := 61) (pc' := 67) rfl (hb hby d2_61) rfl (XT.ll_ne_t hp5) (by decide) (by decide) ?_
                      show Steps p.tables e below (s₁.setTop (mkF m 67 #[.val (.long q), .second] [])) _
                      refine XT.lloadN X0.here hx rfl (hb hby d2_67) rfl ?_
                      show Steps p.tables e below (s₁.setTop (mkF m 68 #[.val (.long q), .second] [(.long q)])) _
                      refine XS.bipush X0.here hx rfl (hb hby d2_68) ?_
                      show Steps p.tables e below (s₁.setTop (mkF m 70 #[.val (.long q), .second] [(.int (49 : Int32)), (.long q)])) _
                      refine XT.lushr X0.here hx rfl (hb hby d2_70) rfl ?_
                      show Steps p.tables e below (s₁.setTop (mkF m 71 #[.val (.long q), .second] [(.long (XT.ushrL q (49 : Int32)))])) _
                      refine XT.lconst X0.here hx rfl (hb hby d2_71) ?_
                      show Steps p.tables e below (s₁.setTop (mkF m 72 #[.val (.long q), .second] [(.long (0 : Int64)), (.long (XT.ushrL q (49 : Int32)))])) _
                      refine XT.lcmp X0.here hx rfl (hb hby d2_72) rfl ?_
                      show Steps p.tables e below (s₁.setTop (mkF m 73 #[.val (.long q), .second] [(.int (XT.cmpL (XT.ushrL q (49 : Int32)) (0 : Int64)))])) _
                      refine XS.ifYes X0.here hx rfl (pc0 := 73) (pc' := 79) rfl (hb hby d2_73) rfl (XT.ll_ne_t hp6) (by decide) (by decide) ?_
                      show Steps p.tables e below (s₁.setTop (mkF m 79 #[.val (.long q), .second] [])) _
                      refine XT.lloadN X0.here hx rfl (hb hby d2_79) rfl ?_
                      show Steps p.tables e below (s₁.setTop (mkF m 80 #[.val (.long q), .second] [(.long q)])) _
                      refine XS.bipush X0.here hx rfl (hb hby d2_80) ?_
                      show Steps p.tables e below (s₁.setTop (mkF m 82 #[.val (.long q), .second] [(.int (56 : Int32)), (.long q)])) _
                      refine XT.lushr X0.here hx rfl (hb hby d2_82) rfl ?_
                      show Steps p.tables e below (s₁.setTop (mkF m 83 #[.val (.long q), .second] [(.long (XT.ushrL q (56 : Int32)))])) _
                      refine XT.lconst X0.here hx rfl (hb hby d2_83) ?_
                      show Steps p.tables e below (s₁.setTop (mkF m 84 #[.val (.long q), .second] [(.long (0 : Int64)), (.long (XT.ushrL q (56 : Int32)))])) _
                      refine XT.lcmp X0.here hx rfl (hb hby d2_84) rfl ?_
                      show Steps p.tables e below (s₁.setTop (mkF m 85 #[.val (.long q), .second] [(.int (XT.cmpL (XT.ushrL q (56 : Int32)) (0 : Int64)))])) _
                      refine XS.ifYes X0.here hx rfl (pc0 := 85) (pc' := 91) rfl (hb hby d2_85) rfl (XT.ll_ne_t hp7) (by decide) (by decide) ?_
                      show Steps p.tables e below (s₁.setTop (mkF m 91 #[.val (.long q), .second] [])) _
                      refine XT.lloadN X0.here hx rfl (hb hby d2_91) rfl ?_
                      show Steps p.tables e below (s₁.setTop (mkF m 92 #[.val (.long q), .second] [(.long q)])) _
                      refine XS.bipush X0.here hx rfl (hb hby d2_92) ?_
                      show Steps p.tables e below (s₁.setTop (mkF m 94 #[.val (.long q), .second] [(.int (63 : Int32)), (.long q)])) _
                      refine XT.lushr X0.here hx rfl (hb hby d2_94) rfl ?_
                      show Steps p.tables e below (s₁.setTop (mkF m 95 #[.val (.long q), .second] [(.long (XT.ushrL q (63 : Int32)))])) _
                      refine XT.lconst X0.here hx rfl (hb hby d2_95) ?_
                      show Steps p.tables e below (s₁.setTop (mkF m 96 #[.val (.long q), .second] [(.long (0 : Int64)), (.long (XT.ushrL q (63 : Int32)))])) _
                      refine XT.lcmp X0.here hx rfl (hb hby d2_96) rfl ?_
                      show Steps p.tables e below (s₁.setTop (mkF m 97 #[.val (.long q), .second] [(.int (XT.cmpL (XT.ushrL q (63 : Int32)) (0 : Int64)))])) _
                      refine XS.ifYes X0.here hx rfl (pc0 := 97) (pc' := 103) rfl (hb hby d2_97) rfl (XT.ll_ne_t hp8) (by decide) (by decide) ?_
                      show Steps p.tables e below (s₁.setTop (mkF m 103 #[.val (.long q), .second] [])) _
                      refine XS.bipush X0.here hx rfl (hb hby d2_103) ?_
                      show Steps p.tables e below (s₁.setTop (mkF m 105 #[.val (.long q), .second] [(.int (10 : Int32))])) _
                      exact retI X0 hx Bd.returns (hb hby d2_105) hr
                    · show Q_own_lenOf Z q  h0 n0 _ s₁.heap _
                      rw [e0]
                      exact ⟨by unfold own_len; rw [if_neg hp0, if_neg hp1, if_neg hp2, if_neg hp3, if_neg hp4, if_neg hp5, if_neg hp6, if_neg hp7, if_neg hp8], N0, rfl⟩
theorem d3_0 : decode method_4_code 0 = .ok (.iload_n 0, 1) := by decide +kernel
theorem d3_1 : decode method_4_code 1 = .ok (.iload_n 1, 1) := by decide +kernel
theorem d3_2 : decode method_4_code 2 = .ok (.isub, 1) := by decide +kernel
theorem d3_3 : decode method_4_code 3 = .ok (.istore 6, 2) := by decide +kernel
theorem d3_5 : decode method_4_code 5 = .ok (.iload 6, 2) := by decide +kernel
theorem d3_7 : decode method_4_code 7 = .ok (.ifCond .lt 9, 3) := by decide +kernel
theorem d3_10 : decode method_4_code 10 = .ok (.iload 6, 2) := by decide +kernel
theorem d3_12 : decode method_4_code 12 = .ok (.iload_n 2, 1) := by decide +kernel
theorem d3_13 : decode method_4_code 13 = .ok (.if_icmp .lt 6, 3) := by decide +kernel
theorem d3_16 : decode method_4_code 16 = .ok (.iload 5, 2) := by decide +kernel
theorem d3_18 : decode method_4_code 18 = .ok (.ireturn, 1) := by decide +kernel
theorem d3_19 : decode method_4_code 19 = .ok (.lload_n 3, 1) := by decide +kernel
theorem d3_20 : decode method_4_code 20 = .ok (.bipush 7, 2) := by decide +kernel
theorem d3_22 : decode method_4_code 22 = .ok (.iload 6, 2) := by decide +kernel
theorem d3_24 : decode method_4_code 24 = .ok (.imul, 1) := by decide +kernel
theorem d3_25 : decode method_4_code 25 = .ok (.lushr, 1) := by decide +kernel
theorem d3_26 : decode method_4_code 26 = .ok (.ldc2_w 23, 3) := by decide +kernel
theorem d3_29 : decode method_4_code 29 = .ok (.land, 1) := by decide +kernel
theorem d3_30 : decode method_4_code 30 = .ok (.l2i, 1) := by decide +kernel
theorem d3_31 : decode method_4_code 31 = .ok (.istore 7, 2) := by decide +kernel
theorem d3_33 : decode method_4_code 33 = .ok (.iload 6, 2) := by decide +kernel
theorem d3_35 : decode method_4_code 35 = .ok (.iload_n 2, 1) := by decide +kernel
theorem d3_36 : decode method_4_code 36 = .ok (.iconst 1, 1) := by decide +kernel
theorem d3_37 : decode method_4_code 37 = .ok (.isub, 1) := by decide +kernel
theorem d3_38 : decode method_4_code 38 = .ok (.if_icmp .ge 11, 3) := by decide +kernel
theorem d3_41 : decode method_4_code 41 = .ok (.iload 7, 2) := by decide +kernel
theorem d3_43 : decode method_4_code 43 = .ok (.sipush 128, 3) := by decide +kernel
theorem d3_46 : decode method_4_code 46 = .ok (.ior, 1) := by decide +kernel
theorem d3_47 : decode method_4_code 47 = .ok (.i2b, 1) := by decide +kernel
theorem d3_48 : decode method_4_code 48 = .ok (.ireturn, 1) := by decide +kernel
theorem d3_49 : decode method_4_code 49 = .ok (.iload 7, 2) := by decide +kernel
theorem d3_51 : decode method_4_code 51 = .ok (.i2b, 1) := by decide +kernel
theorem d3_52 : decode method_4_code 52 = .ok (.ireturn, 1) := by decide +kernel
theorem pn_own_expd : plainName "com/example/xml_element_search/xmlelementsearch/VarLongPutPinLaw" = true := by first | (simp [plainName, overriddenIn]; done) | decide +kernel
theorem ef_own_expd (m : MethodId) (x0 : Int32) (x1 : Int32) (x2 : Int32) (x3 : Int64) (x4 : Int32) : entryFrame m #[(.int x0), (.int x1), (.int x2), (.long x3), (.int x4)] 8 = mkF m 0 #[.val (.int x0), .val (.int x1), .val (.int x2), .val (.long x3), .second, .val (.int x4), .unset, .unset] [] := by first | (simp [entryFrame, mkF, argsToLocals, Value.category]; done) | rfl
def Q_own_expd (Z : State) (p0 : Int32) (p1 : Int32) (p2 : Int32) (q : Int64) (p4 : Int32)  (h0 : Heap) (n0 : Nat) (v : Option Value) (h : Heap) (L : List Loc) : Prop := v = some (.int (own_exp p0 p1 p2 q p4)) ∧ Fr n0 L ∧ h = h0
set_option maxRecDepth 65536 in
set_option maxHeartbeats 40000000 in
theorem own_expd (l : Launch) (Z : State) (a0 : Array Value) (hw : ∀ d ∈ tables_1, d.before a0 Z = true) (ws : List Jvm.Cond) (p0 : Int32) (p1 : Int32) (p2 : Int32) (q : Int64) (p4 : Int32)  (h0 : Heap) (n0 : Nat) (Z0 : n0 ≤ h0.size)  :
    MetFree l (⟨"com/example/xml_element_search/xmlelementsearch/VarLongPutPinLaw", "expected", "(IIIJB)B"⟩ : MethodName) (head1 (Jvm.Cond.code (⟨"com/example/xml_element_search/xmlelementsearch/VarLongPutPinLaw", "expected", "(IIIJB)B"⟩ : MethodName) method_4_code 8 (some .byte) :: ws) ({ frames := 0, cells := 0, slots := 0, locals := 0 } : Room)) (fun a U => a = #[(.int p0), (.int p1), (.int p2), (.long q), (.int p4)] ∧ Z.Warmed39 U.vm ∧ U.heap = h0) (fun _ _ _ _ _ => True) (fun _ U o U' => ∃ v L, o = .returned v ∧ Q_own_expd Z p0 p1 p2 q p4  h0 n0 v U'.heap L ∧ FrameEnd U o U' L ({ frames := 0, cells := 0, slots := 0, locals := 0 } : Room).cells ({ frames := 0, cells := 0, slots := 0, locals := 0 } : Room).slots) := by
  refine MetFree.of_bodySF (plainFor_of_name pn_own_expd) hisR ?_
  intro p e s m args below meth c s₁ Bd hml0 hP hK
  obtain ⟨rfl, hZ, hh⟩ := hP
  have hx := Bd.exec
  have hby := Bd.bytes
  have hml : c.maxLocals = 8 := hml0
  have hown : s.vm.findClass "com/example/xml_element_search/xmlelementsearch/VarLongPutPinLaw" = some m.cls := findClass_of_methodNamed Bd.named
  have hnm := (name_of_methodNamed Bd.named Bd.method).1
  have X0 : Stand p l e ({ frames := 0, cells := 0, slots := 0, locals := 0 } : Room) s m #[(.int p0), (.int p1), (.int p2), (.long q), (.int p4)] below meth c s₁ [] 0 0 := Stand.of_body Bd
  have e0 : s₁.heap = h0 := by rw [← hh, Bd.state]; rfl
  have N0 := Fr.nil n0
  have pre0 : ∀ t, Steps p.tables e below (s₁.setTop (mkF m 0 #[.val (.int p0), .val (.int p1), .val (.int p2), .val (.long q), .second, .val (.int p4), .unset, .unset] [])) t → Steps p.tables e below (s₁.setTop (entryFrame m #[(.int p0), (.int p1), (.int p2), (.long q), (.int p4)] 8)) t := fun t k => castTop (ef_own_expd m (p0) (p1) (p2) (q) (p4)) k
  by_cases h1 : (p0 - p1) < 0
  · obtain ⟨fs, hr, hrun, hended, hW, hsame⟩ := X0.leave (v := some (.int (p4.toInt8.toInt32))) (fun h => by rw [Bd.returns] at h; cases h)
    refine ⟨_, _, pre0 _ ?_, hrun, hended, _, _, rfl, ?_, ⟨_, rfl⟩, hW, hsame.mono (by decide) (by decide)⟩
    · show Steps p.tables e below (s₁.setTop (mkF m 0 #[.val (.int p0), .val (.int p1), .val (.int p2), .val (.long q), .second, .val (.int p4), .unset, .unset] [])) _
      refine XS.iloadN X0.here hx rfl (hb hby d3_0) rfl ?_
      show Steps p.tables e below (s₁.setTop (mkF m 1 #[.val (.int p0), .val (.int p1), .val (.int p2), .val (.long q), .second, .val (.int p4), .unset, .unset] [(.int p0)])) _
      refine XS.iloadN X0.here hx rfl (hb hby d3_1) rfl ?_
      show Steps p.tables e below (s₁.setTop (mkF m 2 #[.val (.int p0), .val (.int p1), .val (.int p2), .val (.long q), .second, .val (.int p4), .unset, .unset] [(.int p1), (.int p0)])) _
      refine XS.isub X0.here hx rfl (hb hby d3_2) rfl ?_
      show Steps p.tables e below (s₁.setTop (mkF m 3 #[.val (.int p0), .val (.int p1), .val (.int p2), .val (.long q), .second, .val (.int p4), .unset, .unset] [(.int (p0 - p1))])) _
      refine XS.istore X0.here hx rfl (hb hby d3_3) rfl (l' := #[.val (.int p0), .val (.int p1), .val (.int p2), .val (.long q), .second, .val (.int p4), .val (.int (p0 - p1)), .unset]) rfl ?_
      show Steps p.tables e below (s₁.setTop (mkF m 5 #[.val (.int p0), .val (.int p1), .val (.int p2), .val (.long q), .second, .val (.int p4), .val (.int (p0 - p1)), .unset] [])) _
      refine XS.iload X0.here hx rfl (hb hby d3_5) rfl ?_
      show Steps p.tables e below (s₁.setTop (mkF m 7 #[.val (.int p0), .val (.int p1), .val (.int p2), .val (.long q), .second, .val (.int p4), .val (.int (p0 - p1)), .unset] [(.int (p0 - p1))])) _
      refine XS.ifYes X0.here hx rfl (pc0 := 7) (pc' := 16) rfl (hb hby d3_7) rfl (XT.i0_lt_t h1) (by decide) (by decide) ?_
      show Steps p.tables e below (s₁.setTop (mkF m 16 #[.val (.int p0), .val (.int p1), .val (.int p2), .val (.long q), .second, .val (.int p4), .val (.int (p0 - p1)), .unset] [])) _
      refine XS.iload X0.here hx rfl (hb hby d3_16) rfl ?_
      show Steps p.tables e below (s₁.setTop (mkF m 18 #[.val (.int p0), .val (.int p1), .val (.int p2), .val (.long q), .second, .val (.int p4), .val (.int (p0 - p1)), .unset] [(.int p4)])) _
      exact retN X0 hx (t := .byte) Bd.returns (by simp) (hb hby d3_18) hr
    · show Q_own_expd Z p0 p1 p2 q p4  h0 n0 _ s₁.heap _
      rw [e0]
      exact ⟨by unfold own_exp; rw [if_pos h1], N0, rfl⟩
  · by_cases h2 : (p0 - p1) < p2
    · by_cases h3 : (p0 - p1) < (p2 - (1 : Int32))
      · obtain ⟨fs, hr, hrun, hended, hW, hsame⟩ := X0.leave (v := some (.int ((((XT.ushrL q ((7 : Int32) * (p0 - p1))) &&& (127 : Int64)).toInt32 ||| (128 : Int32)).toInt8.toInt32.toInt8.toInt32))) (fun h => by rw [Bd.returns] at h; cases h)
        refine ⟨_, _, pre0 _ ?_, hrun, hended, _, _, rfl, ?_, ⟨_, rfl⟩, hW, hsame.mono (by decide) (by decide)⟩
        · show Steps p.tables e below (s₁.setTop (mkF m 0 #[.val (.int p0), .val (.int p1), .val (.int p2), .val (.long q), .second, .val (.int p4), .unset, .unset] [])) _
          refine XS.iloadN X0.here hx rfl (hb hby d3_0) rfl ?_
          show Steps p.tables e below (s₁.setTop (mkF m 1 #[.val (.int p0), .val (.int p1), .val (.int p2), .val (.long q), .second, .val (.int p4), .unset, .unset] [(.int p0)])) _
          refine XS.iloadN X0.here hx rfl (hb hby d3_1) rfl ?_
          show Steps p.tables e below (s₁.setTop (mkF m 2 #[.val (.int p0), .val (.int p1), .val (.int p2), .val (.long q), .second, .val (.int p4), .unset, .unset] [(.int p1), (.int p0)])) _
          refine XS.isub X0.here hx rfl (hb hby d3_2) rfl ?_
          show Steps p.tables e below (s₁.setTop (mkF m 3 #[.val (.int p0), .val (.int p1), .val (.int p2), .val (.long q), .second, .val (.int p4), .unset, .unset] [(.int (p0 - p1))])) _
          refine XS.istore X0.here hx rfl (hb hby d3_3) rfl (l' := #[.val (.int p0), .val (.int p1), .val (.int p2), .val (.long q), .second, .val (.int p4), .val (.int (p0 - p1)), .unset]) rfl ?_
          show Steps p.tables e below (s₁.setTop (mkF m 5 #[.val (.int p0), .val (.int p1), .val (.int p2), .val (.long q), .second, .val (.int p4), .val (.int (p0 - p1)), .unset] [])) _
          refine XS.iload X0.here hx rfl (hb hby d3_5) rfl ?_
          show Steps p.tables e below (s₁.setTop (mkF m 7 #[.val (.int p0), .val (.int p1), .val (.int p2), .val (.long q), .second, .val (.int p4), .val (.int (p0 - p1)), .unset] [(.int (p0 - p1))])) _
          refine XS.ifNo X0.here hx rfl (hb hby d3_7) rfl (XT.i0_lt_f h1) ?_
          show Steps p.tables e below (s₁.setTop (mkF m 10 #[.val (.int p0), .val (.int p1), .val (.int p2), .val (.long q), .second, .val (.int p4), .val (.int (p0 - p1)), .unset] [])) _
          refine XS.iload X0.here hx rfl (hb hby d3_10) rfl ?_
          show Steps p.tables e below (s₁.setTop (mkF m 12 #[.val (.int p0), .val (.int p1), .val (.int p2), .val (.long q), .second, .val (.int p4), .val (.int (p0 - p1)), .unset] [(.int (p0 - p1))])) _
          refine XS.iloadN X0.here hx rfl (hb hby d3_12) rfl ?_
          show Steps p.tables e below (s₁.setTop (mkF m 13 #[.val (.int p0), .val (.int p1), .val (.int p2), .val (.long q), .second, .val (.int p4), .val (.int (p0 - p1)), .unset] [(.int p2), (.int (p0 - p1))])) _
          refine XS.icmpYes X0.here hx rfl (pc0 := 13) (pc' := 19) rfl (hb hby d3_13) rfl (XT.ii_lt_t h2) (by decide) (by decide) ?_
          show Steps p.tables e below (s₁.setTop (mkF m 19 #[.val (.int p0), .val (.int p1), .val (.int p2), .val (.long q), .second, .val (.int p4), .val (.int (p0 - p1)), .unset] [])) _
          refine XT.lloadN X0.here hx rfl (hb hby d3_19) rfl ?_
          show Steps p.tables e below (s₁.setTop (mkF m 20 #[.val (.int p0), .val (.int p1), .val (.int p2), .val (.long q), .second, .val (.int p4), .val (.int (p0 - p1)), .unset] [(.long q)])) _
          refine XS.bipush X0.here hx rfl (hb hby d3_20) ?_
          show Steps p.tables e below (s₁.setTop (mkF m 22 #[.val (.int p0), .val (.int p1), .val (.int p2), .val (.long q), .second, .val (.int p4), .val (.int (p0 - p1)), .unset] [(.int (7 : Int32)), (.long q)])) _
          refine XS.iload X0.here hx rfl (hb hby d3_22) rfl ?_
          show Steps p.tables e below (s₁.setTop (mkF m 24 #[.val (.int p0), .val (.int p1), .val (.int p2), .val (.long q), .second, .val (.int p4), .val (.int (p0 - p1)), .unset] [(.int (p0 - p1)), (.int (7 : Int32)), (.long q)])) _
          refine XS.imul X0.here hx rfl (hb hby d3_24) rfl ?_
          show Steps p.tables e below (s₁.setTop (mkF m 25 #[.val (.int p0), .val (.int p1), .val (.int p2), .val (.long q), .second, .val (.int p4), .val (.int (p0 - p1)), .unset] [(.int ((7 : Int32) * (p0 - p1))), (.long q)])) _
          refine XT.lushr X0.here hx rfl (hb hby d3_25) rfl ?_
          show Steps p.tables e below (s₁.setTop (mkF m 26 #[.val (.int p0), .val (.int p1), .val (.int p2), .val (.long q), .second, .val (.int p4), .val (.int (p0 - p1)), .unset] [(.long (XT.ushrL q ((7 : Int32) * (p0 - p1))))])) _
          refine Jvm.Stand.ldc2J X0 hx hown (mvT hZ (hw _ (List.mem_of_getElem? (i := 13) rfl))) (g := (mkF m 26 #[.val (.int p0), .val (.int p1), .val (.int p2), .val (.long q), .second, .val (.int p4), .val (.int (p0 - p1)), .unset] [(.long (XT.ushrL q ((7 : Int32) * (p0 - p1))))])) rfl (hb hby d3_26) ?_
          show Steps p.tables e below (s₁.setTop (mkF m 29 #[.val (.int p0), .val (.int p1), .val (.int p2), .val (.long q), .second, .val (.int p4), .val (.int (p0 - p1)), .unset] [(.long (127 : Int64)), (.long (XT.ushrL q ((7 : Int32) * (p0 - p1))))])) _
          refine XT.land X0.here hx rfl (hb hby d3_29) rfl ?_
          show Steps p.tables e below (s₁.setTop (mkF m 30 #[.val (.int p0), .val (.int p1), .val (.int p2), .val (.long q), .second, .val (.int p4), .val (.int (p0 - p1)), .unset] [(.long ((XT.ushrL q ((7 : Int32) * (p0 - p1))) &&& (127 : Int64)))])) _
          refine XT.l2i X0.here hx rfl (hb hby d3_30) rfl ?_
          show Steps p.tables e below (s₁.setTop (mkF m 31 #[.val (.int p0), .val (.int p1), .val (.int p2), .val (.long q), .second, .val (.int p4), .val (.int (p0 - p1)), .unset] [(.int ((XT.ushrL q ((7 : Int32) * (p0 - p1))) &&& (127 : Int64)).toInt32)])) _
          refine XS.istore X0.here hx rfl (hb hby d3_31) rfl (l' := #[.val (.int p0), .val (.int p1), .val (.int p2), .val (.long q), .second, .val (.int p4), .val (.int (p0 - p1)), .val (.int ((XT.ushrL q ((7 : Int32) * (p0 - p1))) &&& (127 : Int64)).toInt32)]) rfl ?_
          show Steps p.tables e below (s₁.setTop (mkF m 33 #[.val (.int p0), .val (.int p1), .val (.int p2), .val (.long q), .second, .val (.int p4), .val (.int (p0 - p1)), .val (.int ((XT.ushrL q ((7 : Int32) * (p0 - p1))) &&& (127 : Int64)).toInt32)] [])) _
          refine XS.iload X0.here hx rfl (hb hby d3_33) rfl ?_
          show Steps p.tables e below (s₁.setTop (mkF m 35 #[.val (.int p0), .val (.int p1), .val (.int p2), .val (.long q), .second, .val (.int p4), .val (.int (p0 - p1)), .val (.int ((XT.ushrL q ((7 : Int32) * (p0 - p1))) &&& (127 : Int64)).toInt32)] [(.int (p0 - p1))])) _
          refine XS.iloadN X0.here hx rfl (hb hby d3_35) rfl ?_
          show Steps p.tables e below (s₁.setTop (mkF m 36 #[.val (.int p0), .val (.int p1), .val (.int p2), .val (.long q), .second, .val (.int p4), .val (.int (p0 - p1)), .val (.int ((XT.ushrL q ((7 : Int32) * (p0 - p1))) &&& (127 : Int64)).toInt32)] [(.int p2), (.int (p0 - p1))])) _
          refine XS.iconst X0.here hx rfl (hb hby d3_36) ?_
          show Steps p.tables e below (s₁.setTop (mkF m 37 #[.val (.int p0), .val (.int p1), .val (.int p2), .val (.long q), .second, .val (.int p4), .val (.int (p0 - p1)), .val (.int ((XT.ushrL q ((7 : Int32) * (p0 - p1))) &&& (127 : Int64)).toInt32)] [(.int (1 : Int32)), (.int p2), (.int (p0 - p1))])) _
          refine XS.isub X0.here hx rfl (hb hby d3_37) rfl ?_
          show Steps p.tables e below (s₁.setTop (mkF m 38 #[.val (.int p0), .val (.int p1), .val (.int p2), .val (.long q), .second, .val (.int p4), .val (.int (p0 - p1)), .val (.int ((XT.ushrL q ((7 : Int32) * (p0 - p1))) &&& (127 : Int64)).toInt32)] [(.int (p2 - (1 : Int32))), (.int (p0 - p1))])) _
          refine XS.icmpNo X0.here hx rfl (hb hby d3_38) rfl (XT.ii_ge_f h3) ?_
          show Steps p.tables e below (s₁.setTop (mkF m 41 #[.val (.int p0), .val (.int p1), .val (.int p2), .val (.long q), .second, .val (.int p4), .val (.int (p0 - p1)), .val (.int ((XT.ushrL q ((7 : Int32) * (p0 - p1))) &&& (127 : Int64)).toInt32)] [])) _
          refine XS.iload X0.here hx rfl (hb hby d3_41) rfl ?_
          show Steps p.tables e below (s₁.setTop (mkF m 43 #[.val (.int p0), .val (.int p1), .val (.int p2), .val (.long q), .second, .val (.int p4), .val (.int (p0 - p1)), .val (.int ((XT.ushrL q ((7 : Int32) * (p0 - p1))) &&& (127 : Int64)).toInt32)] [(.int ((XT.ushrL q ((7 : Int32) * (p0 - p1))) &&& (127 : Int64)).toInt32)])) _
          refine XS.sipush X0.here hx rfl (hb hby d3_43) ?_
          show Steps p.tables e below (s₁.setTop (mkF m 46 #[.val (.int p0), .val (.int p1), .val (.int p2), .val (.long q), .second, .val (.int p4), .val (.int (p0 - p1)), .val (.int ((XT.ushrL q ((7 : Int32) * (p0 - p1))) &&& (127 : Int64)).toInt32)] [(.int (128 : Int32)), (.int ((XT.ushrL q ((7 : Int32) * (p0 - p1))) &&& (127 : Int64)).toInt32)])) _
          refine XT.ior X0.here hx rfl (hb hby d3_46) rfl ?_
          show Steps p.tables e below (s₁.setTop (mkF m 47 #[.val (.int p0), .val (.int p1), .val (.int p2), .val (.long q), .second, .val (.int p4), .val (.int (p0 - p1)), .val (.int ((XT.ushrL q ((7 : Int32) * (p0 - p1))) &&& (127 : Int64)).toInt32)] [(.int (((XT.ushrL q ((7 : Int32) * (p0 - p1))) &&& (127 : Int64)).toInt32 ||| (128 : Int32)))])) _
          refine XT.i2b X0.here hx rfl (hb hby d3_47) rfl ?_
          show Steps p.tables e below (s₁.setTop (mkF m 48 #[.val (.int p0), .val (.int p1), .val (.int p2), .val (.long q), .second, .val (.int p4), .val (.int (p0 - p1)), .val (.int ((XT.ushrL q ((7 : Int32) * (p0 - p1))) &&& (127 : Int64)).toInt32)] [(.int (((XT.ushrL q ((7 : Int32) * (p0 - p1))) &&& (127 : Int64)).toInt32 ||| (128 : Int32)).toInt8.toInt32)])) _
          exact retN X0 hx (t := .byte) Bd.returns (by simp) (hb hby d3_48) hr
        · show Q_own_expd Z p0 p1 p2 q p4  h0 n0 _ s₁.heap _
          rw [e0]
          exact ⟨by unfold own_exp; rw [if_neg h1, if_pos h2, if_pos h3], N0, rfl⟩
      · obtain ⟨fs, hr, hrun, hended, hW, hsame⟩ := X0.leave (v := some (.int (((XT.ushrL q ((7 : Int32) * (p0 - p1))) &&& (127 : Int64)).toInt32.toInt8.toInt32.toInt8.toInt32))) (fun h => by rw [Bd.returns] at h; cases h)
        refine ⟨_, _, pre0 _ ?_, hrun, hended, _, _, rfl, ?_, ⟨_, rfl⟩, hW, hsame.mono (by decide) (by decide)⟩
        · show Steps p.tables e below (s₁.setTop (mkF m 0 #[.val (.int p0), .val (.int p1), .val (.int p2), .val (.long q), .second, .val (.int p4), .unset, .unset] [])) _
          refine XS.iloadN X0.here hx rfl (hb hby d3_0) rfl ?_
          show Steps p.tables e below (s₁.setTop (mkF m 1 #[.val (.int p0), .val (.int p1), .val (.int p2), .val (.long q), .second, .val (.int p4), .unset, .unset] [(.int p0)])) _
          refine XS.iloadN X0.here hx rfl (hb hby d3_1) rfl ?_
          show Steps p.tables e below (s₁.setTop (mkF m 2 #[.val (.int p0), .val (.int p1), .val (.int p2), .val (.long q), .second, .val (.int p4), .unset, .unset] [(.int p1), (.int p0)])) _
          refine XS.isub X0.here hx rfl (hb hby d3_2) rfl ?_
          show Steps p.tables e below (s₁.setTop (mkF m 3 #[.val (.int p0), .val (.int p1), .val (.int p2), .val (.long q), .second, .val (.int p4), .unset, .unset] [(.int (p0 - p1))])) _
          refine XS.istore X0.here hx rfl (hb hby d3_3) rfl (l' := #[.val (.int p0), .val (.int p1), .val (.int p2), .val (.long q), .second, .val (.int p4), .val (.int (p0 - p1)), .unset]) rfl ?_
          show Steps p.tables e below (s₁.setTop (mkF m 5 #[.val (.int p0), .val (.int p1), .val (.int p2), .val (.long q), .second, .val (.int p4), .val (.int (p0 - p1)), .unset] [])) _
          refine XS.iload X0.here hx rfl (hb hby d3_5) rfl ?_
          show Steps p.tables e below (s₁.setTop (mkF m 7 #[.val (.int p0), .val (.int p1), .val (.int p2), .val (.long q), .second, .val (.int p4), .val (.int (p0 - p1)), .unset] [(.int (p0 - p1))])) _
          refine XS.ifNo X0.here hx rfl (hb hby d3_7) rfl (XT.i0_lt_f h1) ?_
          show Steps p.tables e below (s₁.setTop (mkF m 10 #[.val (.int p0), .val (.int p1), .val (.int p2), .val (.long q), .second, .val (.int p4), .val (.int (p0 - p1)), .unset] [])) _
          refine XS.iload X0.here hx rfl (hb hby d3_10) rfl ?_
          show Steps p.tables e below (s₁.setTop (mkF m 12 #[.val (.int p0), .val (.int p1), .val (.int p2), .val (.long q), .second, .val (.int p4), .val (.int (p0 - p1)), .unset] [(.int (p0 - p1))])) _
          refine XS.iloadN X0.here hx rfl (hb hby d3_12) rfl ?_
          show Steps p.tables e below (s₁.setTop (mkF m 13 #[.val (.int p0), .val (.int p1), .val (.int p2), .val (.long q), .second, .val (.int p4), .val (.int (p0 - p1)), .unset] [(.int p2), (.int (p0 - p1))])) _
          refine XS.icmpYes X0.here hx rfl (pc0 := 13) (pc' := 19) rfl (hb hby d3_13) rfl (XT.ii_lt_t h2) (by decide) (by decide) ?_
          show Steps p.tables e below (s₁.setTop (mkF m 19 #[.val (.int p0), .val (.int p1), .val (.int p2), .val (.long q), .second, .val (.int p4), .val (.int (p0 - p1)), .unset] [])) _
          refine XT.lloadN X0.here hx rfl (hb hby d3_19) rfl ?_
          show Steps p.tables e below (s₁.setTop (mkF m 20 #[.val (.int p0), .val (.int p1), .val (.int p2), .val (.long q), .second, .val (.int p4), .val (.int (p0 - p1)), .unset] [(.long q)])) _
          refine XS.bipush X0.here hx rfl (hb hby d3_20) ?_
          show Steps p.tables e below (s₁.setTop (mkF m 22 #[.val (.int p0), .val (.int p1), .val (.int p2), .val (.long q), .second, .val (.int p4), .val (.int (p0 - p1)), .unset] [(.int (7 : Int32)), (.long q)])) _
          refine XS.iload X0.here hx rfl (hb hby d3_22) rfl ?_
          show Steps p.tables e below (s₁.setTop (mkF m 24 #[.val (.int p0), .val (.int p1), .val (.int p2), .val (.long q), .second, .val (.int p4), .val (.int (p0 - p1)), .unset] [(.int (p0 - p1)), (.int (7 : Int32)), (.long q)])) _
          refine XS.imul X0.here hx rfl (hb hby d3_24) rfl ?_
          show Steps p.tables e below (s₁.setTop (mkF m 25 #[.val (.int p0), .val (.int p1), .val (.int p2), .val (.long q), .second, .val (.int p4), .val (.int (p0 - p1)), .unset] [(.int ((7 : Int32) * (p0 - p1))), (.long q)])) _
          refine XT.lushr X0.here hx rfl (hb hby d3_25) rfl ?_
          show Steps p.tables e below (s₁.setTop (mkF m 26 #[.val (.int p0), .val (.int p1), .val (.int p2), .val (.long q), .second, .val (.int p4), .val (.int (p0 - p1)), .unset] [(.long (XT.ushrL q ((7 : Int32) * (p0 - p1))))])) _
          refine Jvm.Stand.ldc2J X0 hx hown (mvT hZ (hw _ (List.mem_of_getElem? (i := 13) rfl))) (g := (mkF m 26 #[.val (.int p0), .val (.int p1), .val (.int p2), .val (.long q), .second, .val (.int p4), .val (.int (p0 - p1)), .unset] [(.long (XT.ushrL q ((7 : Int32) * (p0 - p1))))])) rfl (hb hby d3_26) ?_
          show Steps p.tables e below (s₁.setTop (mkF m 29 #[.val (.int p0), .val (.int p1), .val (.int p2), .val (.long q), .second, .val (.int p4), .val (.int (p0 - p1)), .unset] [(.long (127 : Int64)), (.long (XT.ushrL q ((7 : Int32) * (p0 - p1))))])) _
          refine XT.land X0.here hx rfl (hb hby d3_29) rfl ?_
          show Steps p.tables e below (s₁.setTop (mkF m 30 #[.val (.int p0), .val (.int p1), .val (.int p2), .val (.long q), .second, .val (.int p4), .val (.int (p0 - p1)), .unset] [(.long ((XT.ushrL q ((7 : Int32) * (p0 - p1))) &&& (127 : Int64)))])) _
          refine XT.l2i X0.here hx rfl (hb hby d3_30) rfl ?_
          show Steps p.tables e below (s₁.setTop (mkF m 31 #[.val (.int p0), .val (.int p1), .val (.int p2), .val (.long q), .second, .val (.int p4), .val (.int (p0 - p1)), .unset] [(.int ((XT.ushrL q ((7 : Int32) * (p0 - p1))) &&& (127 : Int64)).toInt32)])) _
          refine XS.istore X0.here hx rfl (hb hby d3_31) rfl (l' := #[.val (.int p0), .val (.int p1), .val (.int p2), .val (.long q), .second, .val (.int p4), .val (.int (p0 - p1)), .val (.int ((XT.ushrL q ((7 : Int32) * (p0 - p1))) &&& (127 : Int64)).toInt32)]) rfl ?_
          show Steps p.tables e below (s₁.setTop (mkF m 33 #[.val (.int p0), .val (.int p1), .val (.int p2), .val (.long q), .second, .val (.int p4), .val (.int (p0 - p1)), .val (.int ((XT.ushrL q ((7 : Int32) * (p0 - p1))) &&& (127 : Int64)).toInt32)] [])) _
          refine XS.iload X0.here hx rfl (hb hby d3_33) rfl ?_
          show Steps p.tables e below (s₁.setTop (mkF m 35 #[.val (.int p0), .val (.int p1), .val (.int p2), .val (.long q), .second, .val (.int p4), .val (.int (p0 - p1)), .val (.int ((XT.ushrL q ((7 : Int32) * (p0 - p1))) &&& (127 : Int64)).toInt32)] [(.int (p0 - p1))])) _
          refine XS.iloadN X0.here hx rfl (hb hby d3_35) rfl ?_
          show Steps p.tables e below (s₁.setTop (mkF m 36 #[.val (.int p0), .val (.int p1), .val (.int p2), .val (.long q), .second, .val (.int p4), .val (.int (p0 - p1)), .val (.int ((XT.ushrL q ((7 : Int32) * (p0 - p1))) &&& (127 : Int64)).toInt32)] [(.int p2), (.int (p0 - p1))])) _
          refine XS.iconst X0.here hx rfl (hb hby d3_36) ?_
          show Steps p.tables e below (s₁.setTop (mkF m 37 #[.val (.int p0), .val (.int p1), .val (.int p2), .val (.long q), .second, .val (.int p4), .val (.int (p0 - p1)), .val (.int ((XT.ushrL q ((7 : Int32) * (p0 - p1))) &&& (127 : Int64)).toInt32)] [(.int (1 : Int32)), (.int p2), (.int (p0 - p1))])) _
          refine XS.isub X0.here hx rfl (hb hby d3_37) rfl ?_
          show Steps p.tables e below (s₁.setTop (mkF m 38 #[.val (.int p0), .val (.int p1), .val (.int p2), .val (.long q), .second, .val (.int p4), .val (.int (p0 - p1)), .val (.int ((XT.ushrL q ((7 : Int32) * (p0 - p1))) &&& (127 : Int64)).toInt32)] [(.int (p2 - (1 : Int32))), (.int (p0 - p1))])) _
          refine XS.icmpYes X0.here hx rfl (pc0 := 38) (pc' := 49) rfl (hb hby d3_38) rfl (XT.ii_ge_t h3) (by decide) (by decide) ?_
          show Steps p.tables e below (s₁.setTop (mkF m 49 #[.val (.int p0), .val (.int p1), .val (.int p2), .val (.long q), .second, .val (.int p4), .val (.int (p0 - p1)), .val (.int ((XT.ushrL q ((7 : Int32) * (p0 - p1))) &&& (127 : Int64)).toInt32)] [])) _
          refine XS.iload X0.here hx rfl (hb hby d3_49) rfl ?_
          show Steps p.tables e below (s₁.setTop (mkF m 51 #[.val (.int p0), .val (.int p1), .val (.int p2), .val (.long q), .second, .val (.int p4), .val (.int (p0 - p1)), .val (.int ((XT.ushrL q ((7 : Int32) * (p0 - p1))) &&& (127 : Int64)).toInt32)] [(.int ((XT.ushrL q ((7 : Int32) * (p0 - p1))) &&& (127 : Int64)).toInt32)])) _
          refine XT.i2b X0.here hx rfl (hb hby d3_51) rfl ?_
          show Steps p.tables e below (s₁.setTop (mkF m 52 #[.val (.int p0), .val (.int p1), .val (.int p2), .val (.long q), .second, .val (.int p4), .val (.int (p0 - p1)), .val (.int ((XT.ushrL q ((7 : Int32) * (p0 - p1))) &&& (127 : Int64)).toInt32)] [(.int ((XT.ushrL q ((7 : Int32) * (p0 - p1))) &&& (127 : Int64)).toInt32.toInt8.toInt32)])) _
          exact retN X0 hx (t := .byte) Bd.returns (by simp) (hb hby d3_52) hr
        · show Q_own_expd Z p0 p1 p2 q p4  h0 n0 _ s₁.heap _
          rw [e0]
          exact ⟨by unfold own_exp; rw [if_neg h1, if_pos h2, if_neg h3], N0, rfl⟩
    · obtain ⟨fs, hr, hrun, hended, hW, hsame⟩ := X0.leave (v := some (.int (p4.toInt8.toInt32))) (fun h => by rw [Bd.returns] at h; cases h)
      refine ⟨_, _, pre0 _ ?_, hrun, hended, _, _, rfl, ?_, ⟨_, rfl⟩, hW, hsame.mono (by decide) (by decide)⟩
      · show Steps p.tables e below (s₁.setTop (mkF m 0 #[.val (.int p0), .val (.int p1), .val (.int p2), .val (.long q), .second, .val (.int p4), .unset, .unset] [])) _
        refine XS.iloadN X0.here hx rfl (hb hby d3_0) rfl ?_
        show Steps p.tables e below (s₁.setTop (mkF m 1 #[.val (.int p0), .val (.int p1), .val (.int p2), .val (.long q), .second, .val (.int p4), .unset, .unset] [(.int p0)])) _
        refine XS.iloadN X0.here hx rfl (hb hby d3_1) rfl ?_
        show Steps p.tables e below (s₁.setTop (mkF m 2 #[.val (.int p0), .val (.int p1), .val (.int p2), .val (.long q), .second, .val (.int p4), .unset, .unset] [(.int p1), (.int p0)])) _
        refine XS.isub X0.here hx rfl (hb hby d3_2) rfl ?_
        show Steps p.tables e below (s₁.setTop (mkF m 3 #[.val (.int p0), .val (.int p1), .val (.int p2), .val (.long q), .second, .val (.int p4), .unset, .unset] [(.int (p0 - p1))])) _
        refine XS.istore X0.here hx rfl (hb hby d3_3) rfl (l' := #[.val (.int p0), .val (.int p1), .val (.int p2), .val (.long q), .second, .val (.int p4), .val (.int (p0 - p1)), .unset]) rfl ?_
        show Steps p.tables e below (s₁.setTop (mkF m 5 #[.val (.int p0), .val (.int p1), .val (.int p2), .val (.long q), .second, .val (.int p4), .val (.int (p0 - p1)), .unset] [])) _
        refine XS.iload X0.here hx rfl (hb hby d3_5) rfl ?_
        show Steps p.tables e below (s₁.setTop (mkF m 7 #[.val (.int p0), .val (.int p1), .val (.int p2), .val (.long q), .second, .val (.int p4), .val (.int (p0 - p1)), .unset] [(.int (p0 - p1))])) _
        refine XS.ifNo X0.here hx rfl (hb hby d3_7) rfl (XT.i0_lt_f h1) ?_
        show Steps p.tables e below (s₁.setTop (mkF m 10 #[.val (.int p0), .val (.int p1), .val (.int p2), .val (.long q), .second, .val (.int p4), .val (.int (p0 - p1)), .unset] [])) _
        refine XS.iload X0.here hx rfl (hb hby d3_10) rfl ?_
        show Steps p.tables e below (s₁.setTop (mkF m 12 #[.val (.int p0), .val (.int p1), .val (.int p2), .val (.long q), .second, .val (.int p4), .val (.int (p0 - p1)), .unset] [(.int (p0 - p1))])) _
        refine XS.iloadN X0.here hx rfl (hb hby d3_12) rfl ?_
        show Steps p.tables e below (s₁.setTop (mkF m 13 #[.val (.int p0), .val (.int p1), .val (.int p2), .val (.long q), .second, .val (.int p4), .val (.int (p0 - p1)), .unset] [(.int p2), (.int (p0 - p1))])) _
        refine XS.icmpNo X0.here hx rfl (hb hby d3_13) rfl (XT.ii_lt_f h2) ?_
        show Steps p.tables e below (s₁.setTop (mkF m 16 #[.val (.int p0), .val (.int p1), .val (.int p2), .val (.long q), .second, .val (.int p4), .val (.int (p0 - p1)), .unset] [])) _
        refine XS.iload X0.here hx rfl (hb hby d3_16) rfl ?_
        show Steps p.tables e below (s₁.setTop (mkF m 18 #[.val (.int p0), .val (.int p1), .val (.int p2), .val (.long q), .second, .val (.int p4), .val (.int (p0 - p1)), .unset] [(.int p4)])) _
        exact retN X0 hx (t := .byte) Bd.returns (by simp) (hb hby d3_18) hr
      · show Q_own_expd Z p0 p1 p2 q p4  h0 n0 _ s₁.heap _
        rw [e0]
        exact ⟨by unfold own_exp; rw [if_neg h1, if_neg h2], N0, rfl⟩
theorem d1_0 : decode prog_104_method_2_code 0 = .ok (.iload_n 1, 1) := by decide +kernel
theorem d1_1 : decode prog_104_method_2_code 1 = .ok (.istore 4, 2) := by decide +kernel
theorem d1_3 : decode prog_104_method_2_code 3 = .ok (.lload_n 2, 1) := by decide +kernel
theorem d1_4 : decode prog_104_method_2_code 4 = .ok (.lstore 5, 2) := by decide +kernel
theorem d1_6 : decode prog_104_method_2_code 6 = .ok (.lload 5, 2) := by decide +kernel
theorem d1_8 : decode prog_104_method_2_code 8 = .ok (.ldc2_w 7, 3) := by decide +kernel
theorem d1_11 : decode prog_104_method_2_code 11 = .ok (.land, 1) := by decide +kernel
theorem d1_12 : decode prog_104_method_2_code 12 = .ok (.lconst 0, 1) := by decide +kernel
theorem d1_13 : decode prog_104_method_2_code 13 = .ok (.lcmp, 1) := by decide +kernel
theorem d1_14 : decode prog_104_method_2_code 14 = .ok (.ifCond .eq 32, 3) := by decide +kernel
theorem d1_17 : decode prog_104_method_2_code 17 = .ok (.aload_n 0, 1) := by decide +kernel
theorem d1_18 : decode prog_104_method_2_code 18 = .ok (.iload 4, 2) := by decide +kernel
theorem d1_20 : decode prog_104_method_2_code 20 = .ok (.iinc 4 1, 3) := by decide +kernel
theorem d1_23 : decode prog_104_method_2_code 23 = .ok (.lload 5, 2) := by decide +kernel
theorem d1_25 : decode prog_104_method_2_code 25 = .ok (.ldc2_w 9, 3) := by decide +kernel
theorem d1_28 : decode prog_104_method_2_code 28 = .ok (.land, 1) := by decide +kernel
theorem d1_29 : decode prog_104_method_2_code 29 = .ok (.ldc2_w 11, 3) := by decide +kernel
theorem d1_32 : decode prog_104_method_2_code 32 = .ok (.lor, 1) := by decide +kernel
theorem d1_33 : decode prog_104_method_2_code 33 = .ok (.l2i, 1) := by decide +kernel
theorem d1_34 : decode prog_104_method_2_code 34 = .ok (.i2b, 1) := by decide +kernel
theorem d1_35 : decode prog_104_method_2_code 35 = .ok (.bastore, 1) := by decide +kernel
theorem d1_36 : decode prog_104_method_2_code 36 = .ok (.lload 5, 2) := by decide +kernel
theorem d1_38 : decode prog_104_method_2_code 38 = .ok (.bipush 7, 2) := by decide +kernel
theorem d1_40 : decode prog_104_method_2_code 40 = .ok (.lushr, 1) := by decide +kernel
theorem d1_41 : decode prog_104_method_2_code 41 = .ok (.lstore 5, 2) := by decide +kernel
theorem d1_43 : decode prog_104_method_2_code 43 = .ok (.goto (-37), 3) := by decide +kernel
theorem d1_46 : decode prog_104_method_2_code 46 = .ok (.aload_n 0, 1) := by decide +kernel
theorem d1_47 : decode prog_104_method_2_code 47 = .ok (.iload 4, 2) := by decide +kernel
theorem d1_49 : decode prog_104_method_2_code 49 = .ok (.iinc 4 1, 3) := by decide +kernel
theorem d1_52 : decode prog_104_method_2_code 52 = .ok (.lload 5, 2) := by decide +kernel
theorem d1_54 : decode prog_104_method_2_code 54 = .ok (.l2i, 1) := by decide +kernel
theorem d1_55 : decode prog_104_method_2_code 55 = .ok (.i2b, 1) := by decide +kernel
theorem d1_56 : decode prog_104_method_2_code 56 = .ok (.bastore, 1) := by decide +kernel
theorem d1_57 : decode prog_104_method_2_code 57 = .ok (.iload 4, 2) := by decide +kernel
theorem d1_59 : decode prog_104_method_2_code 59 = .ok (.ireturn, 1) := by decide +kernel
theorem pn_own_put : plainName "com/example/xml_element_search/xmlelementsearch/VarLong" = true := by first | (simp [plainName, overriddenIn]; done) | decide +kernel
set_option maxRecDepth 65536 in
set_option maxHeartbeats 40000000 in
theorem own_turn {p : Program} {l : Launch} {e : Env} {s : State} {m : MethodId} {args : Array Value} {below : List Frame} {meth : Method} {c : Code} {T : State} {locs : List Loc} {Z : State} {a0 : Array Value} {h : Heap} {n0 : Nat} (hw : ∀ d ∈ tables_1, d.before a0 Z = true) (X : Stand p l e ({ frames := 0, cells := 0, slots := 0, locals := 0 } : Room) s m args below meth c T locs 0 0) (hx : p.tables.exec = Jvm.exec) (hZ : Z.Warmed39 s.vm) (hby : c.code = prog_104_method_2_code) (hml : c.maxLocals = 7) (hown : s.vm.findClass "com/example/xml_element_search/xmlelementsearch/VarLong" = some m.cls) (eT : T.heap = h) (N : Fr n0 locs) (Z0 : n0 ≤ h.size) (a1 : Addr) (p1 nx : Int32) (q r : Int64) (k : ClassId) (f : Nat → Value) (i : Nat) (g_a1 : n0 ≤ a1) (V_ : Arf Z h a1 k .byte 16 f) (hix : ¬ nx < 0 ∧ nx.toNatClampNeg = i) (hi : i < 16) (hc : ¬ (r &&& (-128 : Int64)) = (0 : Int64)) :
    ∃ T' h' L', Stand p l e ({ frames := 0, cells := 0, slots := 0, locals := 0 } : Room) s m args below meth c T' L' 0 0 ∧ T'.heap = h' ∧ Fr n0 L' ∧ Keep h h' [a1] ∧ Arf Z h' a1 k .byte 16 (upd f i (.int ((((r &&& (127 : Int64)) ||| (128 : Int64)).toInt32).toInt8.toInt32).toInt8.toInt32)) ∧ ∀ target, Steps p.tables e below (T'.setTop (mkF m 6 #[.val (.ref a1), .val (.int p1), .val (.long q), .second, .val (.int (nx + (1 : Int32))), .val (.long (XT.ushrL r (7 : Int32))), .second] [])) target → Steps p.tables e below (T.setTop (mkF m 6 #[.val (.ref a1), .val (.int p1), .val (.long q), .second, .val (.int nx), .val (.long r), .second] [])) target := by
  obtain ⟨cl13, Ar13, qk13, S13, B13, H13, G13⟩ := id V_
  have hin13 : ¬ (nx < 0 ∨ cl13.slots.size ≤ (nx).toNatClampNeg) := own_inb S13 hix hi
  obtain ⟨T13, h13, X13, e13, W13, st13⟩ := stB X hx hZ eT Ar13 (j := nx) hin13 (g := (mkF m 35 #[.val (.ref a1), .val (.int p1), .val (.long q), .second, .val (.int (nx + (1 : Int32))), .val (.long r), .second] [(.int ((r &&& (127 : Int64)) ||| (128 : Int64)).toInt32.toInt8.toInt32), (.int nx), (.ref a1)])) rfl rfl (hb hby d1_35)
  have V13 := own_set Ar13 qk13 S13 B13 H13 G13 (fits_nar_byte _) hix W13
  have N13 := Fr.snoc X13 N g_a1
  refine ⟨T13, h13, _, X13, e13, N13, (Keep.of_wr W13), V13, fun target k => ?_⟩
  show Steps p.tables e below (T.setTop (mkF m 6 #[.val (.ref a1), .val (.int p1), .val (.long q), .second, .val (.int nx), .val (.long r), .second] [])) _
  refine XT.lload X.here hx rfl (hb hby d1_6) rfl ?_
  show Steps p.tables e below (T.setTop (mkF m 8 #[.val (.ref a1), .val (.int p1), .val (.long q), .second, .val (.int nx), .val (.long r), .second] [(.long r)])) _
  refine Jvm.Stand.ldc2J X hx hown (mvT hZ (hw _ (List.mem_of_getElem? (i := 5) rfl))) (g := (mkF m 8 #[.val (.ref a1), .val (.int p1), .val (.long q), .second, .val (.int nx), .val (.long r), .second] [(.long r)])) rfl (hb hby d1_8) ?_
  show Steps p.tables e below (T.setTop (mkF m 11 #[.val (.ref a1), .val (.int p1), .val (.long q), .second, .val (.int nx), .val (.long r), .second] [(.long (-128 : Int64)), (.long r)])) _
  refine XT.land X.here hx rfl (hb hby d1_11) rfl ?_
  show Steps p.tables e below (T.setTop (mkF m 12 #[.val (.ref a1), .val (.int p1), .val (.long q), .second, .val (.int nx), .val (.long r), .second] [(.long (r &&& (-128 : Int64)))])) _
  refine XT.lconst X.here hx rfl (hb hby d1_12) ?_
  show Steps p.tables e below (T.setTop (mkF m 13 #[.val (.ref a1), .val (.int p1), .val (.long q), .second, .val (.int nx), .val (.long r), .second] [(.long (0 : Int64)), (.long (r &&& (-128 : Int64)))])) _
  refine XT.lcmp X.here hx rfl (hb hby d1_13) rfl ?_
  show Steps p.tables e below (T.setTop (mkF m 14 #[.val (.ref a1), .val (.int p1), .val (.long q), .second, .val (.int nx), .val (.long r), .second] [(.int (XT.cmpL (r &&& (-128 : Int64)) (0 : Int64)))])) _
  refine XS.ifNo X.here hx rfl (hb hby d1_14) rfl (XT.ll_eq_f hc) ?_
  show Steps p.tables e below (T.setTop (mkF m 17 #[.val (.ref a1), .val (.int p1), .val (.long q), .second, .val (.int nx), .val (.long r), .second] [])) _
  refine XS.aloadN X.here hx rfl (hb hby d1_17) rfl rfl ?_
  show Steps p.tables e below (T.setTop (mkF m 18 #[.val (.ref a1), .val (.int p1), .val (.long q), .second, .val (.int nx), .val (.long r), .second] [(.ref a1)])) _
  refine XS.iload X.here hx rfl (hb hby d1_18) rfl ?_
  show Steps p.tables e below (T.setTop (mkF m 20 #[.val (.ref a1), .val (.int p1), .val (.long q), .second, .val (.int nx), .val (.long r), .second] [(.int nx), (.ref a1)])) _
  refine XS.iinc X.here hx rfl (hb hby d1_20) rfl (l' := #[.val (.ref a1), .val (.int p1), .val (.long q), .second, .val (.int (nx + (1 : Int32))), .val (.long r), .second]) rfl ?_
  show Steps p.tables e below (T.setTop (mkF m 23 #[.val (.ref a1), .val (.int p1), .val (.long q), .second, .val (.int (nx + (1 : Int32))), .val (.long r), .second] [(.int nx), (.ref a1)])) _
  refine XT.lload X.here hx rfl (hb hby d1_23) rfl ?_
  show Steps p.tables e below (T.setTop (mkF m 25 #[.val (.ref a1), .val (.int p1), .val (.long q), .second, .val (.int (nx + (1 : Int32))), .val (.long r), .second] [(.long r), (.int nx), (.ref a1)])) _
  refine Jvm.Stand.ldc2J X hx hown (mvT hZ (hw _ (List.mem_of_getElem? (i := 14) rfl))) (g := (mkF m 25 #[.val (.ref a1), .val (.int p1), .val (.long q), .second, .val (.int (nx + (1 : Int32))), .val (.long r), .second] [(.long r), (.int nx), (.ref a1)])) rfl (hb hby d1_25) ?_
  show Steps p.tables e below (T.setTop (mkF m 28 #[.val (.ref a1), .val (.int p1), .val (.long q), .second, .val (.int (nx + (1 : Int32))), .val (.long r), .second] [(.long (127 : Int64)), (.long r), (.int nx), (.ref a1)])) _
  refine XT.land X.here hx rfl (hb hby d1_28) rfl ?_
  show Steps p.tables e below (T.setTop (mkF m 29 #[.val (.ref a1), .val (.int p1), .val (.long q), .second, .val (.int (nx + (1 : Int32))), .val (.long r), .second] [(.long (r &&& (127 : Int64))), (.int nx), (.ref a1)])) _
  refine Jvm.Stand.ldc2J X hx hown (mvT hZ (hw _ (List.mem_of_getElem? (i := 15) rfl))) (g := (mkF m 29 #[.val (.ref a1), .val (.int p1), .val (.long q), .second, .val (.int (nx + (1 : Int32))), .val (.long r), .second] [(.long (r &&& (127 : Int64))), (.int nx), (.ref a1)])) rfl (hb hby d1_29) ?_
  show Steps p.tables e below (T.setTop (mkF m 32 #[.val (.ref a1), .val (.int p1), .val (.long q), .second, .val (.int (nx + (1 : Int32))), .val (.long r), .second] [(.long (128 : Int64)), (.long (r &&& (127 : Int64))), (.int nx), (.ref a1)])) _
  refine XT.lor X.here hx rfl (hb hby d1_32) rfl ?_
  show Steps p.tables e below (T.setTop (mkF m 33 #[.val (.ref a1), .val (.int p1), .val (.long q), .second, .val (.int (nx + (1 : Int32))), .val (.long r), .second] [(.long ((r &&& (127 : Int64)) ||| (128 : Int64))), (.int nx), (.ref a1)])) _
  refine XT.l2i X.here hx rfl (hb hby d1_33) rfl ?_
  show Steps p.tables e below (T.setTop (mkF m 34 #[.val (.ref a1), .val (.int p1), .val (.long q), .second, .val (.int (nx + (1 : Int32))), .val (.long r), .second] [(.int ((r &&& (127 : Int64)) ||| (128 : Int64)).toInt32), (.int nx), (.ref a1)])) _
  refine XT.i2b X.here hx rfl (hb hby d1_34) rfl ?_
  show Steps p.tables e below (T.setTop (mkF m 35 #[.val (.ref a1), .val (.int p1), .val (.long q), .second, .val (.int (nx + (1 : Int32))), .val (.long r), .second] [(.int ((r &&& (127 : Int64)) ||| (128 : Int64)).toInt32.toInt8.toInt32), (.int nx), (.ref a1)])) _
  refine st13 _ ?_
  show Steps p.tables e below (T13.setTop (mkF m 36 #[.val (.ref a1), .val (.int p1), .val (.long q), .second, .val (.int (nx + (1 : Int32))), .val (.long r), .second] [])) _
  refine XT.lload X13.here hx rfl (hb hby d1_36) rfl ?_
  show Steps p.tables e below (T13.setTop (mkF m 38 #[.val (.ref a1), .val (.int p1), .val (.long q), .second, .val (.int (nx + (1 : Int32))), .val (.long r), .second] [(.long r)])) _
  refine XS.bipush X13.here hx rfl (hb hby d1_38) ?_
  show Steps p.tables e below (T13.setTop (mkF m 40 #[.val (.ref a1), .val (.int p1), .val (.long q), .second, .val (.int (nx + (1 : Int32))), .val (.long r), .second] [(.int (7 : Int32)), (.long r)])) _
  refine XT.lushr X13.here hx rfl (hb hby d1_40) rfl ?_
  show Steps p.tables e below (T13.setTop (mkF m 41 #[.val (.ref a1), .val (.int p1), .val (.long q), .second, .val (.int (nx + (1 : Int32))), .val (.long r), .second] [(.long (XT.ushrL r (7 : Int32)))])) _
  refine XT.lstore X13.here hx rfl (hb hby d1_41) rfl (l' := #[.val (.ref a1), .val (.int p1), .val (.long q), .second, .val (.int (nx + (1 : Int32))), .val (.long (XT.ushrL r (7 : Int32))), .second]) rfl ?_
  show Steps p.tables e below (T13.setTop (mkF m 43 #[.val (.ref a1), .val (.int p1), .val (.long q), .second, .val (.int (nx + (1 : Int32))), .val (.long (XT.ushrL r (7 : Int32))), .second] [])) _
  refine XS.goto X13.here hx rfl (pc0 := 43) (pc' := 6) rfl (hb hby d1_43) (by decide) (by decide) ?_
  show Steps p.tables e below (T13.setTop (mkF m 6 #[.val (.ref a1), .val (.int p1), .val (.long q), .second, .val (.int (nx + (1 : Int32))), .val (.long (XT.ushrL r (7 : Int32))), .second] [])) _
  exact k
set_option maxRecDepth 65536 in
set_option maxHeartbeats 40000000 in
theorem own_out6 {p : Program} {l : Launch} {e : Env} {s : State} {m : MethodId} {args : Array Value} {below : List Frame} {meth : Method} {c : Code} {T : State} {locs : List Loc} {Z : State} {a0 : Array Value} {h : Heap} {n0 : Nat} (hw : ∀ d ∈ tables_1, d.before a0 Z = true) (X : Stand p l e ({ frames := 0, cells := 0, slots := 0, locals := 0 } : Room) s m args below meth c T locs 0 0) (hx : p.tables.exec = Jvm.exec) (hZ : Z.Warmed39 s.vm) (hby : c.code = prog_104_method_2_code) (hml : c.maxLocals = 7) (hown : s.vm.findClass "com/example/xml_element_search/xmlelementsearch/VarLong" = some m.cls) (eT : T.heap = h) (N : Fr n0 locs) (Z0 : n0 ≤ h.size) (a1 : Addr) (p1 nx : Int32) (q r : Int64) (hc : (r &&& (-128 : Int64)) = (0 : Int64)) :
    ∃ T' L', Stand p l e ({ frames := 0, cells := 0, slots := 0, locals := 0 } : Room) s m args below meth c T' L' 0 0 ∧ T'.heap = h ∧ Fr n0 L' ∧ ∀ target, Steps p.tables e below (T'.setTop (mkF m 46 #[.val (.ref a1), .val (.int p1), .val (.long q), .second, .val (.int nx), .val (.long r), .second] [])) target → Steps p.tables e below (T.setTop (mkF m 6 #[.val (.ref a1), .val (.int p1), .val (.long q), .second, .val (.int nx), .val (.long r), .second] [])) target := by
  refine ⟨T, _, X, eT, N, fun target k => ?_⟩
  show Steps p.tables e below (T.setTop (mkF m 6 #[.val (.ref a1), .val (.int p1), .val (.long q), .second, .val (.int nx), .val (.long r), .second] [])) _
  refine XT.lload X.here hx rfl (hb hby d1_6) rfl ?_
  show Steps p.tables e below (T.setTop (mkF m 8 #[.val (.ref a1), .val (.int p1), .val (.long q), .second, .val (.int nx), .val (.long r), .second] [(.long r)])) _
  refine Jvm.Stand.ldc2J X hx hown (mvT hZ (hw _ (List.mem_of_getElem? (i := 5) rfl))) (g := (mkF m 8 #[.val (.ref a1), .val (.int p1), .val (.long q), .second, .val (.int nx), .val (.long r), .second] [(.long r)])) rfl (hb hby d1_8) ?_
  show Steps p.tables e below (T.setTop (mkF m 11 #[.val (.ref a1), .val (.int p1), .val (.long q), .second, .val (.int nx), .val (.long r), .second] [(.long (-128 : Int64)), (.long r)])) _
  refine XT.land X.here hx rfl (hb hby d1_11) rfl ?_
  show Steps p.tables e below (T.setTop (mkF m 12 #[.val (.ref a1), .val (.int p1), .val (.long q), .second, .val (.int nx), .val (.long r), .second] [(.long (r &&& (-128 : Int64)))])) _
  refine XT.lconst X.here hx rfl (hb hby d1_12) ?_
  show Steps p.tables e below (T.setTop (mkF m 13 #[.val (.ref a1), .val (.int p1), .val (.long q), .second, .val (.int nx), .val (.long r), .second] [(.long (0 : Int64)), (.long (r &&& (-128 : Int64)))])) _
  refine XT.lcmp X.here hx rfl (hb hby d1_13) rfl ?_
  show Steps p.tables e below (T.setTop (mkF m 14 #[.val (.ref a1), .val (.int p1), .val (.long q), .second, .val (.int nx), .val (.long r), .second] [(.int (XT.cmpL (r &&& (-128 : Int64)) (0 : Int64)))])) _
  refine XS.ifYes X.here hx rfl (pc0 := 14) (pc' := 46) rfl (hb hby d1_14) rfl (XT.ll_eq_t hc) (by decide) (by decide) ?_
  show Steps p.tables e below (T.setTop (mkF m 46 #[.val (.ref a1), .val (.int p1), .val (.long q), .second, .val (.int nx), .val (.long r), .second] [])) _
  exact k
set_option maxRecDepth 65536 in
set_option maxHeartbeats 40000000 in
theorem own_loop {p : Program} {l : Launch} {e : Env} {s : State} {m : MethodId} {args : Array Value} {below : List Frame} {meth : Method} {c : Code} {Z : State} {a0 : Array Value} {n0 : Nat} (hw : ∀ d ∈ tables_1, d.before a0 Z = true) (hx : p.tables.exec = Jvm.exec) (hZ : Z.Warmed39 s.vm) (hby : c.code = prog_104_method_2_code) (hml : c.maxLocals = 7) (hown : s.vm.findClass "com/example/xml_element_search/xmlelementsearch/VarLong" = some m.cls) (a1 : Addr) (g_a1 : n0 ≤ a1) (p1 : Int32) (q : Int64) (k : ClassId) (f : Nat → Value) (at_ L : Nat) (hat : at_ < 4) (hL : L ≤ 10)
    (H1 : ∀ t, t + 1 < L → ¬ (own_r q t &&& (-128 : Int64)) = (0 : Int64)) (H2 : (own_r q (L - 1) &&& (-128 : Int64)) = (0 : Int64)) :
    ∀ (d t : Nat), t + d + 1 = L → ∀ (T : State) (locs : List Loc) (h : Heap), Stand p l e ({ frames := 0, cells := 0, slots := 0, locals := 0 } : Room) s m args below meth c T locs 0 0 → T.heap = h → Fr n0 locs → n0 ≤ h.size → Arf Z h a1 k .byte 16 (own_w f at_ t q) →
    ∃ T' h' L', Stand p l e ({ frames := 0, cells := 0, slots := 0, locals := 0 } : Room) s m args below meth c T' L' 0 0 ∧ T'.heap = h' ∧ Fr n0 L' ∧ Keep h h' [a1] ∧ Arf Z h' a1 k .byte 16 (own_w f at_ (L - 1) q) ∧ ∀ target, Steps p.tables e below (T'.setTop (mkF m 46 #[.val (.ref a1), .val (.int p1), .val (.long q), .second, .val (.int (at_ + (L - 1)).toInt32), .val (.long (own_r q (L - 1))), .second] [])) target → Steps p.tables e below (T.setTop (mkF m 6 #[.val (.ref a1), .val (.int p1), .val (.long q), .second, .val (.int (at_ + t).toInt32), .val (.long (own_r q t)), .second] [])) target := by
  intro d
  induction d with
  | zero =>
    intro t ht T locs h X eT N Z0 V
    obtain rfl : t = L - 1 := by omega
    obtain ⟨T1, L1, X1, e1, N1, st1⟩ := own_out6 hw X hx hZ hby hml hown eT N Z0 a1 p1 (at_ + (L - 1)).toInt32 q (own_r q (L - 1)) H2
    exact ⟨T1, h, L1, X1, e1, N1, Keep.refl _ _, V, st1⟩
  | succ d ih =>
    intro t ht T locs h X eT N Z0 V
    obtain ⟨T1, h1, L1, X1, e1, N1, K1, V1, st1⟩ := own_turn hw X hx hZ hby hml hown eT N Z0 a1 p1 (at_ + t).toInt32 q (own_r q t) k (own_w f at_ t q) (at_ + t) g_a1 V (own_ix (by omega)) (by omega) (H1 t (by omega))
    have V2 := V1.eq (own_w_step f at_ t q)
    obtain ⟨T2, h2, L2, X2, e2, N2, K2, V3, st2⟩ := ih (t + 1) (by omega) T1 L1 h1 X1 e1 N1 (Nat.le_trans Z0 K1.1) V2
    refine ⟨T2, h2, L2, X2, e2, N2, K1.trans K2 (fun x hx => Or.inl hx), V3, fun target k => st1 target ?_⟩
    have q1 := st2 target k
    rw [show (at_ + (t + 1)).toInt32 = (at_ + t).toInt32 + (1 : Int32) from own_succ (at_ + t)] at q1
    exact q1
theorem ef_own_put (m : MethodId) (x0 : Addr) (x1 : Int32) (x2 : Int64) : entryFrame m #[(.ref x0), (.int x1), (.long x2)] 7 = mkF m 0 #[.val (.ref x0), .val (.int x1), .val (.long x2), .second, .unset, .unset, .unset] [] := by first | (simp [entryFrame, mkF, argsToLocals, Value.category]; done) | rfl
def Q_own_put (Z : State) (a1 : Addr) (q : Int64) (at_ : Nat) (L_ : Nat) (k : ClassId) (f : Nat → Value) (h0 : Heap) (n0 : Nat) (v : Option Value) (h : Heap) (L : List Loc) : Prop := v = some (.int (at_ + L_).toInt32) ∧ Fr n0 L ∧ Keep h0 h [a1] ∧ Arf Z h a1 k .byte 16 (own_fin f at_ L_ q)
set_option maxRecDepth 65536 in
set_option maxHeartbeats 40000000 in
theorem own_put (l : Launch) (Z : State) (a0 : Array Value) (hw : ∀ d ∈ tables_1, d.before a0 Z = true) (ws : List Jvm.Cond) (a1 : Addr) (q : Int64) (at_ : Nat) (L_ : Nat) (k : ClassId) (f : Nat → Value) (h0 : Heap) (n0 : Nat) (Z0 : n0 ≤ h0.size) (hat : at_ < 4) (hL0 : 1 ≤ L_) (hL : L_ ≤ 10) (H1 : ∀ t, t + 1 < L_ → ¬ (own_r q t &&& (-128 : Int64)) = (0 : Int64)) (H2 : (own_r q (L_ - 1) &&& (-128 : Int64)) = (0 : Int64)) (g_a1 : n0 ≤ a1) (V_ : Arf Z h0 a1 k .byte 16 f) :
    MetFree l (⟨"com/example/xml_element_search/xmlelementsearch/VarLong", "put", "([BIJ)I"⟩ : MethodName) (head1 (Jvm.Cond.code (⟨"com/example/xml_element_search/xmlelementsearch/VarLong", "put", "([BIJ)I"⟩ : MethodName) prog_104_method_2_code 7 (some .int) :: ws) ({ frames := 0, cells := 0, slots := 0, locals := 0 } : Room)) (fun a U => a = #[(.ref a1), (.int at_.toInt32), (.long q)] ∧ Z.Warmed39 U.vm ∧ U.heap = h0) (fun _ _ _ _ _ => True) (fun _ U o U' => ∃ v L, o = .returned v ∧ Q_own_put Z a1 q at_ L_ k f h0 n0 v U'.heap L ∧ FrameEnd U o U' L ({ frames := 0, cells := 0, slots := 0, locals := 0 } : Room).cells ({ frames := 0, cells := 0, slots := 0, locals := 0 } : Room).slots) := by
  refine MetFree.of_bodySF (plainFor_of_name pn_own_put) hisR ?_
  intro p e s m args below meth c s₁ Bd hml0 hP hK
  obtain ⟨rfl, hZ, hh⟩ := hP
  have hx := Bd.exec
  have hby := Bd.bytes
  have hml : c.maxLocals = 7 := hml0
  have hown : s.vm.findClass "com/example/xml_element_search/xmlelementsearch/VarLong" = some m.cls := findClass_of_methodNamed Bd.named
  have hnm := (name_of_methodNamed Bd.named Bd.method).1
  have X0 : Stand p l e ({ frames := 0, cells := 0, slots := 0, locals := 0 } : Room) s m #[(.ref a1), (.int at_.toInt32), (.long q)] below meth c s₁ [] 0 0 := Stand.of_body Bd
  have e0 : s₁.heap = h0 := by rw [← hh, Bd.state]; rfl
  have N0 := Fr.nil n0
  have pre0 : ∀ t, Steps p.tables e below (s₁.setTop (mkF m 0 #[.val (.ref a1), .val (.int at_.toInt32), .val (.long q), .second, .unset, .unset, .unset] [])) t → Steps p.tables e below (s₁.setTop (entryFrame m #[(.ref a1), (.int at_.toInt32), (.long q)] 7)) t := fun t k => castTop (ef_own_put m (a1) (at_.toInt32) (q)) k
  obtain ⟨T14, h14, L14, X14, e14, N14, K14, V14, st14⟩ := own_loop hw hx hZ hby hml hown a1 g_a1 at_.toInt32 q k f at_ L_ hat hL H1 H2 (L_ - 1) 0 (by omega) s₁ _ h0 X0 e0 N0 Z0 (V_.eq (own_w_zero f at_ q))
  obtain ⟨cl15, Ar15, qk15, S15, B15, H15, G15⟩ := id V14
  have hin15 : ¬ ((at_ + (L_ - 1)).toInt32 < 0 ∨ cl15.slots.size ≤ ((at_ + (L_ - 1)).toInt32).toNatClampNeg) := own_inb S15 (own_ix (by omega)) (by omega)
  obtain ⟨T15, h15, X15, e15, W15, st15⟩ := stB X14 hx hZ e14 Ar15 (j := (at_ + (L_ - 1)).toInt32) hin15 (g := (mkF m 56 #[.val (.ref a1), .val (.int at_.toInt32), .val (.long q), .second, .val (.int ((at_ + (L_ - 1)).toInt32 + (1 : Int32))), .val (.long (own_r q (L_ - 1))), .second] [(.int (own_r q (L_ - 1)).toInt32.toInt8.toInt32), (.int (at_ + (L_ - 1)).toInt32), (.ref a1)])) rfl rfl (hb hby d1_56)
  have V15 := own_set Ar15 qk15 S15 B15 H15 G15 (fits_nar_byte _) (own_ix (by omega)) W15
  have N15 := Fr.snoc X15 N14 g_a1
  obtain ⟨fs, hr, hrun, hended, hW, hsame⟩ := X15.leave (v := some (.int ((at_ + (L_ - 1)).toInt32 + (1 : Int32)))) (fun h => by rw [Bd.returns] at h; cases h)
  refine ⟨_, _, pre0 _ ?_, hrun, hended, _, _, rfl, ?_, ⟨_, rfl⟩, hW, hsame.mono (by decide) (by decide)⟩
  · show Steps p.tables e below (s₁.setTop (mkF m 0 #[.val (.ref a1), .val (.int at_.toInt32), .val (.long q), .second, .unset, .unset, .unset] [])) _
    refine XS.iloadN X0.here hx rfl (hb hby d1_0) rfl ?_
    show Steps p.tables e below (s₁.setTop (mkF m 1 #[.val (.ref a1), .val (.int at_.toInt32), .val (.long q), .second, .unset, .unset, .unset] [(.int at_.toInt32)])) _
    refine XS.istore X0.here hx rfl (hb hby d1_1) rfl (l' := #[.val (.ref a1), .val (.int at_.toInt32), .val (.long q), .second, .val (.int at_.toInt32), .unset, .unset]) rfl ?_
    show Steps p.tables e below (s₁.setTop (mkF m 3 #[.val (.ref a1), .val (.int at_.toInt32), .val (.long q), .second, .val (.int at_.toInt32), .unset, .unset] [])) _
    refine XT.lloadN X0.here hx rfl (hb hby d1_3) rfl ?_
    show Steps p.tables e below (s₁.setTop (mkF m 4 #[.val (.ref a1), .val (.int at_.toInt32), .val (.long q), .second, .val (.int at_.toInt32), .unset, .unset] [(.long q)])) _
    refine XT.lstore X0.here hx rfl (hb hby d1_4) rfl (l' := #[.val (.ref a1), .val (.int at_.toInt32), .val (.long q), .second, .val (.int at_.toInt32), .val (.long q), .second]) rfl ?_
    show Steps p.tables e below (s₁.setTop (mkF m 6 #[.val (.ref a1), .val (.int at_.toInt32), .val (.long q), .second, .val (.int at_.toInt32), .val (.long q), .second] [])) _
    refine st14 _ ?_
    show Steps p.tables e below (T14.setTop (mkF m 46 #[.val (.ref a1), .val (.int at_.toInt32), .val (.long q), .second, .val (.int (at_ + (L_ - 1)).toInt32), .val (.long (own_r q (L_ - 1))), .second] [])) _
    refine XS.aloadN X14.here hx rfl (hb hby d1_46) rfl rfl ?_
    show Steps p.tables e below (T14.setTop (mkF m 47 #[.val (.ref a1), .val (.int at_.toInt32), .val (.long q), .second, .val (.int (at_ + (L_ - 1)).toInt32), .val (.long (own_r q (L_ - 1))), .second] [(.ref a1)])) _
    refine XS.iload X14.here hx rfl (hb hby d1_47) rfl ?_
    show Steps p.tables e below (T14.setTop (mkF m 49 #[.val (.ref a1), .val (.int at_.toInt32), .val (.long q), .second, .val (.int (at_ + (L_ - 1)).toInt32), .val (.long (own_r q (L_ - 1))), .second] [(.int (at_ + (L_ - 1)).toInt32), (.ref a1)])) _
    refine XS.iinc X14.here hx rfl (hb hby d1_49) rfl (l' := #[.val (.ref a1), .val (.int at_.toInt32), .val (.long q), .second, .val (.int ((at_ + (L_ - 1)).toInt32 + (1 : Int32))), .val (.long (own_r q (L_ - 1))), .second]) rfl ?_
    show Steps p.tables e below (T14.setTop (mkF m 52 #[.val (.ref a1), .val (.int at_.toInt32), .val (.long q), .second, .val (.int ((at_ + (L_ - 1)).toInt32 + (1 : Int32))), .val (.long (own_r q (L_ - 1))), .second] [(.int (at_ + (L_ - 1)).toInt32), (.ref a1)])) _
    refine XT.lload X14.here hx rfl (hb hby d1_52) rfl ?_
    show Steps p.tables e below (T14.setTop (mkF m 54 #[.val (.ref a1), .val (.int at_.toInt32), .val (.long q), .second, .val (.int ((at_ + (L_ - 1)).toInt32 + (1 : Int32))), .val (.long (own_r q (L_ - 1))), .second] [(.long (own_r q (L_ - 1))), (.int (at_ + (L_ - 1)).toInt32), (.ref a1)])) _
    refine XT.l2i X14.here hx rfl (hb hby d1_54) rfl ?_
    show Steps p.tables e below (T14.setTop (mkF m 55 #[.val (.ref a1), .val (.int at_.toInt32), .val (.long q), .second, .val (.int ((at_ + (L_ - 1)).toInt32 + (1 : Int32))), .val (.long (own_r q (L_ - 1))), .second] [(.int (own_r q (L_ - 1)).toInt32), (.int (at_ + (L_ - 1)).toInt32), (.ref a1)])) _
    refine XT.i2b X14.here hx rfl (hb hby d1_55) rfl ?_
    show Steps p.tables e below (T14.setTop (mkF m 56 #[.val (.ref a1), .val (.int at_.toInt32), .val (.long q), .second, .val (.int ((at_ + (L_ - 1)).toInt32 + (1 : Int32))), .val (.long (own_r q (L_ - 1))), .second] [(.int (own_r q (L_ - 1)).toInt32.toInt8.toInt32), (.int (at_ + (L_ - 1)).toInt32), (.ref a1)])) _
    refine st15 _ ?_
    show Steps p.tables e below (T15.setTop (mkF m 57 #[.val (.ref a1), .val (.int at_.toInt32), .val (.long q), .second, .val (.int ((at_ + (L_ - 1)).toInt32 + (1 : Int32))), .val (.long (own_r q (L_ - 1))), .second] [])) _
    refine XS.iload X15.here hx rfl (hb hby d1_57) rfl ?_
    show Steps p.tables e below (T15.setTop (mkF m 59 #[.val (.ref a1), .val (.int at_.toInt32), .val (.long q), .second, .val (.int ((at_ + (L_ - 1)).toInt32 + (1 : Int32))), .val (.long (own_r q (L_ - 1))), .second] [(.int ((at_ + (L_ - 1)).toInt32 + (1 : Int32)))])) _
    exact retI X15 hx Bd.returns (hb hby d1_59) hr
  · show Q_own_put Z a1 q at_ L_ k f h0 n0 _ T15.heap _
    rw [e15]
    exact ⟨by rw [own_ret at_ L_ hL0], N15, K14.wr W15 (Or.inl (List.mem_of_getElem? (i := 0) rfl)), (V15).eq (own_fin_eq f at_ L_ q hL0)⟩
set_option maxRecDepth 65536 in
set_option maxHeartbeats 40000000 in
theorem own_st0 {p : Program} {l : Launch} {e : Env} {s : State} {m : MethodId} {args : Array Value} {below : List Frame} {meth : Method} {c : Code} {T : State} {locs : List Loc} {Z : State} {a0 : Array Value} {h : Heap} {n0 : Nat} (hw : ∀ d ∈ tables_1, d.before a0 Z = true) (X : Stand p l e room_1 s m args below meth c T locs 1 16) (hx : p.tables.exec = Jvm.exec) (hZ : Z.Warmed39 s.vm) (hby : c.code = code) (hml : c.maxLocals = 13) (hown : s.vm.findClass "com/example/xml_element_search/xmlelementsearch/VarLongPutPinLaw" = some m.cls) (eT : T.heap = h) (N : Fr n0 locs) (Z0 : n0 ≤ h.size) (x0 : Slot) (x1 : Slot) (x2 : Slot) (x3 : Slot) (x4 : Slot) (x5 : Slot) (x6 : Slot) (x7 : Slot) (pb : Int32) (ab : Addr) (x10 : Slot) (x11 : Slot) (x12 : Slot) (k : ClassId) (f : Nat → Value) (g_ab : n0 ≤ ab) (V_ : Arf Z h ab k .byte 16 f) :
    ∃ T' h' L', Stand p l e room_1 s m args below meth c T' L' 1 16 ∧ T'.heap = h' ∧ Fr n0 L' ∧ Keep h h' [ab] ∧ Arf Z h' ab k .byte 16 (upd (upd (upd (upd f 0 (.int pb.toInt8.toInt32)) 1 (.int pb.toInt8.toInt32)) 2 (.int pb.toInt8.toInt32)) 3 (.int pb.toInt8.toInt32)) ∧ ∀ target, Steps p.tables e below (T'.setTop (mkF m 48 #[x0, x1, x2, x3, x4, x5, x6, x7, .val (.int pb), .val (.ref ab), x10, x11, x12] [])) target → Steps p.tables e below (T.setTop (mkF m 24 #[x0, x1, x2, x3, x4, x5, x6, x7, .val (.int pb), .val (.ref ab), x10, x11, x12] [])) target := by
  obtain ⟨cl16, Ar16, qk16, S16, B16, H16, G16⟩ := id V_
  have hin16 : ¬ ((0 : Int32) < 0 ∨ cl16.slots.size ≤ ((0 : Int32)).toNatClampNeg) := own_inb S16 ⟨by decide, rfl⟩ (by decide)
  obtain ⟨T16, h16, X16, e16, W16, st16⟩ := stB X hx hZ eT Ar16 (j := (0 : Int32)) hin16 (g := (mkF m 29 #[x0, x1, x2, x3, x4, x5, x6, x7, .val (.int pb), .val (.ref ab), x10, x11, x12] [(.int pb), (.int (0 : Int32)), (.ref ab)])) rfl rfl (hb hby at_29)
  have V16 := own_set Ar16 qk16 S16 B16 H16 G16 (fits_nar_byte _) ⟨by decide, rfl⟩ W16
  have N16 := Fr.snoc X16 N g_ab
  obtain ⟨cl17, Ar17, qk17, S17, B17, H17, G17⟩ := id V16
  have hin17 : ¬ ((1 : Int32) < 0 ∨ cl17.slots.size ≤ ((1 : Int32)).toNatClampNeg) := own_inb S17 ⟨by decide, rfl⟩ (by decide)
  obtain ⟨T17, h17, X17, e17, W17, st17⟩ := stB X16 hx hZ e16 Ar17 (j := (1 : Int32)) hin17 (g := (mkF m 35 #[x0, x1, x2, x3, x4, x5, x6, x7, .val (.int pb), .val (.ref ab), x10, x11, x12] [(.int pb), (.int (1 : Int32)), (.ref ab)])) rfl rfl (hb hby at_35)
  have V17 := own_set Ar17 qk17 S17 B17 H17 G17 (fits_nar_byte _) ⟨by decide, rfl⟩ W17
  have N17 := Fr.snoc X17 N16 g_ab
  obtain ⟨cl18, Ar18, qk18, S18, B18, H18, G18⟩ := id V17
  have hin18 : ¬ ((2 : Int32) < 0 ∨ cl18.slots.size ≤ ((2 : Int32)).toNatClampNeg) := own_inb S18 ⟨by decide, rfl⟩ (by decide)
  obtain ⟨T18, h18, X18, e18, W18, st18⟩ := stB X17 hx hZ e17 Ar18 (j := (2 : Int32)) hin18 (g := (mkF m 41 #[x0, x1, x2, x3, x4, x5, x6, x7, .val (.int pb), .val (.ref ab), x10, x11, x12] [(.int pb), (.int (2 : Int32)), (.ref ab)])) rfl rfl (hb hby at_41)
  have V18 := own_set Ar18 qk18 S18 B18 H18 G18 (fits_nar_byte _) ⟨by decide, rfl⟩ W18
  have N18 := Fr.snoc X18 N17 g_ab
  obtain ⟨cl19, Ar19, qk19, S19, B19, H19, G19⟩ := id V18
  have hin19 : ¬ ((3 : Int32) < 0 ∨ cl19.slots.size ≤ ((3 : Int32)).toNatClampNeg) := own_inb S19 ⟨by decide, rfl⟩ (by decide)
  obtain ⟨T19, h19, X19, e19, W19, st19⟩ := stB X18 hx hZ e18 Ar19 (j := (3 : Int32)) hin19 (g := (mkF m 47 #[x0, x1, x2, x3, x4, x5, x6, x7, .val (.int pb), .val (.ref ab), x10, x11, x12] [(.int pb), (.int (3 : Int32)), (.ref ab)])) rfl rfl (hb hby at_47)
  have V19 := own_set Ar19 qk19 S19 B19 H19 G19 (fits_nar_byte _) ⟨by decide, rfl⟩ W19
  have N19 := Fr.snoc X19 N18 g_ab
  refine ⟨T19, h19, _, X19, e19, N19, (((((Keep.refl h [ab]).wr W16 (Or.inl (List.mem_of_getElem? (i := 0) rfl))).wr W17 (Or.inl (List.mem_of_getElem? (i := 0) rfl))).wr W18 (Or.inl (List.mem_of_getElem? (i := 0) rfl))).wr W19 (Or.inl (List.mem_of_getElem? (i := 0) rfl))), V19, fun target k => ?_⟩
  show Steps p.tables e below (T.setTop (mkF m 24 #[x0, x1, x2, x3, x4, x5, x6, x7, .val (.int pb), .val (.ref ab), x10, x11, x12] [])) _
  refine XS.aload X.here hx rfl (hb hby at_24) rfl rfl ?_
  show Steps p.tables e below (T.setTop (mkF m 26 #[x0, x1, x2, x3, x4, x5, x6, x7, .val (.int pb), .val (.ref ab), x10, x11, x12] [(.ref ab)])) _
  refine XS.iconst X.here hx rfl (hb hby at_26) ?_
  show Steps p.tables e below (T.setTop (mkF m 27 #[x0, x1, x2, x3, x4, x5, x6, x7, .val (.int pb), .val (.ref ab), x10, x11, x12] [(.int (0 : Int32)), (.ref ab)])) _
  refine XS.iload X.here hx rfl (hb hby at_27) rfl ?_
  show Steps p.tables e below (T.setTop (mkF m 29 #[x0, x1, x2, x3, x4, x5, x6, x7, .val (.int pb), .val (.ref ab), x10, x11, x12] [(.int pb), (.int (0 : Int32)), (.ref ab)])) _
  refine st16 _ ?_
  show Steps p.tables e below (T16.setTop (mkF m 30 #[x0, x1, x2, x3, x4, x5, x6, x7, .val (.int pb), .val (.ref ab), x10, x11, x12] [])) _
  refine XS.aload X16.here hx rfl (hb hby at_30) rfl rfl ?_
  show Steps p.tables e below (T16.setTop (mkF m 32 #[x0, x1, x2, x3, x4, x5, x6, x7, .val (.int pb), .val (.ref ab), x10, x11, x12] [(.ref ab)])) _
  refine XS.iconst X16.here hx rfl (hb hby at_32) ?_
  show Steps p.tables e below (T16.setTop (mkF m 33 #[x0, x1, x2, x3, x4, x5, x6, x7, .val (.int pb), .val (.ref ab), x10, x11, x12] [(.int (1 : Int32)), (.ref ab)])) _
  refine XS.iload X16.here hx rfl (hb hby at_33) rfl ?_
  show Steps p.tables e below (T16.setTop (mkF m 35 #[x0, x1, x2, x3, x4, x5, x6, x7, .val (.int pb), .val (.ref ab), x10, x11, x12] [(.int pb), (.int (1 : Int32)), (.ref ab)])) _
  refine st17 _ ?_
  show Steps p.tables e below (T17.setTop (mkF m 36 #[x0, x1, x2, x3, x4, x5, x6, x7, .val (.int pb), .val (.ref ab), x10, x11, x12] [])) _
  refine XS.aload X17.here hx rfl (hb hby at_36) rfl rfl ?_
  show Steps p.tables e below (T17.setTop (mkF m 38 #[x0, x1, x2, x3, x4, x5, x6, x7, .val (.int pb), .val (.ref ab), x10, x11, x12] [(.ref ab)])) _
  refine XS.iconst X17.here hx rfl (hb hby at_38) ?_
  show Steps p.tables e below (T17.setTop (mkF m 39 #[x0, x1, x2, x3, x4, x5, x6, x7, .val (.int pb), .val (.ref ab), x10, x11, x12] [(.int (2 : Int32)), (.ref ab)])) _
  refine XS.iload X17.here hx rfl (hb hby at_39) rfl ?_
  show Steps p.tables e below (T17.setTop (mkF m 41 #[x0, x1, x2, x3, x4, x5, x6, x7, .val (.int pb), .val (.ref ab), x10, x11, x12] [(.int pb), (.int (2 : Int32)), (.ref ab)])) _
  refine st18 _ ?_
  show Steps p.tables e below (T18.setTop (mkF m 42 #[x0, x1, x2, x3, x4, x5, x6, x7, .val (.int pb), .val (.ref ab), x10, x11, x12] [])) _
  refine XS.aload X18.here hx rfl (hb hby at_42) rfl rfl ?_
  show Steps p.tables e below (T18.setTop (mkF m 44 #[x0, x1, x2, x3, x4, x5, x6, x7, .val (.int pb), .val (.ref ab), x10, x11, x12] [(.ref ab)])) _
  refine XS.iconst X18.here hx rfl (hb hby at_44) ?_
  show Steps p.tables e below (T18.setTop (mkF m 45 #[x0, x1, x2, x3, x4, x5, x6, x7, .val (.int pb), .val (.ref ab), x10, x11, x12] [(.int (3 : Int32)), (.ref ab)])) _
  refine XS.iload X18.here hx rfl (hb hby at_45) rfl ?_
  show Steps p.tables e below (T18.setTop (mkF m 47 #[x0, x1, x2, x3, x4, x5, x6, x7, .val (.int pb), .val (.ref ab), x10, x11, x12] [(.int pb), (.int (3 : Int32)), (.ref ab)])) _
  refine st19 _ ?_
  show Steps p.tables e below (T19.setTop (mkF m 48 #[x0, x1, x2, x3, x4, x5, x6, x7, .val (.int pb), .val (.ref ab), x10, x11, x12] [])) _
  exact k
set_option maxRecDepth 65536 in
set_option maxHeartbeats 40000000 in
theorem own_st1 {p : Program} {l : Launch} {e : Env} {s : State} {m : MethodId} {args : Array Value} {below : List Frame} {meth : Method} {c : Code} {T : State} {locs : List Loc} {Z : State} {a0 : Array Value} {h : Heap} {n0 : Nat} (hw : ∀ d ∈ tables_1, d.before a0 Z = true) (X : Stand p l e room_1 s m args below meth c T locs 1 16) (hx : p.tables.exec = Jvm.exec) (hZ : Z.Warmed39 s.vm) (hby : c.code = code) (hml : c.maxLocals = 13) (hown : s.vm.findClass "com/example/xml_element_search/xmlelementsearch/VarLongPutPinLaw" = some m.cls) (eT : T.heap = h) (N : Fr n0 locs) (Z0 : n0 ≤ h.size) (x0 : Slot) (x1 : Slot) (x2 : Slot) (x3 : Slot) (x4 : Slot) (x5 : Slot) (x6 : Slot) (x7 : Slot) (pb : Int32) (ab : Addr) (x10 : Slot) (x11 : Slot) (x12 : Slot) (k : ClassId) (f : Nat → Value) (g_ab : n0 ≤ ab) (V_ : Arf Z h ab k .byte 16 f) :
    ∃ T' h' L', Stand p l e room_1 s m args below meth c T' L' 1 16 ∧ T'.heap = h' ∧ Fr n0 L' ∧ Keep h h' [ab] ∧ Arf Z h' ab k .byte 16 (upd (upd (upd (upd f 4 (.int pb.toInt8.toInt32)) 5 (.int pb.toInt8.toInt32)) 6 (.int pb.toInt8.toInt32)) 7 (.int pb.toInt8.toInt32)) ∧ ∀ target, Steps p.tables e below (T'.setTop (mkF m 74 #[x0, x1, x2, x3, x4, x5, x6, x7, .val (.int pb), .val (.ref ab), x10, x11, x12] [])) target → Steps p.tables e below (T.setTop (mkF m 48 #[x0, x1, x2, x3, x4, x5, x6, x7, .val (.int pb), .val (.ref ab), x10, x11, x12] [])) target := by
  obtain ⟨cl20, Ar20, qk20, S20, B20, H20, G20⟩ := id V_
  have hin20 : ¬ ((4 : Int32) < 0 ∨ cl20.slots.size ≤ ((4 : Int32)).toNatClampNeg) := own_inb S20 ⟨by decide, rfl⟩ (by decide)
  obtain ⟨T20, h20, X20, e20, W20, st20⟩ := stB X hx hZ eT Ar20 (j := (4 : Int32)) hin20 (g := (mkF m 53 #[x0, x1, x2, x3, x4, x5, x6, x7, .val (.int pb), .val (.ref ab), x10, x11, x12] [(.int pb), (.int (4 : Int32)), (.ref ab)])) rfl rfl (hb hby at_53)
  have V20 := own_set Ar20 qk20 S20 B20 H20 G20 (fits_nar_byte _) ⟨by decide, rfl⟩ W20
  have N20 := Fr.snoc X20 N g_ab
  obtain ⟨cl21, Ar21, qk21, S21, B21, H21, G21⟩ := id V20
  have hin21 : ¬ ((5 : Int32) < 0 ∨ cl21.slots.size ≤ ((5 : Int32)).toNatClampNeg) := own_inb S21 ⟨by decide, rfl⟩ (by decide)
  obtain ⟨T21, h21, X21, e21, W21, st21⟩ := stB X20 hx hZ e20 Ar21 (j := (5 : Int32)) hin21 (g := (mkF m 59 #[x0, x1, x2, x3, x4, x5, x6, x7, .val (.int pb), .val (.ref ab), x10, x11, x12] [(.int pb), (.int (5 : Int32)), (.ref ab)])) rfl rfl (hb hby at_59)
  have V21 := own_set Ar21 qk21 S21 B21 H21 G21 (fits_nar_byte _) ⟨by decide, rfl⟩ W21
  have N21 := Fr.snoc X21 N20 g_ab
  obtain ⟨cl22, Ar22, qk22, S22, B22, H22, G22⟩ := id V21
  have hin22 : ¬ ((6 : Int32) < 0 ∨ cl22.slots.size ≤ ((6 : Int32)).toNatClampNeg) := own_inb S22 ⟨by decide, rfl⟩ (by decide)
  obtain ⟨T22, h22, X22, e22, W22, st22⟩ := stB X21 hx hZ e21 Ar22 (j := (6 : Int32)) hin22 (g := (mkF m 66 #[x0, x1, x2, x3, x4, x5, x6, x7, .val (.int pb), .val (.ref ab), x10, x11, x12] [(.int pb), (.int (6 : Int32)), (.ref ab)])) rfl rfl (hb hby at_66)
  have V22 := own_set Ar22 qk22 S22 B22 H22 G22 (fits_nar_byte _) ⟨by decide, rfl⟩ W22
  have N22 := Fr.snoc X22 N21 g_ab
  obtain ⟨cl23, Ar23, qk23, S23, B23, H23, G23⟩ := id V22
  have hin23 : ¬ ((7 : Int32) < 0 ∨ cl23.slots.size ≤ ((7 : Int32)).toNatClampNeg) := own_inb S23 ⟨by decide, rfl⟩ (by decide)
  obtain ⟨T23, h23, X23, e23, W23, st23⟩ := stB X22 hx hZ e22 Ar23 (j := (7 : Int32)) hin23 (g := (mkF m 73 #[x0, x1, x2, x3, x4, x5, x6, x7, .val (.int pb), .val (.ref ab), x10, x11, x12] [(.int pb), (.int (7 : Int32)), (.ref ab)])) rfl rfl (hb hby at_73)
  have V23 := own_set Ar23 qk23 S23 B23 H23 G23 (fits_nar_byte _) ⟨by decide, rfl⟩ W23
  have N23 := Fr.snoc X23 N22 g_ab
  refine ⟨T23, h23, _, X23, e23, N23, (((((Keep.refl h [ab]).wr W20 (Or.inl (List.mem_of_getElem? (i := 0) rfl))).wr W21 (Or.inl (List.mem_of_getElem? (i := 0) rfl))).wr W22 (Or.inl (List.mem_of_getElem? (i := 0) rfl))).wr W23 (Or.inl (List.mem_of_getElem? (i := 0) rfl))), V23, fun target k => ?_⟩
  show Steps p.tables e below (T.setTop (mkF m 48 #[x0, x1, x2, x3, x4, x5, x6, x7, .val (.int pb), .val (.ref ab), x10, x11, x12] [])) _
  refine XS.aload X.here hx rfl (hb hby at_48) rfl rfl ?_
  show Steps p.tables e below (T.setTop (mkF m 50 #[x0, x1, x2, x3, x4, x5, x6, x7, .val (.int pb), .val (.ref ab), x10, x11, x12] [(.ref ab)])) _
  refine XS.iconst X.here hx rfl (hb hby at_50) ?_
  show Steps p.tables e below (T.setTop (mkF m 51 #[x0, x1, x2, x3, x4, x5, x6, x7, .val (.int pb), .val (.ref ab), x10, x11, x12] [(.int (4 : Int32)), (.ref ab)])) _
  refine XS.iload X.here hx rfl (hb hby at_51) rfl ?_
  show Steps p.tables e below (T.setTop (mkF m 53 #[x0, x1, x2, x3, x4, x5, x6, x7, .val (.int pb), .val (.ref ab), x10, x11, x12] [(.int pb), (.int (4 : Int32)), (.ref ab)])) _
  refine st20 _ ?_
  show Steps p.tables e below (T20.setTop (mkF m 54 #[x0, x1, x2, x3, x4, x5, x6, x7, .val (.int pb), .val (.ref ab), x10, x11, x12] [])) _
  refine XS.aload X20.here hx rfl (hb hby at_54) rfl rfl ?_
  show Steps p.tables e below (T20.setTop (mkF m 56 #[x0, x1, x2, x3, x4, x5, x6, x7, .val (.int pb), .val (.ref ab), x10, x11, x12] [(.ref ab)])) _
  refine XS.iconst X20.here hx rfl (hb hby at_56) ?_
  show Steps p.tables e below (T20.setTop (mkF m 57 #[x0, x1, x2, x3, x4, x5, x6, x7, .val (.int pb), .val (.ref ab), x10, x11, x12] [(.int (5 : Int32)), (.ref ab)])) _
  refine XS.iload X20.here hx rfl (hb hby at_57) rfl ?_
  show Steps p.tables e below (T20.setTop (mkF m 59 #[x0, x1, x2, x3, x4, x5, x6, x7, .val (.int pb), .val (.ref ab), x10, x11, x12] [(.int pb), (.int (5 : Int32)), (.ref ab)])) _
  refine st21 _ ?_
  show Steps p.tables e below (T21.setTop (mkF m 60 #[x0, x1, x2, x3, x4, x5, x6, x7, .val (.int pb), .val (.ref ab), x10, x11, x12] [])) _
  refine XS.aload X21.here hx rfl (hb hby at_60) rfl rfl ?_
  show Steps p.tables e below (T21.setTop (mkF m 62 #[x0, x1, x2, x3, x4, x5, x6, x7, .val (.int pb), .val (.ref ab), x10, x11, x12] [(.ref ab)])) _
  refine XS.bipush X21.here hx rfl (hb hby at_62) ?_
  show Steps p.tables e below (T21.setTop (mkF m 64 #[x0, x1, x2, x3, x4, x5, x6, x7, .val (.int pb), .val (.ref ab), x10, x11, x12] [(.int (6 : Int32)), (.ref ab)])) _
  refine XS.iload X21.here hx rfl (hb hby at_64) rfl ?_
  show Steps p.tables e below (T21.setTop (mkF m 66 #[x0, x1, x2, x3, x4, x5, x6, x7, .val (.int pb), .val (.ref ab), x10, x11, x12] [(.int pb), (.int (6 : Int32)), (.ref ab)])) _
  refine st22 _ ?_
  show Steps p.tables e below (T22.setTop (mkF m 67 #[x0, x1, x2, x3, x4, x5, x6, x7, .val (.int pb), .val (.ref ab), x10, x11, x12] [])) _
  refine XS.aload X22.here hx rfl (hb hby at_67) rfl rfl ?_
  show Steps p.tables e below (T22.setTop (mkF m 69 #[x0, x1, x2, x3, x4, x5, x6, x7, .val (.int pb), .val (.ref ab), x10, x11, x12] [(.ref ab)])) _
  refine XS.bipush X22.here hx rfl (hb hby at_69) ?_
  show Steps p.tables e below (T22.setTop (mkF m 71 #[x0, x1, x2, x3, x4, x5, x6, x7, .val (.int pb), .val (.ref ab), x10, x11, x12] [(.int (7 : Int32)), (.ref ab)])) _
  refine XS.iload X22.here hx rfl (hb hby at_71) rfl ?_
  show Steps p.tables e below (T22.setTop (mkF m 73 #[x0, x1, x2, x3, x4, x5, x6, x7, .val (.int pb), .val (.ref ab), x10, x11, x12] [(.int pb), (.int (7 : Int32)), (.ref ab)])) _
  refine st23 _ ?_
  show Steps p.tables e below (T23.setTop (mkF m 74 #[x0, x1, x2, x3, x4, x5, x6, x7, .val (.int pb), .val (.ref ab), x10, x11, x12] [])) _
  exact k
set_option maxRecDepth 65536 in
set_option maxHeartbeats 40000000 in
theorem own_st2 {p : Program} {l : Launch} {e : Env} {s : State} {m : MethodId} {args : Array Value} {below : List Frame} {meth : Method} {c : Code} {T : State} {locs : List Loc} {Z : State} {a0 : Array Value} {h : Heap} {n0 : Nat} (hw : ∀ d ∈ tables_1, d.before a0 Z = true) (X : Stand p l e room_1 s m args below meth c T locs 1 16) (hx : p.tables.exec = Jvm.exec) (hZ : Z.Warmed39 s.vm) (hby : c.code = code) (hml : c.maxLocals = 13) (hown : s.vm.findClass "com/example/xml_element_search/xmlelementsearch/VarLongPutPinLaw" = some m.cls) (eT : T.heap = h) (N : Fr n0 locs) (Z0 : n0 ≤ h.size) (x0 : Slot) (x1 : Slot) (x2 : Slot) (x3 : Slot) (x4 : Slot) (x5 : Slot) (x6 : Slot) (x7 : Slot) (pb : Int32) (ab : Addr) (x10 : Slot) (x11 : Slot) (x12 : Slot) (k : ClassId) (f : Nat → Value) (g_ab : n0 ≤ ab) (V_ : Arf Z h ab k .byte 16 f) :
    ∃ T' h' L', Stand p l e room_1 s m args below meth c T' L' 1 16 ∧ T'.heap = h' ∧ Fr n0 L' ∧ Keep h h' [ab] ∧ Arf Z h' ab k .byte 16 (upd (upd (upd (upd f 8 (.int pb.toInt8.toInt32)) 9 (.int pb.toInt8.toInt32)) 10 (.int pb.toInt8.toInt32)) 11 (.int pb.toInt8.toInt32)) ∧ ∀ target, Steps p.tables e below (T'.setTop (mkF m 102 #[x0, x1, x2, x3, x4, x5, x6, x7, .val (.int pb), .val (.ref ab), x10, x11, x12] [])) target → Steps p.tables e below (T.setTop (mkF m 74 #[x0, x1, x2, x3, x4, x5, x6, x7, .val (.int pb), .val (.ref ab), x10, x11, x12] [])) target := by
  obtain ⟨cl24, Ar24, qk24, S24, B24, H24, G24⟩ := id V_
  have hin24 : ¬ ((8 : Int32) < 0 ∨ cl24.slots.size ≤ ((8 : Int32)).toNatClampNeg) := own_inb S24 ⟨by decide, rfl⟩ (by decide)
  obtain ⟨T24, h24, X24, e24, W24, st24⟩ := stB X hx hZ eT Ar24 (j := (8 : Int32)) hin24 (g := (mkF m 80 #[x0, x1, x2, x3, x4, x5, x6, x7, .val (.int pb), .val (.ref ab), x10, x11, x12] [(.int pb), (.int (8 : Int32)), (.ref ab)])) rfl rfl (hb hby at_80)
  have V24 := own_set Ar24 qk24 S24 B24 H24 G24 (fits_nar_byte _) ⟨by decide, rfl⟩ W24
  have N24 := Fr.snoc X24 N g_ab
  obtain ⟨cl25, Ar25, qk25, S25, B25, H25, G25⟩ := id V24
  have hin25 : ¬ ((9 : Int32) < 0 ∨ cl25.slots.size ≤ ((9 : Int32)).toNatClampNeg) := own_inb S25 ⟨by decide, rfl⟩ (by decide)
  obtain ⟨T25, h25, X25, e25, W25, st25⟩ := stB X24 hx hZ e24 Ar25 (j := (9 : Int32)) hin25 (g := (mkF m 87 #[x0, x1, x2, x3, x4, x5, x6, x7, .val (.int pb), .val (.ref ab), x10, x11, x12] [(.int pb), (.int (9 : Int32)), (.ref ab)])) rfl rfl (hb hby at_87)
  have V25 := own_set Ar25 qk25 S25 B25 H25 G25 (fits_nar_byte _) ⟨by decide, rfl⟩ W25
  have N25 := Fr.snoc X25 N24 g_ab
  obtain ⟨cl26, Ar26, qk26, S26, B26, H26, G26⟩ := id V25
  have hin26 : ¬ ((10 : Int32) < 0 ∨ cl26.slots.size ≤ ((10 : Int32)).toNatClampNeg) := own_inb S26 ⟨by decide, rfl⟩ (by decide)
  obtain ⟨T26, h26, X26, e26, W26, st26⟩ := stB X25 hx hZ e25 Ar26 (j := (10 : Int32)) hin26 (g := (mkF m 94 #[x0, x1, x2, x3, x4, x5, x6, x7, .val (.int pb), .val (.ref ab), x10, x11, x12] [(.int pb), (.int (10 : Int32)), (.ref ab)])) rfl rfl (hb hby at_94)
  have V26 := own_set Ar26 qk26 S26 B26 H26 G26 (fits_nar_byte _) ⟨by decide, rfl⟩ W26
  have N26 := Fr.snoc X26 N25 g_ab
  obtain ⟨cl27, Ar27, qk27, S27, B27, H27, G27⟩ := id V26
  have hin27 : ¬ ((11 : Int32) < 0 ∨ cl27.slots.size ≤ ((11 : Int32)).toNatClampNeg) := own_inb S27 ⟨by decide, rfl⟩ (by decide)
  obtain ⟨T27, h27, X27, e27, W27, st27⟩ := stB X26 hx hZ e26 Ar27 (j := (11 : Int32)) hin27 (g := (mkF m 101 #[x0, x1, x2, x3, x4, x5, x6, x7, .val (.int pb), .val (.ref ab), x10, x11, x12] [(.int pb), (.int (11 : Int32)), (.ref ab)])) rfl rfl (hb hby at_101)
  have V27 := own_set Ar27 qk27 S27 B27 H27 G27 (fits_nar_byte _) ⟨by decide, rfl⟩ W27
  have N27 := Fr.snoc X27 N26 g_ab
  refine ⟨T27, h27, _, X27, e27, N27, (((((Keep.refl h [ab]).wr W24 (Or.inl (List.mem_of_getElem? (i := 0) rfl))).wr W25 (Or.inl (List.mem_of_getElem? (i := 0) rfl))).wr W26 (Or.inl (List.mem_of_getElem? (i := 0) rfl))).wr W27 (Or.inl (List.mem_of_getElem? (i := 0) rfl))), V27, fun target k => ?_⟩
  show Steps p.tables e below (T.setTop (mkF m 74 #[x0, x1, x2, x3, x4, x5, x6, x7, .val (.int pb), .val (.ref ab), x10, x11, x12] [])) _
  refine XS.aload X.here hx rfl (hb hby at_74) rfl rfl ?_
  show Steps p.tables e below (T.setTop (mkF m 76 #[x0, x1, x2, x3, x4, x5, x6, x7, .val (.int pb), .val (.ref ab), x10, x11, x12] [(.ref ab)])) _
  refine XS.bipush X.here hx rfl (hb hby at_76) ?_
  show Steps p.tables e below (T.setTop (mkF m 78 #[x0, x1, x2, x3, x4, x5, x6, x7, .val (.int pb), .val (.ref ab), x10, x11, x12] [(.int (8 : Int32)), (.ref ab)])) _
  refine XS.iload X.here hx rfl (hb hby at_78) rfl ?_
  show Steps p.tables e below (T.setTop (mkF m 80 #[x0, x1, x2, x3, x4, x5, x6, x7, .val (.int pb), .val (.ref ab), x10, x11, x12] [(.int pb), (.int (8 : Int32)), (.ref ab)])) _
  refine st24 _ ?_
  show Steps p.tables e below (T24.setTop (mkF m 81 #[x0, x1, x2, x3, x4, x5, x6, x7, .val (.int pb), .val (.ref ab), x10, x11, x12] [])) _
  refine XS.aload X24.here hx rfl (hb hby at_81) rfl rfl ?_
  show Steps p.tables e below (T24.setTop (mkF m 83 #[x0, x1, x2, x3, x4, x5, x6, x7, .val (.int pb), .val (.ref ab), x10, x11, x12] [(.ref ab)])) _
  refine XS.bipush X24.here hx rfl (hb hby at_83) ?_
  show Steps p.tables e below (T24.setTop (mkF m 85 #[x0, x1, x2, x3, x4, x5, x6, x7, .val (.int pb), .val (.ref ab), x10, x11, x12] [(.int (9 : Int32)), (.ref ab)])) _
  refine XS.iload X24.here hx rfl (hb hby at_85) rfl ?_
  show Steps p.tables e below (T24.setTop (mkF m 87 #[x0, x1, x2, x3, x4, x5, x6, x7, .val (.int pb), .val (.ref ab), x10, x11, x12] [(.int pb), (.int (9 : Int32)), (.ref ab)])) _
  refine st25 _ ?_
  show Steps p.tables e below (T25.setTop (mkF m 88 #[x0, x1, x2, x3, x4, x5, x6, x7, .val (.int pb), .val (.ref ab), x10, x11, x12] [])) _
  refine XS.aload X25.here hx rfl (hb hby at_88) rfl rfl ?_
  show Steps p.tables e below (T25.setTop (mkF m 90 #[x0, x1, x2, x3, x4, x5, x6, x7, .val (.int pb), .val (.ref ab), x10, x11, x12] [(.ref ab)])) _
  refine XS.bipush X25.here hx rfl (hb hby at_90) ?_
  show Steps p.tables e below (T25.setTop (mkF m 92 #[x0, x1, x2, x3, x4, x5, x6, x7, .val (.int pb), .val (.ref ab), x10, x11, x12] [(.int (10 : Int32)), (.ref ab)])) _
  refine XS.iload X25.here hx rfl (hb hby at_92) rfl ?_
  show Steps p.tables e below (T25.setTop (mkF m 94 #[x0, x1, x2, x3, x4, x5, x6, x7, .val (.int pb), .val (.ref ab), x10, x11, x12] [(.int pb), (.int (10 : Int32)), (.ref ab)])) _
  refine st26 _ ?_
  show Steps p.tables e below (T26.setTop (mkF m 95 #[x0, x1, x2, x3, x4, x5, x6, x7, .val (.int pb), .val (.ref ab), x10, x11, x12] [])) _
  refine XS.aload X26.here hx rfl (hb hby at_95) rfl rfl ?_
  show Steps p.tables e below (T26.setTop (mkF m 97 #[x0, x1, x2, x3, x4, x5, x6, x7, .val (.int pb), .val (.ref ab), x10, x11, x12] [(.ref ab)])) _
  refine XS.bipush X26.here hx rfl (hb hby at_97) ?_
  show Steps p.tables e below (T26.setTop (mkF m 99 #[x0, x1, x2, x3, x4, x5, x6, x7, .val (.int pb), .val (.ref ab), x10, x11, x12] [(.int (11 : Int32)), (.ref ab)])) _
  refine XS.iload X26.here hx rfl (hb hby at_99) rfl ?_
  show Steps p.tables e below (T26.setTop (mkF m 101 #[x0, x1, x2, x3, x4, x5, x6, x7, .val (.int pb), .val (.ref ab), x10, x11, x12] [(.int pb), (.int (11 : Int32)), (.ref ab)])) _
  refine st27 _ ?_
  show Steps p.tables e below (T27.setTop (mkF m 102 #[x0, x1, x2, x3, x4, x5, x6, x7, .val (.int pb), .val (.ref ab), x10, x11, x12] [])) _
  exact k
set_option maxRecDepth 65536 in
set_option maxHeartbeats 40000000 in
theorem own_st3 {p : Program} {l : Launch} {e : Env} {s : State} {m : MethodId} {args : Array Value} {below : List Frame} {meth : Method} {c : Code} {T : State} {locs : List Loc} {Z : State} {a0 : Array Value} {h : Heap} {n0 : Nat} (hw : ∀ d ∈ tables_1, d.before a0 Z = true) (X : Stand p l e room_1 s m args below meth c T locs 1 16) (hx : p.tables.exec = Jvm.exec) (hZ : Z.Warmed39 s.vm) (hby : c.code = code) (hml : c.maxLocals = 13) (hown : s.vm.findClass "com/example/xml_element_search/xmlelementsearch/VarLongPutPinLaw" = some m.cls) (eT : T.heap = h) (N : Fr n0 locs) (Z0 : n0 ≤ h.size) (x0 : Slot) (x1 : Slot) (x2 : Slot) (x3 : Slot) (x4 : Slot) (x5 : Slot) (x6 : Slot) (x7 : Slot) (pb : Int32) (ab : Addr) (x10 : Slot) (x11 : Slot) (x12 : Slot) (k : ClassId) (f : Nat → Value) (g_ab : n0 ≤ ab) (V_ : Arf Z h ab k .byte 16 f) :
    ∃ T' h' L', Stand p l e room_1 s m args below meth c T' L' 1 16 ∧ T'.heap = h' ∧ Fr n0 L' ∧ Keep h h' [ab] ∧ Arf Z h' ab k .byte 16 (upd (upd (upd (upd f 12 (.int pb.toInt8.toInt32)) 13 (.int pb.toInt8.toInt32)) 14 (.int pb.toInt8.toInt32)) 15 (.int pb.toInt8.toInt32)) ∧ ∀ target, Steps p.tables e below (T'.setTop (mkF m 130 #[x0, x1, x2, x3, x4, x5, x6, x7, .val (.int pb), .val (.ref ab), x10, x11, x12] [])) target → Steps p.tables e below (T.setTop (mkF m 102 #[x0, x1, x2, x3, x4, x5, x6, x7, .val (.int pb), .val (.ref ab), x10, x11, x12] [])) target := by
  obtain ⟨cl28, Ar28, qk28, S28, B28, H28, G28⟩ := id V_
  have hin28 : ¬ ((12 : Int32) < 0 ∨ cl28.slots.size ≤ ((12 : Int32)).toNatClampNeg) := own_inb S28 ⟨by decide, rfl⟩ (by decide)
  obtain ⟨T28, h28, X28, e28, W28, st28⟩ := stB X hx hZ eT Ar28 (j := (12 : Int32)) hin28 (g := (mkF m 108 #[x0, x1, x2, x3, x4, x5, x6, x7, .val (.int pb), .val (.ref ab), x10, x11, x12] [(.int pb), (.int (12 : Int32)), (.ref ab)])) rfl rfl (hb hby at_108)
  have V28 := own_set Ar28 qk28 S28 B28 H28 G28 (fits_nar_byte _) ⟨by decide, rfl⟩ W28
  have N28 := Fr.snoc X28 N g_ab
  obtain ⟨cl29, Ar29, qk29, S29, B29, H29, G29⟩ := id V28
  have hin29 : ¬ ((13 : Int32) < 0 ∨ cl29.slots.size ≤ ((13 : Int32)).toNatClampNeg) := own_inb S29 ⟨by decide, rfl⟩ (by decide)
  obtain ⟨T29, h29, X29, e29, W29, st29⟩ := stB X28 hx hZ e28 Ar29 (j := (13 : Int32)) hin29 (g := (mkF m 115 #[x0, x1, x2, x3, x4, x5, x6, x7, .val (.int pb), .val (.ref ab), x10, x11, x12] [(.int pb), (.int (13 : Int32)), (.ref ab)])) rfl rfl (hb hby at_115)
  have V29 := own_set Ar29 qk29 S29 B29 H29 G29 (fits_nar_byte _) ⟨by decide, rfl⟩ W29
  have N29 := Fr.snoc X29 N28 g_ab
  obtain ⟨cl30, Ar30, qk30, S30, B30, H30, G30⟩ := id V29
  have hin30 : ¬ ((14 : Int32) < 0 ∨ cl30.slots.size ≤ ((14 : Int32)).toNatClampNeg) := own_inb S30 ⟨by decide, rfl⟩ (by decide)
  obtain ⟨T30, h30, X30, e30, W30, st30⟩ := stB X29 hx hZ e29 Ar30 (j := (14 : Int32)) hin30 (g := (mkF m 122 #[x0, x1, x2, x3, x4, x5, x6, x7, .val (.int pb), .val (.ref ab), x10, x11, x12] [(.int pb), (.int (14 : Int32)), (.ref ab)])) rfl rfl (hb hby at_122)
  have V30 := own_set Ar30 qk30 S30 B30 H30 G30 (fits_nar_byte _) ⟨by decide, rfl⟩ W30
  have N30 := Fr.snoc X30 N29 g_ab
  obtain ⟨cl31, Ar31, qk31, S31, B31, H31, G31⟩ := id V30
  have hin31 : ¬ ((15 : Int32) < 0 ∨ cl31.slots.size ≤ ((15 : Int32)).toNatClampNeg) := own_inb S31 ⟨by decide, rfl⟩ (by decide)
  obtain ⟨T31, h31, X31, e31, W31, st31⟩ := stB X30 hx hZ e30 Ar31 (j := (15 : Int32)) hin31 (g := (mkF m 129 #[x0, x1, x2, x3, x4, x5, x6, x7, .val (.int pb), .val (.ref ab), x10, x11, x12] [(.int pb), (.int (15 : Int32)), (.ref ab)])) rfl rfl (hb hby at_129)
  have V31 := own_set Ar31 qk31 S31 B31 H31 G31 (fits_nar_byte _) ⟨by decide, rfl⟩ W31
  have N31 := Fr.snoc X31 N30 g_ab
  refine ⟨T31, h31, _, X31, e31, N31, (((((Keep.refl h [ab]).wr W28 (Or.inl (List.mem_of_getElem? (i := 0) rfl))).wr W29 (Or.inl (List.mem_of_getElem? (i := 0) rfl))).wr W30 (Or.inl (List.mem_of_getElem? (i := 0) rfl))).wr W31 (Or.inl (List.mem_of_getElem? (i := 0) rfl))), V31, fun target k => ?_⟩
  show Steps p.tables e below (T.setTop (mkF m 102 #[x0, x1, x2, x3, x4, x5, x6, x7, .val (.int pb), .val (.ref ab), x10, x11, x12] [])) _
  refine XS.aload X.here hx rfl (hb hby at_102) rfl rfl ?_
  show Steps p.tables e below (T.setTop (mkF m 104 #[x0, x1, x2, x3, x4, x5, x6, x7, .val (.int pb), .val (.ref ab), x10, x11, x12] [(.ref ab)])) _
  refine XS.bipush X.here hx rfl (hb hby at_104) ?_
  show Steps p.tables e below (T.setTop (mkF m 106 #[x0, x1, x2, x3, x4, x5, x6, x7, .val (.int pb), .val (.ref ab), x10, x11, x12] [(.int (12 : Int32)), (.ref ab)])) _
  refine XS.iload X.here hx rfl (hb hby at_106) rfl ?_
  show Steps p.tables e below (T.setTop (mkF m 108 #[x0, x1, x2, x3, x4, x5, x6, x7, .val (.int pb), .val (.ref ab), x10, x11, x12] [(.int pb), (.int (12 : Int32)), (.ref ab)])) _
  refine st28 _ ?_
  show Steps p.tables e below (T28.setTop (mkF m 109 #[x0, x1, x2, x3, x4, x5, x6, x7, .val (.int pb), .val (.ref ab), x10, x11, x12] [])) _
  refine XS.aload X28.here hx rfl (hb hby at_109) rfl rfl ?_
  show Steps p.tables e below (T28.setTop (mkF m 111 #[x0, x1, x2, x3, x4, x5, x6, x7, .val (.int pb), .val (.ref ab), x10, x11, x12] [(.ref ab)])) _
  refine XS.bipush X28.here hx rfl (hb hby at_111) ?_
  show Steps p.tables e below (T28.setTop (mkF m 113 #[x0, x1, x2, x3, x4, x5, x6, x7, .val (.int pb), .val (.ref ab), x10, x11, x12] [(.int (13 : Int32)), (.ref ab)])) _
  refine XS.iload X28.here hx rfl (hb hby at_113) rfl ?_
  show Steps p.tables e below (T28.setTop (mkF m 115 #[x0, x1, x2, x3, x4, x5, x6, x7, .val (.int pb), .val (.ref ab), x10, x11, x12] [(.int pb), (.int (13 : Int32)), (.ref ab)])) _
  refine st29 _ ?_
  show Steps p.tables e below (T29.setTop (mkF m 116 #[x0, x1, x2, x3, x4, x5, x6, x7, .val (.int pb), .val (.ref ab), x10, x11, x12] [])) _
  refine XS.aload X29.here hx rfl (hb hby at_116) rfl rfl ?_
  show Steps p.tables e below (T29.setTop (mkF m 118 #[x0, x1, x2, x3, x4, x5, x6, x7, .val (.int pb), .val (.ref ab), x10, x11, x12] [(.ref ab)])) _
  refine XS.bipush X29.here hx rfl (hb hby at_118) ?_
  show Steps p.tables e below (T29.setTop (mkF m 120 #[x0, x1, x2, x3, x4, x5, x6, x7, .val (.int pb), .val (.ref ab), x10, x11, x12] [(.int (14 : Int32)), (.ref ab)])) _
  refine XS.iload X29.here hx rfl (hb hby at_120) rfl ?_
  show Steps p.tables e below (T29.setTop (mkF m 122 #[x0, x1, x2, x3, x4, x5, x6, x7, .val (.int pb), .val (.ref ab), x10, x11, x12] [(.int pb), (.int (14 : Int32)), (.ref ab)])) _
  refine st30 _ ?_
  show Steps p.tables e below (T30.setTop (mkF m 123 #[x0, x1, x2, x3, x4, x5, x6, x7, .val (.int pb), .val (.ref ab), x10, x11, x12] [])) _
  refine XS.aload X30.here hx rfl (hb hby at_123) rfl rfl ?_
  show Steps p.tables e below (T30.setTop (mkF m 125 #[x0, x1, x2, x3, x4, x5, x6, x7, .val (.int pb), .val (.ref ab), x10, x11, x12] [(.ref ab)])) _
  refine XS.bipush X30.here hx rfl (hb hby at_125) ?_
  show Steps p.tables e below (T30.setTop (mkF m 127 #[x0, x1, x2, x3, x4, x5, x6, x7, .val (.int pb), .val (.ref ab), x10, x11, x12] [(.int (15 : Int32)), (.ref ab)])) _
  refine XS.iload X30.here hx rfl (hb hby at_127) rfl ?_
  show Steps p.tables e below (T30.setTop (mkF m 129 #[x0, x1, x2, x3, x4, x5, x6, x7, .val (.int pb), .val (.ref ab), x10, x11, x12] [(.int pb), (.int (15 : Int32)), (.ref ab)])) _
  refine st31 _ ?_
  show Steps p.tables e below (T31.setTop (mkF m 130 #[x0, x1, x2, x3, x4, x5, x6, x7, .val (.int pb), .val (.ref ab), x10, x11, x12] [])) _
  exact k
set_option maxRecDepth 65536 in
set_option maxHeartbeats 40000000 in
theorem own_ck0 {p : Program} {l : Launch} {e : Env} {s : State} {m : MethodId} {args : Array Value} {below : List Frame} {meth : Method} {c : Code} {T : State} {locs : List Loc} {Z : State} {a0 : Array Value} {h : Heap} {n0 : Nat} (hw : ∀ d ∈ tables_1, d.before a0 Z = true) (X : Stand p l e room_1 s m args below meth c T locs 1 16) (hx : p.tables.exec = Jvm.exec) (hZ : Z.Warmed39 s.vm) (hby : c.code = code) (hml : c.maxLocals = 13) (hown : s.vm.findClass "com/example/xml_element_search/xmlelementsearch/VarLongPutPinLaw" = some m.cls) (eT : T.heap = h) (N : Fr n0 locs) (Z0 : n0 ≤ h.size) (x0 : Slot) (x1 : Slot) (x2 : Slot) (x3 : Slot) (x4 : Slot) (val : Int64) (pa : Int32) (pb : Int32) (ab : Addr) (x10 : Slot) (pl : Int32) (k : ClassId) (f : Nat → Value) (V_ : Arf Z h ab k .byte 16 f) (hv : f 0 = .int (own_exp (0 : Int32) pa pl val pb)) :
    ∃ T' L', Stand p l e room_1 s m args below meth c T' L' 1 16 ∧ T'.heap = h ∧ Fr n0 L' ∧ ∀ target, Steps p.tables e below (T'.setTop (mkF m 192 #[x0, x1, x2, x3, x4, .val (.long val), .second, .val (.int pa), .val (.int pb), .val (.ref ab), x10, .val (.int pl), .val (.int (1 : Int32))] [])) target → Steps p.tables e below (T.setTop (mkF m 163 #[x0, x1, x2, x3, x4, .val (.long val), .second, .val (.int pa), .val (.int pb), .val (.ref ab), x10, .val (.int pl), .val (.int (1 : Int32))] [])) target := by
  obtain ⟨cl32, Ar32, qk32, S32, B32, H32, G32⟩ := id V_
  have hin32 : ¬ ((0 : Int32) < 0 ∨ cl32.slots.size ≤ ((0 : Int32)).toNatClampNeg) := own_inb S32 ⟨by decide, rfl⟩ (by decide)
  have hat32 : cl32.slots[((0 : Int32)).toNatClampNeg]? = some (.int (own_exp (0 : Int32) pa pl val pb)) := own_hat H32 ⟨by decide, rfl⟩ (by decide) hv
  obtain ⟨_, _, ⟨T33, L33, k33, n33⟩, -, X33, ⟨Lc33, hQ33, l33, y33, z33⟩, st33⟩ := Jvm.LawKit.callS X hx (y := (⟨"com/example/xml_element_search/xmlelementsearch/VarLongPutPinLaw", "expected", "(IIIJB)B"⟩ : MethodName)) hown (mvT hZ (hw _ (List.mem_of_getElem? (i := 10) rfl))) (mvT hZ (hw _ (List.mem_of_getElem? (i := 11) rfl))) (mvT hZ (hw _ (List.mem_of_getElem? (i := 8) rfl))) (mvT hZ (hw _ (List.mem_of_getElem? (i := 12) rfl))) (by decide) (backOf (W := 2) (own_expd l Z a0 hw [] (0 : Int32) pa pl val pb h n0 Z0 ) hZ (hw _ (List.mem_of_getElem? (i := 12) rfl)) (hw _ (List.mem_of_getElem? (i := 8) rfl)) (by decide) (by decide)) (g := (mkF m 178 #[x0, x1, x2, x3, x4, .val (.long val), .second, .val (.int pa), .val (.int pb), .val (.ref ab), x10, .val (.int pl), .val (.int (1 : Int32))] [(.int pb), (.long val), (.int pl), (.int pa), (.int (0 : Int32)), (.int (own_exp (0 : Int32) pa pl val pb)), (.int (1 : Int32))])) rfl (by rw [hml]; rfl) (argsL := [(.int (0 : Int32)), (.int pa), (.int pl), (.long val), (.int pb)]) (rest := [(.int (own_exp (0 : Int32) pa pl val pb)), (.int (1 : Int32))]) (lenOf pd_0 rfl) rfl (by show 2 * 0 + _ ≤ _; exact Nat.le_of_eq rfl) (hb hby at_178) (fun _ _ => ⟨rfl, eT, (by decide : 1 + 0 ≤ _), (by decide : 16 + 0 ≤ _)⟩)
  dsimp only [Pt.U, Pt.locs, Pt.cells, Pt.slots] at X33 l33 y33 z33 st33 hQ33
  subst l33 y33 z33
  obtain ⟨rfl, N33q, eh33⟩ := hQ33
  have N33 := Fr.app N N33q
  refine ⟨T33, _, X33, eh33, N33, fun target k => ?_⟩
  show Steps p.tables e below (T.setTop (mkF m 163 #[x0, x1, x2, x3, x4, .val (.long val), .second, .val (.int pa), .val (.int pb), .val (.ref ab), x10, .val (.int pl), .val (.int (1 : Int32))] [])) _
  refine XS.iload X.here hx rfl (hb hby at_163) rfl ?_
  show Steps p.tables e below (T.setTop (mkF m 165 #[x0, x1, x2, x3, x4, .val (.long val), .second, .val (.int pa), .val (.int pb), .val (.ref ab), x10, .val (.int pl), .val (.int (1 : Int32))] [(.int (1 : Int32))])) _
  refine XS.aload X.here hx rfl (hb hby at_165) rfl rfl ?_
  show Steps p.tables e below (T.setTop (mkF m 167 #[x0, x1, x2, x3, x4, .val (.long val), .second, .val (.int pa), .val (.int pb), .val (.ref ab), x10, .val (.int pl), .val (.int (1 : Int32))] [(.ref ab), (.int (1 : Int32))])) _
  refine XS.iconst X.here hx rfl (hb hby at_167) ?_
  show Steps p.tables e below (T.setTop (mkF m 168 #[x0, x1, x2, x3, x4, .val (.long val), .second, .val (.int pa), .val (.int pb), .val (.ref ab), x10, .val (.int pl), .val (.int (1 : Int32))] [(.int (0 : Int32)), (.ref ab), (.int (1 : Int32))])) _
  refine X.baloadBytes hx (j := (0 : Int32)) (v := (.int (own_exp (0 : Int32) pa pl val pb))) (by rw [eT]; exact Ar32.1) (State.isArrayOf_alike hZ.alike Ar32.2.1) Ar32.2.2 hin32 hat32 (g := (mkF m 168 #[x0, x1, x2, x3, x4, .val (.long val), .second, .val (.int pa), .val (.int pb), .val (.ref ab), x10, .val (.int pl), .val (.int (1 : Int32))] [(.int (0 : Int32)), (.ref ab), (.int (1 : Int32))])) rfl rfl (hb hby at_168) _ ?_
  show Steps p.tables e below (T.setTop (mkF m 169 #[x0, x1, x2, x3, x4, .val (.long val), .second, .val (.int pa), .val (.int pb), .val (.ref ab), x10, .val (.int pl), .val (.int (1 : Int32))] [(.int (own_exp (0 : Int32) pa pl val pb)), (.int (1 : Int32))])) _
  refine XS.iconst X.here hx rfl (hb hby at_169) ?_
  show Steps p.tables e below (T.setTop (mkF m 170 #[x0, x1, x2, x3, x4, .val (.long val), .second, .val (.int pa), .val (.int pb), .val (.ref ab), x10, .val (.int pl), .val (.int (1 : Int32))] [(.int (0 : Int32)), (.int (own_exp (0 : Int32) pa pl val pb)), (.int (1 : Int32))])) _
  refine XS.iload X.here hx rfl (hb hby at_170) rfl ?_
  show Steps p.tables e below (T.setTop (mkF m 172 #[x0, x1, x2, x3, x4, .val (.long val), .second, .val (.int pa), .val (.int pb), .val (.ref ab), x10, .val (.int pl), .val (.int (1 : Int32))] [(.int pa), (.int (0 : Int32)), (.int (own_exp (0 : Int32) pa pl val pb)), (.int (1 : Int32))])) _
  refine XS.iload X.here hx rfl (hb hby at_172) rfl ?_
  show Steps p.tables e below (T.setTop (mkF m 174 #[x0, x1, x2, x3, x4, .val (.long val), .second, .val (.int pa), .val (.int pb), .val (.ref ab), x10, .val (.int pl), .val (.int (1 : Int32))] [(.int pl), (.int pa), (.int (0 : Int32)), (.int (own_exp (0 : Int32) pa pl val pb)), (.int (1 : Int32))])) _
  refine XT.lload X.here hx rfl (hb hby at_174) rfl ?_
  show Steps p.tables e below (T.setTop (mkF m 176 #[x0, x1, x2, x3, x4, .val (.long val), .second, .val (.int pa), .val (.int pb), .val (.ref ab), x10, .val (.int pl), .val (.int (1 : Int32))] [(.long val), (.int pl), (.int pa), (.int (0 : Int32)), (.int (own_exp (0 : Int32) pa pl val pb)), (.int (1 : Int32))])) _
  refine XS.iload X.here hx rfl (hb hby at_176) rfl ?_
  show Steps p.tables e below (T.setTop (mkF m 178 #[x0, x1, x2, x3, x4, .val (.long val), .second, .val (.int pa), .val (.int pb), .val (.ref ab), x10, .val (.int pl), .val (.int (1 : Int32))] [(.int pb), (.long val), (.int pl), (.int pa), (.int (0 : Int32)), (.int (own_exp (0 : Int32) pa pl val pb)), (.int (1 : Int32))])) _
  refine st33 _ ?_
  show Steps p.tables e below (T33.setTop (mkF m 181 #[x0, x1, x2, x3, x4, .val (.long val), .second, .val (.int pa), .val (.int pb), .val (.ref ab), x10, .val (.int pl), .val (.int (1 : Int32))] [(.int (own_exp (0 : Int32) pa pl val pb)), (.int (own_exp (0 : Int32) pa pl val pb)), (.int (1 : Int32))])) _
  refine XS.icmpNo X33.here hx rfl (hb hby at_181) rfl (XT.ii_ne_f rfl) ?_
  show Steps p.tables e below (T33.setTop (mkF m 184 #[x0, x1, x2, x3, x4, .val (.long val), .second, .val (.int pa), .val (.int pb), .val (.ref ab), x10, .val (.int pl), .val (.int (1 : Int32))] [(.int (1 : Int32))])) _
  refine XS.iconst X33.here hx rfl (hb hby at_184) ?_
  show Steps p.tables e below (T33.setTop (mkF m 185 #[x0, x1, x2, x3, x4, .val (.long val), .second, .val (.int pa), .val (.int pb), .val (.ref ab), x10, .val (.int pl), .val (.int (1 : Int32))] [(.int (1 : Int32)), (.int (1 : Int32))])) _
  refine XS.goto X33.here hx rfl (pc0 := 185) (pc' := 189) rfl (hb hby at_185) (by decide) (by decide) ?_
  show Steps p.tables e below (T33.setTop (mkF m 189 #[x0, x1, x2, x3, x4, .val (.long val), .second, .val (.int pa), .val (.int pb), .val (.ref ab), x10, .val (.int pl), .val (.int (1 : Int32))] [(.int (1 : Int32)), (.int (1 : Int32))])) _
  refine XS.iand X33.here hx rfl (hb hby at_189) rfl ?_
  show Steps p.tables e below (T33.setTop (mkF m 190 #[x0, x1, x2, x3, x4, .val (.long val), .second, .val (.int pa), .val (.int pb), .val (.ref ab), x10, .val (.int pl), .val (.int (1 : Int32))] [(.int (1 : Int32))])) _
  refine XS.istore X33.here hx rfl (hb hby at_190) rfl (l' := #[x0, x1, x2, x3, x4, .val (.long val), .second, .val (.int pa), .val (.int pb), .val (.ref ab), x10, .val (.int pl), .val (.int (1 : Int32))]) rfl ?_
  show Steps p.tables e below (T33.setTop (mkF m 192 #[x0, x1, x2, x3, x4, .val (.long val), .second, .val (.int pa), .val (.int pb), .val (.ref ab), x10, .val (.int pl), .val (.int (1 : Int32))] [])) _
  exact k
set_option maxRecDepth 65536 in
set_option maxHeartbeats 40000000 in
theorem own_ck1 {p : Program} {l : Launch} {e : Env} {s : State} {m : MethodId} {args : Array Value} {below : List Frame} {meth : Method} {c : Code} {T : State} {locs : List Loc} {Z : State} {a0 : Array Value} {h : Heap} {n0 : Nat} (hw : ∀ d ∈ tables_1, d.before a0 Z = true) (X : Stand p l e room_1 s m args below meth c T locs 1 16) (hx : p.tables.exec = Jvm.exec) (hZ : Z.Warmed39 s.vm) (hby : c.code = code) (hml : c.maxLocals = 13) (hown : s.vm.findClass "com/example/xml_element_search/xmlelementsearch/VarLongPutPinLaw" = some m.cls) (eT : T.heap = h) (N : Fr n0 locs) (Z0 : n0 ≤ h.size) (x0 : Slot) (x1 : Slot) (x2 : Slot) (x3 : Slot) (x4 : Slot) (val : Int64) (pa : Int32) (pb : Int32) (ab : Addr) (x10 : Slot) (pl : Int32) (k : ClassId) (f : Nat → Value) (V_ : Arf Z h ab k .byte 16 f) (hv : f 1 = .int (own_exp (1 : Int32) pa pl val pb)) :
    ∃ T' L', Stand p l e room_1 s m args below meth c T' L' 1 16 ∧ T'.heap = h ∧ Fr n0 L' ∧ ∀ target, Steps p.tables e below (T'.setTop (mkF m 221 #[x0, x1, x2, x3, x4, .val (.long val), .second, .val (.int pa), .val (.int pb), .val (.ref ab), x10, .val (.int pl), .val (.int (1 : Int32))] [])) target → Steps p.tables e below (T.setTop (mkF m 192 #[x0, x1, x2, x3, x4, .val (.long val), .second, .val (.int pa), .val (.int pb), .val (.ref ab), x10, .val (.int pl), .val (.int (1 : Int32))] [])) target := by
  obtain ⟨cl34, Ar34, qk34, S34, B34, H34, G34⟩ := id V_
  have hin34 : ¬ ((1 : Int32) < 0 ∨ cl34.slots.size ≤ ((1 : Int32)).toNatClampNeg) := own_inb S34 ⟨by decide, rfl⟩ (by decide)
  have hat34 : cl34.slots[((1 : Int32)).toNatClampNeg]? = some (.int (own_exp (1 : Int32) pa pl val pb)) := own_hat H34 ⟨by decide, rfl⟩ (by decide) hv
  obtain ⟨_, _, ⟨T35, L35, k35, n35⟩, -, X35, ⟨Lc35, hQ35, l35, y35, z35⟩, st35⟩ := Jvm.LawKit.callS X hx (y := (⟨"com/example/xml_element_search/xmlelementsearch/VarLongPutPinLaw", "expected", "(IIIJB)B"⟩ : MethodName)) hown (mvT hZ (hw _ (List.mem_of_getElem? (i := 10) rfl))) (mvT hZ (hw _ (List.mem_of_getElem? (i := 11) rfl))) (mvT hZ (hw _ (List.mem_of_getElem? (i := 8) rfl))) (mvT hZ (hw _ (List.mem_of_getElem? (i := 12) rfl))) (by decide) (backOf (W := 2) (own_expd l Z a0 hw [] (1 : Int32) pa pl val pb h n0 Z0 ) hZ (hw _ (List.mem_of_getElem? (i := 12) rfl)) (hw _ (List.mem_of_getElem? (i := 8) rfl)) (by decide) (by decide)) (g := (mkF m 207 #[x0, x1, x2, x3, x4, .val (.long val), .second, .val (.int pa), .val (.int pb), .val (.ref ab), x10, .val (.int pl), .val (.int (1 : Int32))] [(.int pb), (.long val), (.int pl), (.int pa), (.int (1 : Int32)), (.int (own_exp (1 : Int32) pa pl val pb)), (.int (1 : Int32))])) rfl (by rw [hml]; rfl) (argsL := [(.int (1 : Int32)), (.int pa), (.int pl), (.long val), (.int pb)]) (rest := [(.int (own_exp (1 : Int32) pa pl val pb)), (.int (1 : Int32))]) (lenOf pd_0 rfl) rfl (by show 2 * 0 + _ ≤ _; exact Nat.le_of_eq rfl) (hb hby at_207) (fun _ _ => ⟨rfl, eT, (by decide : 1 + 0 ≤ _), (by decide : 16 + 0 ≤ _)⟩)
  dsimp only [Pt.U, Pt.locs, Pt.cells, Pt.slots] at X35 l35 y35 z35 st35 hQ35
  subst l35 y35 z35
  obtain ⟨rfl, N35q, eh35⟩ := hQ35
  have N35 := Fr.app N N35q
  refine ⟨T35, _, X35, eh35, N35, fun target k => ?_⟩
  show Steps p.tables e below (T.setTop (mkF m 192 #[x0, x1, x2, x3, x4, .val (.long val), .second, .val (.int pa), .val (.int pb), .val (.ref ab), x10, .val (.int pl), .val (.int (1 : Int32))] [])) _
  refine XS.iload X.here hx rfl (hb hby at_192) rfl ?_
  show Steps p.tables e below (T.setTop (mkF m 194 #[x0, x1, x2, x3, x4, .val (.long val), .second, .val (.int pa), .val (.int pb), .val (.ref ab), x10, .val (.int pl), .val (.int (1 : Int32))] [(.int (1 : Int32))])) _
  refine XS.aload X.here hx rfl (hb hby at_194) rfl rfl ?_
  show Steps p.tables e below (T.setTop (mkF m 196 #[x0, x1, x2, x3, x4, .val (.long val), .second, .val (.int pa), .val (.int pb), .val (.ref ab), x10, .val (.int pl), .val (.int (1 : Int32))] [(.ref ab), (.int (1 : Int32))])) _
  refine XS.iconst X.here hx rfl (hb hby at_196) ?_
  show Steps p.tables e below (T.setTop (mkF m 197 #[x0, x1, x2, x3, x4, .val (.long val), .second, .val (.int pa), .val (.int pb), .val (.ref ab), x10, .val (.int pl), .val (.int (1 : Int32))] [(.int (1 : Int32)), (.ref ab), (.int (1 : Int32))])) _
  refine X.baloadBytes hx (j := (1 : Int32)) (v := (.int (own_exp (1 : Int32) pa pl val pb))) (by rw [eT]; exact Ar34.1) (State.isArrayOf_alike hZ.alike Ar34.2.1) Ar34.2.2 hin34 hat34 (g := (mkF m 197 #[x0, x1, x2, x3, x4, .val (.long val), .second, .val (.int pa), .val (.int pb), .val (.ref ab), x10, .val (.int pl), .val (.int (1 : Int32))] [(.int (1 : Int32)), (.ref ab), (.int (1 : Int32))])) rfl rfl (hb hby at_197) _ ?_
  show Steps p.tables e below (T.setTop (mkF m 198 #[x0, x1, x2, x3, x4, .val (.long val), .second, .val (.int pa), .val (.int pb), .val (.ref ab), x10, .val (.int pl), .val (.int (1 : Int32))] [(.int (own_exp (1 : Int32) pa pl val pb)), (.int (1 : Int32))])) _
  refine XS.iconst X.here hx rfl (hb hby at_198) ?_
  show Steps p.tables e below (T.setTop (mkF m 199 #[x0, x1, x2, x3, x4, .val (.long val), .second, .val (.int pa), .val (.int pb), .val (.ref ab), x10, .val (.int pl), .val (.int (1 : Int32))] [(.int (1 : Int32)), (.int (own_exp (1 : Int32) pa pl val pb)), (.int (1 : Int32))])) _
  refine XS.iload X.here hx rfl (hb hby at_199) rfl ?_
  show Steps p.tables e below (T.setTop (mkF m 201 #[x0, x1, x2, x3, x4, .val (.long val), .second, .val (.int pa), .val (.int pb), .val (.ref ab), x10, .val (.int pl), .val (.int (1 : Int32))] [(.int pa), (.int (1 : Int32)), (.int (own_exp (1 : Int32) pa pl val pb)), (.int (1 : Int32))])) _
  refine XS.iload X.here hx rfl (hb hby at_201) rfl ?_
  show Steps p.tables e below (T.setTop (mkF m 203 #[x0, x1, x2, x3, x4, .val (.long val), .second, .val (.int pa), .val (.int pb), .val (.ref ab), x10, .val (.int pl), .val (.int (1 : Int32))] [(.int pl), (.int pa), (.int (1 : Int32)), (.int (own_exp (1 : Int32) pa pl val pb)), (.int (1 : Int32))])) _
  refine XT.lload X.here hx rfl (hb hby at_203) rfl ?_
  show Steps p.tables e below (T.setTop (mkF m 205 #[x0, x1, x2, x3, x4, .val (.long val), .second, .val (.int pa), .val (.int pb), .val (.ref ab), x10, .val (.int pl), .val (.int (1 : Int32))] [(.long val), (.int pl), (.int pa), (.int (1 : Int32)), (.int (own_exp (1 : Int32) pa pl val pb)), (.int (1 : Int32))])) _
  refine XS.iload X.here hx rfl (hb hby at_205) rfl ?_
  show Steps p.tables e below (T.setTop (mkF m 207 #[x0, x1, x2, x3, x4, .val (.long val), .second, .val (.int pa), .val (.int pb), .val (.ref ab), x10, .val (.int pl), .val (.int (1 : Int32))] [(.int pb), (.long val), (.int pl), (.int pa), (.int (1 : Int32)), (.int (own_exp (1 : Int32) pa pl val pb)), (.int (1 : Int32))])) _
  refine st35 _ ?_
  show Steps p.tables e below (T35.setTop (mkF m 210 #[x0, x1, x2, x3, x4, .val (.long val), .second, .val (.int pa), .val (.int pb), .val (.ref ab), x10, .val (.int pl), .val (.int (1 : Int32))] [(.int (own_exp (1 : Int32) pa pl val pb)), (.int (own_exp (1 : Int32) pa pl val pb)), (.int (1 : Int32))])) _
  refine XS.icmpNo X35.here hx rfl (hb hby at_210) rfl (XT.ii_ne_f rfl) ?_
  show Steps p.tables e below (T35.setTop (mkF m 213 #[x0, x1, x2, x3, x4, .val (.long val), .second, .val (.int pa), .val (.int pb), .val (.ref ab), x10, .val (.int pl), .val (.int (1 : Int32))] [(.int (1 : Int32))])) _
  refine XS.iconst X35.here hx rfl (hb hby at_213) ?_
  show Steps p.tables e below (T35.setTop (mkF m 214 #[x0, x1, x2, x3, x4, .val (.long val), .second, .val (.int pa), .val (.int pb), .val (.ref ab), x10, .val (.int pl), .val (.int (1 : Int32))] [(.int (1 : Int32)), (.int (1 : Int32))])) _
  refine XS.goto X35.here hx rfl (pc0 := 214) (pc' := 218) rfl (hb hby at_214) (by decide) (by decide) ?_
  show Steps p.tables e below (T35.setTop (mkF m 218 #[x0, x1, x2, x3, x4, .val (.long val), .second, .val (.int pa), .val (.int pb), .val (.ref ab), x10, .val (.int pl), .val (.int (1 : Int32))] [(.int (1 : Int32)), (.int (1 : Int32))])) _
  refine XS.iand X35.here hx rfl (hb hby at_218) rfl ?_
  show Steps p.tables e below (T35.setTop (mkF m 219 #[x0, x1, x2, x3, x4, .val (.long val), .second, .val (.int pa), .val (.int pb), .val (.ref ab), x10, .val (.int pl), .val (.int (1 : Int32))] [(.int (1 : Int32))])) _
  refine XS.istore X35.here hx rfl (hb hby at_219) rfl (l' := #[x0, x1, x2, x3, x4, .val (.long val), .second, .val (.int pa), .val (.int pb), .val (.ref ab), x10, .val (.int pl), .val (.int (1 : Int32))]) rfl ?_
  show Steps p.tables e below (T35.setTop (mkF m 221 #[x0, x1, x2, x3, x4, .val (.long val), .second, .val (.int pa), .val (.int pb), .val (.ref ab), x10, .val (.int pl), .val (.int (1 : Int32))] [])) _
  exact k
set_option maxRecDepth 65536 in
set_option maxHeartbeats 40000000 in
theorem own_ck2 {p : Program} {l : Launch} {e : Env} {s : State} {m : MethodId} {args : Array Value} {below : List Frame} {meth : Method} {c : Code} {T : State} {locs : List Loc} {Z : State} {a0 : Array Value} {h : Heap} {n0 : Nat} (hw : ∀ d ∈ tables_1, d.before a0 Z = true) (X : Stand p l e room_1 s m args below meth c T locs 1 16) (hx : p.tables.exec = Jvm.exec) (hZ : Z.Warmed39 s.vm) (hby : c.code = code) (hml : c.maxLocals = 13) (hown : s.vm.findClass "com/example/xml_element_search/xmlelementsearch/VarLongPutPinLaw" = some m.cls) (eT : T.heap = h) (N : Fr n0 locs) (Z0 : n0 ≤ h.size) (x0 : Slot) (x1 : Slot) (x2 : Slot) (x3 : Slot) (x4 : Slot) (val : Int64) (pa : Int32) (pb : Int32) (ab : Addr) (x10 : Slot) (pl : Int32) (k : ClassId) (f : Nat → Value) (V_ : Arf Z h ab k .byte 16 f) (hv : f 2 = .int (own_exp (2 : Int32) pa pl val pb)) :
    ∃ T' L', Stand p l e room_1 s m args below meth c T' L' 1 16 ∧ T'.heap = h ∧ Fr n0 L' ∧ ∀ target, Steps p.tables e below (T'.setTop (mkF m 250 #[x0, x1, x2, x3, x4, .val (.long val), .second, .val (.int pa), .val (.int pb), .val (.ref ab), x10, .val (.int pl), .val (.int (1 : Int32))] [])) target → Steps p.tables e below (T.setTop (mkF m 221 #[x0, x1, x2, x3, x4, .val (.long val), .second, .val (.int pa), .val (.int pb), .val (.ref ab), x10, .val (.int pl), .val (.int (1 : Int32))] [])) target := by
  obtain ⟨cl36, Ar36, qk36, S36, B36, H36, G36⟩ := id V_
  have hin36 : ¬ ((2 : Int32) < 0 ∨ cl36.slots.size ≤ ((2 : Int32)).toNatClampNeg) := own_inb S36 ⟨by decide, rfl⟩ (by decide)
  have hat36 : cl36.slots[((2 : Int32)).toNatClampNeg]? = some (.int (own_exp (2 : Int32) pa pl val pb)) := own_hat H36 ⟨by decide, rfl⟩ (by decide) hv
  obtain ⟨_, _, ⟨T37, L37, k37, n37⟩, -, X37, ⟨Lc37, hQ37, l37, y37, z37⟩, st37⟩ := Jvm.LawKit.callS X hx (y := (⟨"com/example/xml_element_search/xmlelementsearch/VarLongPutPinLaw", "expected", "(IIIJB)B"⟩ : MethodName)) hown (mvT hZ (hw _ (List.mem_of_getElem? (i := 10) rfl))) (mvT hZ (hw _ (List.mem_of_getElem? (i := 11) rfl))) (mvT hZ (hw _ (List.mem_of_getElem? (i := 8) rfl))) (mvT hZ (hw _ (List.mem_of_getElem? (i := 12) rfl))) (by decide) (backOf (W := 2) (own_expd l Z a0 hw [] (2 : Int32) pa pl val pb h n0 Z0 ) hZ (hw _ (List.mem_of_getElem? (i := 12) rfl)) (hw _ (List.mem_of_getElem? (i := 8) rfl)) (by decide) (by decide)) (g := (mkF m 236 #[x0, x1, x2, x3, x4, .val (.long val), .second, .val (.int pa), .val (.int pb), .val (.ref ab), x10, .val (.int pl), .val (.int (1 : Int32))] [(.int pb), (.long val), (.int pl), (.int pa), (.int (2 : Int32)), (.int (own_exp (2 : Int32) pa pl val pb)), (.int (1 : Int32))])) rfl (by rw [hml]; rfl) (argsL := [(.int (2 : Int32)), (.int pa), (.int pl), (.long val), (.int pb)]) (rest := [(.int (own_exp (2 : Int32) pa pl val pb)), (.int (1 : Int32))]) (lenOf pd_0 rfl) rfl (by show 2 * 0 + _ ≤ _; exact Nat.le_of_eq rfl) (hb hby at_236) (fun _ _ => ⟨rfl, eT, (by decide : 1 + 0 ≤ _), (by decide : 16 + 0 ≤ _)⟩)
  dsimp only [Pt.U, Pt.locs, Pt.cells, Pt.slots] at X37 l37 y37 z37 st37 hQ37
  subst l37 y37 z37
  obtain ⟨rfl, N37q, eh37⟩ := hQ37
  have N37 := Fr.app N N37q
  refine ⟨T37, _, X37, eh37, N37, fun target k => ?_⟩
  show Steps p.tables e below (T.setTop (mkF m 221 #[x0, x1, x2, x3, x4, .val (.long val), .second, .val (.int pa), .val (.int pb), .val (.ref ab), x10, .val (.int pl), .val (.int (1 : Int32))] [])) _
  refine XS.iload X.here hx rfl (hb hby at_221) rfl ?_
  show Steps p.tables e below (T.setTop (mkF m 223 #[x0, x1, x2, x3, x4, .val (.long val), .second, .val (.int pa), .val (.int pb), .val (.ref ab), x10, .val (.int pl), .val (.int (1 : Int32))] [(.int (1 : Int32))])) _
  refine XS.aload X.here hx rfl (hb hby at_223) rfl rfl ?_
  show Steps p.tables e below (T.setTop (mkF m 225 #[x0, x1, x2, x3, x4, .val (.long val), .second, .val (.int pa), .val (.int pb), .val (.ref ab), x10, .val (.int pl), .val (.int (1 : Int32))] [(.ref ab), (.int (1 : Int32))])) _
  refine XS.iconst X.here hx rfl (hb hby at_225) ?_
  show Steps p.tables e below (T.setTop (mkF m 226 #[x0, x1, x2, x3, x4, .val (.long val), .second, .val (.int pa), .val (.int pb), .val (.ref ab), x10, .val (.int pl), .val (.int (1 : Int32))] [(.int (2 : Int32)), (.ref ab), (.int (1 : Int32))])) _
  refine X.baloadBytes hx (j := (2 : Int32)) (v := (.int (own_exp (2 : Int32) pa pl val pb))) (by rw [eT]; exact Ar36.1) (State.isArrayOf_alike hZ.alike Ar36.2.1) Ar36.2.2 hin36 hat36 (g := (mkF m 226 #[x0, x1, x2, x3, x4, .val (.long val), .second, .val (.int pa), .val (.int pb), .val (.ref ab), x10, .val (.int pl), .val (.int (1 : Int32))] [(.int (2 : Int32)), (.ref ab), (.int (1 : Int32))])) rfl rfl (hb hby at_226) _ ?_
  show Steps p.tables e below (T.setTop (mkF m 227 #[x0, x1, x2, x3, x4, .val (.long val), .second, .val (.int pa), .val (.int pb), .val (.ref ab), x10, .val (.int pl), .val (.int (1 : Int32))] [(.int (own_exp (2 : Int32) pa pl val pb)), (.int (1 : Int32))])) _
  refine XS.iconst X.here hx rfl (hb hby at_227) ?_
  show Steps p.tables e below (T.setTop (mkF m 228 #[x0, x1, x2, x3, x4, .val (.long val), .second, .val (.int pa), .val (.int pb), .val (.ref ab), x10, .val (.int pl), .val (.int (1 : Int32))] [(.int (2 : Int32)), (.int (own_exp (2 : Int32) pa pl val pb)), (.int (1 : Int32))])) _
  refine XS.iload X.here hx rfl (hb hby at_228) rfl ?_
  show Steps p.tables e below (T.setTop (mkF m 230 #[x0, x1, x2, x3, x4, .val (.long val), .second, .val (.int pa), .val (.int pb), .val (.ref ab), x10, .val (.int pl), .val (.int (1 : Int32))] [(.int pa), (.int (2 : Int32)), (.int (own_exp (2 : Int32) pa pl val pb)), (.int (1 : Int32))])) _
  refine XS.iload X.here hx rfl (hb hby at_230) rfl ?_
  show Steps p.tables e below (T.setTop (mkF m 232 #[x0, x1, x2, x3, x4, .val (.long val), .second, .val (.int pa), .val (.int pb), .val (.ref ab), x10, .val (.int pl), .val (.int (1 : Int32))] [(.int pl), (.int pa), (.int (2 : Int32)), (.int (own_exp (2 : Int32) pa pl val pb)), (.int (1 : Int32))])) _
  refine XT.lload X.here hx rfl (hb hby at_232) rfl ?_
  show Steps p.tables e below (T.setTop (mkF m 234 #[x0, x1, x2, x3, x4, .val (.long val), .second, .val (.int pa), .val (.int pb), .val (.ref ab), x10, .val (.int pl), .val (.int (1 : Int32))] [(.long val), (.int pl), (.int pa), (.int (2 : Int32)), (.int (own_exp (2 : Int32) pa pl val pb)), (.int (1 : Int32))])) _
  refine XS.iload X.here hx rfl (hb hby at_234) rfl ?_
  show Steps p.tables e below (T.setTop (mkF m 236 #[x0, x1, x2, x3, x4, .val (.long val), .second, .val (.int pa), .val (.int pb), .val (.ref ab), x10, .val (.int pl), .val (.int (1 : Int32))] [(.int pb), (.long val), (.int pl), (.int pa), (.int (2 : Int32)), (.int (own_exp (2 : Int32) pa pl val pb)), (.int (1 : Int32))])) _
  refine st37 _ ?_
  show Steps p.tables e below (T37.setTop (mkF m 239 #[x0, x1, x2, x3, x4, .val (.long val), .second, .val (.int pa), .val (.int pb), .val (.ref ab), x10, .val (.int pl), .val (.int (1 : Int32))] [(.int (own_exp (2 : Int32) pa pl val pb)), (.int (own_exp (2 : Int32) pa pl val pb)), (.int (1 : Int32))])) _
  refine XS.icmpNo X37.here hx rfl (hb hby at_239) rfl (XT.ii_ne_f rfl) ?_
  show Steps p.tables e below (T37.setTop (mkF m 242 #[x0, x1, x2, x3, x4, .val (.long val), .second, .val (.int pa), .val (.int pb), .val (.ref ab), x10, .val (.int pl), .val (.int (1 : Int32))] [(.int (1 : Int32))])) _
  refine XS.iconst X37.here hx rfl (hb hby at_242) ?_
  show Steps p.tables e below (T37.setTop (mkF m 243 #[x0, x1, x2, x3, x4, .val (.long val), .second, .val (.int pa), .val (.int pb), .val (.ref ab), x10, .val (.int pl), .val (.int (1 : Int32))] [(.int (1 : Int32)), (.int (1 : Int32))])) _
  refine XS.goto X37.here hx rfl (pc0 := 243) (pc' := 247) rfl (hb hby at_243) (by decide) (by decide) ?_
  show Steps p.tables e below (T37.setTop (mkF m 247 #[x0, x1, x2, x3, x4, .val (.long val), .second, .val (.int pa), .val (.int pb), .val (.ref ab), x10, .val (.int pl), .val (.int (1 : Int32))] [(.int (1 : Int32)), (.int (1 : Int32))])) _
  refine XS.iand X37.here hx rfl (hb hby at_247) rfl ?_
  show Steps p.tables e below (T37.setTop (mkF m 248 #[x0, x1, x2, x3, x4, .val (.long val), .second, .val (.int pa), .val (.int pb), .val (.ref ab), x10, .val (.int pl), .val (.int (1 : Int32))] [(.int (1 : Int32))])) _
  refine XS.istore X37.here hx rfl (hb hby at_248) rfl (l' := #[x0, x1, x2, x3, x4, .val (.long val), .second, .val (.int pa), .val (.int pb), .val (.ref ab), x10, .val (.int pl), .val (.int (1 : Int32))]) rfl ?_
  show Steps p.tables e below (T37.setTop (mkF m 250 #[x0, x1, x2, x3, x4, .val (.long val), .second, .val (.int pa), .val (.int pb), .val (.ref ab), x10, .val (.int pl), .val (.int (1 : Int32))] [])) _
  exact k
set_option maxRecDepth 65536 in
set_option maxHeartbeats 40000000 in
theorem own_ck3 {p : Program} {l : Launch} {e : Env} {s : State} {m : MethodId} {args : Array Value} {below : List Frame} {meth : Method} {c : Code} {T : State} {locs : List Loc} {Z : State} {a0 : Array Value} {h : Heap} {n0 : Nat} (hw : ∀ d ∈ tables_1, d.before a0 Z = true) (X : Stand p l e room_1 s m args below meth c T locs 1 16) (hx : p.tables.exec = Jvm.exec) (hZ : Z.Warmed39 s.vm) (hby : c.code = code) (hml : c.maxLocals = 13) (hown : s.vm.findClass "com/example/xml_element_search/xmlelementsearch/VarLongPutPinLaw" = some m.cls) (eT : T.heap = h) (N : Fr n0 locs) (Z0 : n0 ≤ h.size) (x0 : Slot) (x1 : Slot) (x2 : Slot) (x3 : Slot) (x4 : Slot) (val : Int64) (pa : Int32) (pb : Int32) (ab : Addr) (x10 : Slot) (pl : Int32) (k : ClassId) (f : Nat → Value) (V_ : Arf Z h ab k .byte 16 f) (hv : f 3 = .int (own_exp (3 : Int32) pa pl val pb)) :
    ∃ T' L', Stand p l e room_1 s m args below meth c T' L' 1 16 ∧ T'.heap = h ∧ Fr n0 L' ∧ ∀ target, Steps p.tables e below (T'.setTop (mkF m 279 #[x0, x1, x2, x3, x4, .val (.long val), .second, .val (.int pa), .val (.int pb), .val (.ref ab), x10, .val (.int pl), .val (.int (1 : Int32))] [])) target → Steps p.tables e below (T.setTop (mkF m 250 #[x0, x1, x2, x3, x4, .val (.long val), .second, .val (.int pa), .val (.int pb), .val (.ref ab), x10, .val (.int pl), .val (.int (1 : Int32))] [])) target := by
  obtain ⟨cl38, Ar38, qk38, S38, B38, H38, G38⟩ := id V_
  have hin38 : ¬ ((3 : Int32) < 0 ∨ cl38.slots.size ≤ ((3 : Int32)).toNatClampNeg) := own_inb S38 ⟨by decide, rfl⟩ (by decide)
  have hat38 : cl38.slots[((3 : Int32)).toNatClampNeg]? = some (.int (own_exp (3 : Int32) pa pl val pb)) := own_hat H38 ⟨by decide, rfl⟩ (by decide) hv
  obtain ⟨_, _, ⟨T39, L39, k39, n39⟩, -, X39, ⟨Lc39, hQ39, l39, y39, z39⟩, st39⟩ := Jvm.LawKit.callS X hx (y := (⟨"com/example/xml_element_search/xmlelementsearch/VarLongPutPinLaw", "expected", "(IIIJB)B"⟩ : MethodName)) hown (mvT hZ (hw _ (List.mem_of_getElem? (i := 10) rfl))) (mvT hZ (hw _ (List.mem_of_getElem? (i := 11) rfl))) (mvT hZ (hw _ (List.mem_of_getElem? (i := 8) rfl))) (mvT hZ (hw _ (List.mem_of_getElem? (i := 12) rfl))) (by decide) (backOf (W := 2) (own_expd l Z a0 hw [] (3 : Int32) pa pl val pb h n0 Z0 ) hZ (hw _ (List.mem_of_getElem? (i := 12) rfl)) (hw _ (List.mem_of_getElem? (i := 8) rfl)) (by decide) (by decide)) (g := (mkF m 265 #[x0, x1, x2, x3, x4, .val (.long val), .second, .val (.int pa), .val (.int pb), .val (.ref ab), x10, .val (.int pl), .val (.int (1 : Int32))] [(.int pb), (.long val), (.int pl), (.int pa), (.int (3 : Int32)), (.int (own_exp (3 : Int32) pa pl val pb)), (.int (1 : Int32))])) rfl (by rw [hml]; rfl) (argsL := [(.int (3 : Int32)), (.int pa), (.int pl), (.long val), (.int pb)]) (rest := [(.int (own_exp (3 : Int32) pa pl val pb)), (.int (1 : Int32))]) (lenOf pd_0 rfl) rfl (by show 2 * 0 + _ ≤ _; exact Nat.le_of_eq rfl) (hb hby at_265) (fun _ _ => ⟨rfl, eT, (by decide : 1 + 0 ≤ _), (by decide : 16 + 0 ≤ _)⟩)
  dsimp only [Pt.U, Pt.locs, Pt.cells, Pt.slots] at X39 l39 y39 z39 st39 hQ39
  subst l39 y39 z39
  obtain ⟨rfl, N39q, eh39⟩ := hQ39
  have N39 := Fr.app N N39q
  refine ⟨T39, _, X39, eh39, N39, fun target k => ?_⟩
  show Steps p.tables e below (T.setTop (mkF m 250 #[x0, x1, x2, x3, x4, .val (.long val), .second, .val (.int pa), .val (.int pb), .val (.ref ab), x10, .val (.int pl), .val (.int (1 : Int32))] [])) _
  refine XS.iload X.here hx rfl (hb hby at_250) rfl ?_
  show Steps p.tables e below (T.setTop (mkF m 252 #[x0, x1, x2, x3, x4, .val (.long val), .second, .val (.int pa), .val (.int pb), .val (.ref ab), x10, .val (.int pl), .val (.int (1 : Int32))] [(.int (1 : Int32))])) _
  refine XS.aload X.here hx rfl (hb hby at_252) rfl rfl ?_
  show Steps p.tables e below (T.setTop (mkF m 254 #[x0, x1, x2, x3, x4, .val (.long val), .second, .val (.int pa), .val (.int pb), .val (.ref ab), x10, .val (.int pl), .val (.int (1 : Int32))] [(.ref ab), (.int (1 : Int32))])) _
  refine XS.iconst X.here hx rfl (hb hby at_254) ?_
  show Steps p.tables e below (T.setTop (mkF m 255 #[x0, x1, x2, x3, x4, .val (.long val), .second, .val (.int pa), .val (.int pb), .val (.ref ab), x10, .val (.int pl), .val (.int (1 : Int32))] [(.int (3 : Int32)), (.ref ab), (.int (1 : Int32))])) _
  refine X.baloadBytes hx (j := (3 : Int32)) (v := (.int (own_exp (3 : Int32) pa pl val pb))) (by rw [eT]; exact Ar38.1) (State.isArrayOf_alike hZ.alike Ar38.2.1) Ar38.2.2 hin38 hat38 (g := (mkF m 255 #[x0, x1, x2, x3, x4, .val (.long val), .second, .val (.int pa), .val (.int pb), .val (.ref ab), x10, .val (.int pl), .val (.int (1 : Int32))] [(.int (3 : Int32)), (.ref ab), (.int (1 : Int32))])) rfl rfl (hb hby at_255) _ ?_
  show Steps p.tables e below (T.setTop (mkF m 256 #[x0, x1, x2, x3, x4, .val (.long val), .second, .val (.int pa), .val (.int pb), .val (.ref ab), x10, .val (.int pl), .val (.int (1 : Int32))] [(.int (own_exp (3 : Int32) pa pl val pb)), (.int (1 : Int32))])) _
  refine XS.iconst X.here hx rfl (hb hby at_256) ?_
  show Steps p.tables e below (T.setTop (mkF m 257 #[x0, x1, x2, x3, x4, .val (.long val), .second, .val (.int pa), .val (.int pb), .val (.ref ab), x10, .val (.int pl), .val (.int (1 : Int32))] [(.int (3 : Int32)), (.int (own_exp (3 : Int32) pa pl val pb)), (.int (1 : Int32))])) _
  refine XS.iload X.here hx rfl (hb hby at_257) rfl ?_
  show Steps p.tables e below (T.setTop (mkF m 259 #[x0, x1, x2, x3, x4, .val (.long val), .second, .val (.int pa), .val (.int pb), .val (.ref ab), x10, .val (.int pl), .val (.int (1 : Int32))] [(.int pa), (.int (3 : Int32)), (.int (own_exp (3 : Int32) pa pl val pb)), (.int (1 : Int32))])) _
  refine XS.iload X.here hx rfl (hb hby at_259) rfl ?_
  show Steps p.tables e below (T.setTop (mkF m 261 #[x0, x1, x2, x3, x4, .val (.long val), .second, .val (.int pa), .val (.int pb), .val (.ref ab), x10, .val (.int pl), .val (.int (1 : Int32))] [(.int pl), (.int pa), (.int (3 : Int32)), (.int (own_exp (3 : Int32) pa pl val pb)), (.int (1 : Int32))])) _
  refine XT.lload X.here hx rfl (hb hby at_261) rfl ?_
  show Steps p.tables e below (T.setTop (mkF m 263 #[x0, x1, x2, x3, x4, .val (.long val), .second, .val (.int pa), .val (.int pb), .val (.ref ab), x10, .val (.int pl), .val (.int (1 : Int32))] [(.long val), (.int pl), (.int pa), (.int (3 : Int32)), (.int (own_exp (3 : Int32) pa pl val pb)), (.int (1 : Int32))])) _
  refine XS.iload X.here hx rfl (hb hby at_263) rfl ?_
  show Steps p.tables e below (T.setTop (mkF m 265 #[x0, x1, x2, x3, x4, .val (.long val), .second, .val (.int pa), .val (.int pb), .val (.ref ab), x10, .val (.int pl), .val (.int (1 : Int32))] [(.int pb), (.long val), (.int pl), (.int pa), (.int (3 : Int32)), (.int (own_exp (3 : Int32) pa pl val pb)), (.int (1 : Int32))])) _
  refine st39 _ ?_
  show Steps p.tables e below (T39.setTop (mkF m 268 #[x0, x1, x2, x3, x4, .val (.long val), .second, .val (.int pa), .val (.int pb), .val (.ref ab), x10, .val (.int pl), .val (.int (1 : Int32))] [(.int (own_exp (3 : Int32) pa pl val pb)), (.int (own_exp (3 : Int32) pa pl val pb)), (.int (1 : Int32))])) _
  refine XS.icmpNo X39.here hx rfl (hb hby at_268) rfl (XT.ii_ne_f rfl) ?_
  show Steps p.tables e below (T39.setTop (mkF m 271 #[x0, x1, x2, x3, x4, .val (.long val), .second, .val (.int pa), .val (.int pb), .val (.ref ab), x10, .val (.int pl), .val (.int (1 : Int32))] [(.int (1 : Int32))])) _
  refine XS.iconst X39.here hx rfl (hb hby at_271) ?_
  show Steps p.tables e below (T39.setTop (mkF m 272 #[x0, x1, x2, x3, x4, .val (.long val), .second, .val (.int pa), .val (.int pb), .val (.ref ab), x10, .val (.int pl), .val (.int (1 : Int32))] [(.int (1 : Int32)), (.int (1 : Int32))])) _
  refine XS.goto X39.here hx rfl (pc0 := 272) (pc' := 276) rfl (hb hby at_272) (by decide) (by decide) ?_
  show Steps p.tables e below (T39.setTop (mkF m 276 #[x0, x1, x2, x3, x4, .val (.long val), .second, .val (.int pa), .val (.int pb), .val (.ref ab), x10, .val (.int pl), .val (.int (1 : Int32))] [(.int (1 : Int32)), (.int (1 : Int32))])) _
  refine XS.iand X39.here hx rfl (hb hby at_276) rfl ?_
  show Steps p.tables e below (T39.setTop (mkF m 277 #[x0, x1, x2, x3, x4, .val (.long val), .second, .val (.int pa), .val (.int pb), .val (.ref ab), x10, .val (.int pl), .val (.int (1 : Int32))] [(.int (1 : Int32))])) _
  refine XS.istore X39.here hx rfl (hb hby at_277) rfl (l' := #[x0, x1, x2, x3, x4, .val (.long val), .second, .val (.int pa), .val (.int pb), .val (.ref ab), x10, .val (.int pl), .val (.int (1 : Int32))]) rfl ?_
  show Steps p.tables e below (T39.setTop (mkF m 279 #[x0, x1, x2, x3, x4, .val (.long val), .second, .val (.int pa), .val (.int pb), .val (.ref ab), x10, .val (.int pl), .val (.int (1 : Int32))] [])) _
  exact k
set_option maxRecDepth 65536 in
set_option maxHeartbeats 40000000 in
theorem own_ck4 {p : Program} {l : Launch} {e : Env} {s : State} {m : MethodId} {args : Array Value} {below : List Frame} {meth : Method} {c : Code} {T : State} {locs : List Loc} {Z : State} {a0 : Array Value} {h : Heap} {n0 : Nat} (hw : ∀ d ∈ tables_1, d.before a0 Z = true) (X : Stand p l e room_1 s m args below meth c T locs 1 16) (hx : p.tables.exec = Jvm.exec) (hZ : Z.Warmed39 s.vm) (hby : c.code = code) (hml : c.maxLocals = 13) (hown : s.vm.findClass "com/example/xml_element_search/xmlelementsearch/VarLongPutPinLaw" = some m.cls) (eT : T.heap = h) (N : Fr n0 locs) (Z0 : n0 ≤ h.size) (x0 : Slot) (x1 : Slot) (x2 : Slot) (x3 : Slot) (x4 : Slot) (val : Int64) (pa : Int32) (pb : Int32) (ab : Addr) (x10 : Slot) (pl : Int32) (k : ClassId) (f : Nat → Value) (V_ : Arf Z h ab k .byte 16 f) (hv : f 4 = .int (own_exp (4 : Int32) pa pl val pb)) :
    ∃ T' L', Stand p l e room_1 s m args below meth c T' L' 1 16 ∧ T'.heap = h ∧ Fr n0 L' ∧ ∀ target, Steps p.tables e below (T'.setTop (mkF m 308 #[x0, x1, x2, x3, x4, .val (.long val), .second, .val (.int pa), .val (.int pb), .val (.ref ab), x10, .val (.int pl), .val (.int (1 : Int32))] [])) target → Steps p.tables e below (T.setTop (mkF m 279 #[x0, x1, x2, x3, x4, .val (.long val), .second, .val (.int pa), .val (.int pb), .val (.ref ab), x10, .val (.int pl), .val (.int (1 : Int32))] [])) target := by
  obtain ⟨cl40, Ar40, qk40, S40, B40, H40, G40⟩ := id V_
  have hin40 : ¬ ((4 : Int32) < 0 ∨ cl40.slots.size ≤ ((4 : Int32)).toNatClampNeg) := own_inb S40 ⟨by decide, rfl⟩ (by decide)
  have hat40 : cl40.slots[((4 : Int32)).toNatClampNeg]? = some (.int (own_exp (4 : Int32) pa pl val pb)) := own_hat H40 ⟨by decide, rfl⟩ (by decide) hv
  obtain ⟨_, _, ⟨T41, L41, k41, n41⟩, -, X41, ⟨Lc41, hQ41, l41, y41, z41⟩, st41⟩ := Jvm.LawKit.callS X hx (y := (⟨"com/example/xml_element_search/xmlelementsearch/VarLongPutPinLaw", "expected", "(IIIJB)B"⟩ : MethodName)) hown (mvT hZ (hw _ (List.mem_of_getElem? (i := 10) rfl))) (mvT hZ (hw _ (List.mem_of_getElem? (i := 11) rfl))) (mvT hZ (hw _ (List.mem_of_getElem? (i := 8) rfl))) (mvT hZ (hw _ (List.mem_of_getElem? (i := 12) rfl))) (by decide) (backOf (W := 2) (own_expd l Z a0 hw [] (4 : Int32) pa pl val pb h n0 Z0 ) hZ (hw _ (List.mem_of_getElem? (i := 12) rfl)) (hw _ (List.mem_of_getElem? (i := 8) rfl)) (by decide) (by decide)) (g := (mkF m 294 #[x0, x1, x2, x3, x4, .val (.long val), .second, .val (.int pa), .val (.int pb), .val (.ref ab), x10, .val (.int pl), .val (.int (1 : Int32))] [(.int pb), (.long val), (.int pl), (.int pa), (.int (4 : Int32)), (.int (own_exp (4 : Int32) pa pl val pb)), (.int (1 : Int32))])) rfl (by rw [hml]; rfl) (argsL := [(.int (4 : Int32)), (.int pa), (.int pl), (.long val), (.int pb)]) (rest := [(.int (own_exp (4 : Int32) pa pl val pb)), (.int (1 : Int32))]) (lenOf pd_0 rfl) rfl (by show 2 * 0 + _ ≤ _; exact Nat.le_of_eq rfl) (hb hby at_294) (fun _ _ => ⟨rfl, eT, (by decide : 1 + 0 ≤ _), (by decide : 16 + 0 ≤ _)⟩)
  dsimp only [Pt.U, Pt.locs, Pt.cells, Pt.slots] at X41 l41 y41 z41 st41 hQ41
  subst l41 y41 z41
  obtain ⟨rfl, N41q, eh41⟩ := hQ41
  have N41 := Fr.app N N41q
  refine ⟨T41, _, X41, eh41, N41, fun target k => ?_⟩
  show Steps p.tables e below (T.setTop (mkF m 279 #[x0, x1, x2, x3, x4, .val (.long val), .second, .val (.int pa), .val (.int pb), .val (.ref ab), x10, .val (.int pl), .val (.int (1 : Int32))] [])) _
  refine XS.iload X.here hx rfl (hb hby at_279) rfl ?_
  show Steps p.tables e below (T.setTop (mkF m 281 #[x0, x1, x2, x3, x4, .val (.long val), .second, .val (.int pa), .val (.int pb), .val (.ref ab), x10, .val (.int pl), .val (.int (1 : Int32))] [(.int (1 : Int32))])) _
  refine XS.aload X.here hx rfl (hb hby at_281) rfl rfl ?_
  show Steps p.tables e below (T.setTop (mkF m 283 #[x0, x1, x2, x3, x4, .val (.long val), .second, .val (.int pa), .val (.int pb), .val (.ref ab), x10, .val (.int pl), .val (.int (1 : Int32))] [(.ref ab), (.int (1 : Int32))])) _
  refine XS.iconst X.here hx rfl (hb hby at_283) ?_
  show Steps p.tables e below (T.setTop (mkF m 284 #[x0, x1, x2, x3, x4, .val (.long val), .second, .val (.int pa), .val (.int pb), .val (.ref ab), x10, .val (.int pl), .val (.int (1 : Int32))] [(.int (4 : Int32)), (.ref ab), (.int (1 : Int32))])) _
  refine X.baloadBytes hx (j := (4 : Int32)) (v := (.int (own_exp (4 : Int32) pa pl val pb))) (by rw [eT]; exact Ar40.1) (State.isArrayOf_alike hZ.alike Ar40.2.1) Ar40.2.2 hin40 hat40 (g := (mkF m 284 #[x0, x1, x2, x3, x4, .val (.long val), .second, .val (.int pa), .val (.int pb), .val (.ref ab), x10, .val (.int pl), .val (.int (1 : Int32))] [(.int (4 : Int32)), (.ref ab), (.int (1 : Int32))])) rfl rfl (hb hby at_284) _ ?_
  show Steps p.tables e below (T.setTop (mkF m 285 #[x0, x1, x2, x3, x4, .val (.long val), .second, .val (.int pa), .val (.int pb), .val (.ref ab), x10, .val (.int pl), .val (.int (1 : Int32))] [(.int (own_exp (4 : Int32) pa pl val pb)), (.int (1 : Int32))])) _
  refine XS.iconst X.here hx rfl (hb hby at_285) ?_
  show Steps p.tables e below (T.setTop (mkF m 286 #[x0, x1, x2, x3, x4, .val (.long val), .second, .val (.int pa), .val (.int pb), .val (.ref ab), x10, .val (.int pl), .val (.int (1 : Int32))] [(.int (4 : Int32)), (.int (own_exp (4 : Int32) pa pl val pb)), (.int (1 : Int32))])) _
  refine XS.iload X.here hx rfl (hb hby at_286) rfl ?_
  show Steps p.tables e below (T.setTop (mkF m 288 #[x0, x1, x2, x3, x4, .val (.long val), .second, .val (.int pa), .val (.int pb), .val (.ref ab), x10, .val (.int pl), .val (.int (1 : Int32))] [(.int pa), (.int (4 : Int32)), (.int (own_exp (4 : Int32) pa pl val pb)), (.int (1 : Int32))])) _
  refine XS.iload X.here hx rfl (hb hby at_288) rfl ?_
  show Steps p.tables e below (T.setTop (mkF m 290 #[x0, x1, x2, x3, x4, .val (.long val), .second, .val (.int pa), .val (.int pb), .val (.ref ab), x10, .val (.int pl), .val (.int (1 : Int32))] [(.int pl), (.int pa), (.int (4 : Int32)), (.int (own_exp (4 : Int32) pa pl val pb)), (.int (1 : Int32))])) _
  refine XT.lload X.here hx rfl (hb hby at_290) rfl ?_
  show Steps p.tables e below (T.setTop (mkF m 292 #[x0, x1, x2, x3, x4, .val (.long val), .second, .val (.int pa), .val (.int pb), .val (.ref ab), x10, .val (.int pl), .val (.int (1 : Int32))] [(.long val), (.int pl), (.int pa), (.int (4 : Int32)), (.int (own_exp (4 : Int32) pa pl val pb)), (.int (1 : Int32))])) _
  refine XS.iload X.here hx rfl (hb hby at_292) rfl ?_
  show Steps p.tables e below (T.setTop (mkF m 294 #[x0, x1, x2, x3, x4, .val (.long val), .second, .val (.int pa), .val (.int pb), .val (.ref ab), x10, .val (.int pl), .val (.int (1 : Int32))] [(.int pb), (.long val), (.int pl), (.int pa), (.int (4 : Int32)), (.int (own_exp (4 : Int32) pa pl val pb)), (.int (1 : Int32))])) _
  refine st41 _ ?_
  show Steps p.tables e below (T41.setTop (mkF m 297 #[x0, x1, x2, x3, x4, .val (.long val), .second, .val (.int pa), .val (.int pb), .val (.ref ab), x10, .val (.int pl), .val (.int (1 : Int32))] [(.int (own_exp (4 : Int32) pa pl val pb)), (.int (own_exp (4 : Int32) pa pl val pb)), (.int (1 : Int32))])) _
  refine XS.icmpNo X41.here hx rfl (hb hby at_297) rfl (XT.ii_ne_f rfl) ?_
  show Steps p.tables e below (T41.setTop (mkF m 300 #[x0, x1, x2, x3, x4, .val (.long val), .second, .val (.int pa), .val (.int pb), .val (.ref ab), x10, .val (.int pl), .val (.int (1 : Int32))] [(.int (1 : Int32))])) _
  refine XS.iconst X41.here hx rfl (hb hby at_300) ?_
  show Steps p.tables e below (T41.setTop (mkF m 301 #[x0, x1, x2, x3, x4, .val (.long val), .second, .val (.int pa), .val (.int pb), .val (.ref ab), x10, .val (.int pl), .val (.int (1 : Int32))] [(.int (1 : Int32)), (.int (1 : Int32))])) _
  refine XS.goto X41.here hx rfl (pc0 := 301) (pc' := 305) rfl (hb hby at_301) (by decide) (by decide) ?_
  show Steps p.tables e below (T41.setTop (mkF m 305 #[x0, x1, x2, x3, x4, .val (.long val), .second, .val (.int pa), .val (.int pb), .val (.ref ab), x10, .val (.int pl), .val (.int (1 : Int32))] [(.int (1 : Int32)), (.int (1 : Int32))])) _
  refine XS.iand X41.here hx rfl (hb hby at_305) rfl ?_
  show Steps p.tables e below (T41.setTop (mkF m 306 #[x0, x1, x2, x3, x4, .val (.long val), .second, .val (.int pa), .val (.int pb), .val (.ref ab), x10, .val (.int pl), .val (.int (1 : Int32))] [(.int (1 : Int32))])) _
  refine XS.istore X41.here hx rfl (hb hby at_306) rfl (l' := #[x0, x1, x2, x3, x4, .val (.long val), .second, .val (.int pa), .val (.int pb), .val (.ref ab), x10, .val (.int pl), .val (.int (1 : Int32))]) rfl ?_
  show Steps p.tables e below (T41.setTop (mkF m 308 #[x0, x1, x2, x3, x4, .val (.long val), .second, .val (.int pa), .val (.int pb), .val (.ref ab), x10, .val (.int pl), .val (.int (1 : Int32))] [])) _
  exact k
set_option maxRecDepth 65536 in
set_option maxHeartbeats 40000000 in
theorem own_ck5 {p : Program} {l : Launch} {e : Env} {s : State} {m : MethodId} {args : Array Value} {below : List Frame} {meth : Method} {c : Code} {T : State} {locs : List Loc} {Z : State} {a0 : Array Value} {h : Heap} {n0 : Nat} (hw : ∀ d ∈ tables_1, d.before a0 Z = true) (X : Stand p l e room_1 s m args below meth c T locs 1 16) (hx : p.tables.exec = Jvm.exec) (hZ : Z.Warmed39 s.vm) (hby : c.code = code) (hml : c.maxLocals = 13) (hown : s.vm.findClass "com/example/xml_element_search/xmlelementsearch/VarLongPutPinLaw" = some m.cls) (eT : T.heap = h) (N : Fr n0 locs) (Z0 : n0 ≤ h.size) (x0 : Slot) (x1 : Slot) (x2 : Slot) (x3 : Slot) (x4 : Slot) (val : Int64) (pa : Int32) (pb : Int32) (ab : Addr) (x10 : Slot) (pl : Int32) (k : ClassId) (f : Nat → Value) (V_ : Arf Z h ab k .byte 16 f) (hv : f 5 = .int (own_exp (5 : Int32) pa pl val pb)) :
    ∃ T' L', Stand p l e room_1 s m args below meth c T' L' 1 16 ∧ T'.heap = h ∧ Fr n0 L' ∧ ∀ target, Steps p.tables e below (T'.setTop (mkF m 337 #[x0, x1, x2, x3, x4, .val (.long val), .second, .val (.int pa), .val (.int pb), .val (.ref ab), x10, .val (.int pl), .val (.int (1 : Int32))] [])) target → Steps p.tables e below (T.setTop (mkF m 308 #[x0, x1, x2, x3, x4, .val (.long val), .second, .val (.int pa), .val (.int pb), .val (.ref ab), x10, .val (.int pl), .val (.int (1 : Int32))] [])) target := by
  obtain ⟨cl42, Ar42, qk42, S42, B42, H42, G42⟩ := id V_
  have hin42 : ¬ ((5 : Int32) < 0 ∨ cl42.slots.size ≤ ((5 : Int32)).toNatClampNeg) := own_inb S42 ⟨by decide, rfl⟩ (by decide)
  have hat42 : cl42.slots[((5 : Int32)).toNatClampNeg]? = some (.int (own_exp (5 : Int32) pa pl val pb)) := own_hat H42 ⟨by decide, rfl⟩ (by decide) hv
  obtain ⟨_, _, ⟨T43, L43, k43, n43⟩, -, X43, ⟨Lc43, hQ43, l43, y43, z43⟩, st43⟩ := Jvm.LawKit.callS X hx (y := (⟨"com/example/xml_element_search/xmlelementsearch/VarLongPutPinLaw", "expected", "(IIIJB)B"⟩ : MethodName)) hown (mvT hZ (hw _ (List.mem_of_getElem? (i := 10) rfl))) (mvT hZ (hw _ (List.mem_of_getElem? (i := 11) rfl))) (mvT hZ (hw _ (List.mem_of_getElem? (i := 8) rfl))) (mvT hZ (hw _ (List.mem_of_getElem? (i := 12) rfl))) (by decide) (backOf (W := 2) (own_expd l Z a0 hw [] (5 : Int32) pa pl val pb h n0 Z0 ) hZ (hw _ (List.mem_of_getElem? (i := 12) rfl)) (hw _ (List.mem_of_getElem? (i := 8) rfl)) (by decide) (by decide)) (g := (mkF m 323 #[x0, x1, x2, x3, x4, .val (.long val), .second, .val (.int pa), .val (.int pb), .val (.ref ab), x10, .val (.int pl), .val (.int (1 : Int32))] [(.int pb), (.long val), (.int pl), (.int pa), (.int (5 : Int32)), (.int (own_exp (5 : Int32) pa pl val pb)), (.int (1 : Int32))])) rfl (by rw [hml]; rfl) (argsL := [(.int (5 : Int32)), (.int pa), (.int pl), (.long val), (.int pb)]) (rest := [(.int (own_exp (5 : Int32) pa pl val pb)), (.int (1 : Int32))]) (lenOf pd_0 rfl) rfl (by show 2 * 0 + _ ≤ _; exact Nat.le_of_eq rfl) (hb hby at_323) (fun _ _ => ⟨rfl, eT, (by decide : 1 + 0 ≤ _), (by decide : 16 + 0 ≤ _)⟩)
  dsimp only [Pt.U, Pt.locs, Pt.cells, Pt.slots] at X43 l43 y43 z43 st43 hQ43
  subst l43 y43 z43
  obtain ⟨rfl, N43q, eh43⟩ := hQ43
  have N43 := Fr.app N N43q
  refine ⟨T43, _, X43, eh43, N43, fun target k => ?_⟩
  show Steps p.tables e below (T.setTop (mkF m 308 #[x0, x1, x2, x3, x4, .val (.long val), .second, .val (.int pa), .val (.int pb), .val (.ref ab), x10, .val (.int pl), .val (.int (1 : Int32))] [])) _
  refine XS.iload X.here hx rfl (hb hby at_308) rfl ?_
  show Steps p.tables e below (T.setTop (mkF m 310 #[x0, x1, x2, x3, x4, .val (.long val), .second, .val (.int pa), .val (.int pb), .val (.ref ab), x10, .val (.int pl), .val (.int (1 : Int32))] [(.int (1 : Int32))])) _
  refine XS.aload X.here hx rfl (hb hby at_310) rfl rfl ?_
  show Steps p.tables e below (T.setTop (mkF m 312 #[x0, x1, x2, x3, x4, .val (.long val), .second, .val (.int pa), .val (.int pb), .val (.ref ab), x10, .val (.int pl), .val (.int (1 : Int32))] [(.ref ab), (.int (1 : Int32))])) _
  refine XS.iconst X.here hx rfl (hb hby at_312) ?_
  show Steps p.tables e below (T.setTop (mkF m 313 #[x0, x1, x2, x3, x4, .val (.long val), .second, .val (.int pa), .val (.int pb), .val (.ref ab), x10, .val (.int pl), .val (.int (1 : Int32))] [(.int (5 : Int32)), (.ref ab), (.int (1 : Int32))])) _
  refine X.baloadBytes hx (j := (5 : Int32)) (v := (.int (own_exp (5 : Int32) pa pl val pb))) (by rw [eT]; exact Ar42.1) (State.isArrayOf_alike hZ.alike Ar42.2.1) Ar42.2.2 hin42 hat42 (g := (mkF m 313 #[x0, x1, x2, x3, x4, .val (.long val), .second, .val (.int pa), .val (.int pb), .val (.ref ab), x10, .val (.int pl), .val (.int (1 : Int32))] [(.int (5 : Int32)), (.ref ab), (.int (1 : Int32))])) rfl rfl (hb hby at_313) _ ?_
  show Steps p.tables e below (T.setTop (mkF m 314 #[x0, x1, x2, x3, x4, .val (.long val), .second, .val (.int pa), .val (.int pb), .val (.ref ab), x10, .val (.int pl), .val (.int (1 : Int32))] [(.int (own_exp (5 : Int32) pa pl val pb)), (.int (1 : Int32))])) _
  refine XS.iconst X.here hx rfl (hb hby at_314) ?_
  show Steps p.tables e below (T.setTop (mkF m 315 #[x0, x1, x2, x3, x4, .val (.long val), .second, .val (.int pa), .val (.int pb), .val (.ref ab), x10, .val (.int pl), .val (.int (1 : Int32))] [(.int (5 : Int32)), (.int (own_exp (5 : Int32) pa pl val pb)), (.int (1 : Int32))])) _
  refine XS.iload X.here hx rfl (hb hby at_315) rfl ?_
  show Steps p.tables e below (T.setTop (mkF m 317 #[x0, x1, x2, x3, x4, .val (.long val), .second, .val (.int pa), .val (.int pb), .val (.ref ab), x10, .val (.int pl), .val (.int (1 : Int32))] [(.int pa), (.int (5 : Int32)), (.int (own_exp (5 : Int32) pa pl val pb)), (.int (1 : Int32))])) _
  refine XS.iload X.here hx rfl (hb hby at_317) rfl ?_
  show Steps p.tables e below (T.setTop (mkF m 319 #[x0, x1, x2, x3, x4, .val (.long val), .second, .val (.int pa), .val (.int pb), .val (.ref ab), x10, .val (.int pl), .val (.int (1 : Int32))] [(.int pl), (.int pa), (.int (5 : Int32)), (.int (own_exp (5 : Int32) pa pl val pb)), (.int (1 : Int32))])) _
  refine XT.lload X.here hx rfl (hb hby at_319) rfl ?_
  show Steps p.tables e below (T.setTop (mkF m 321 #[x0, x1, x2, x3, x4, .val (.long val), .second, .val (.int pa), .val (.int pb), .val (.ref ab), x10, .val (.int pl), .val (.int (1 : Int32))] [(.long val), (.int pl), (.int pa), (.int (5 : Int32)), (.int (own_exp (5 : Int32) pa pl val pb)), (.int (1 : Int32))])) _
  refine XS.iload X.here hx rfl (hb hby at_321) rfl ?_
  show Steps p.tables e below (T.setTop (mkF m 323 #[x0, x1, x2, x3, x4, .val (.long val), .second, .val (.int pa), .val (.int pb), .val (.ref ab), x10, .val (.int pl), .val (.int (1 : Int32))] [(.int pb), (.long val), (.int pl), (.int pa), (.int (5 : Int32)), (.int (own_exp (5 : Int32) pa pl val pb)), (.int (1 : Int32))])) _
  refine st43 _ ?_
  show Steps p.tables e below (T43.setTop (mkF m 326 #[x0, x1, x2, x3, x4, .val (.long val), .second, .val (.int pa), .val (.int pb), .val (.ref ab), x10, .val (.int pl), .val (.int (1 : Int32))] [(.int (own_exp (5 : Int32) pa pl val pb)), (.int (own_exp (5 : Int32) pa pl val pb)), (.int (1 : Int32))])) _
  refine XS.icmpNo X43.here hx rfl (hb hby at_326) rfl (XT.ii_ne_f rfl) ?_
  show Steps p.tables e below (T43.setTop (mkF m 329 #[x0, x1, x2, x3, x4, .val (.long val), .second, .val (.int pa), .val (.int pb), .val (.ref ab), x10, .val (.int pl), .val (.int (1 : Int32))] [(.int (1 : Int32))])) _
  refine XS.iconst X43.here hx rfl (hb hby at_329) ?_
  show Steps p.tables e below (T43.setTop (mkF m 330 #[x0, x1, x2, x3, x4, .val (.long val), .second, .val (.int pa), .val (.int pb), .val (.ref ab), x10, .val (.int pl), .val (.int (1 : Int32))] [(.int (1 : Int32)), (.int (1 : Int32))])) _
  refine XS.goto X43.here hx rfl (pc0 := 330) (pc' := 334) rfl (hb hby at_330) (by decide) (by decide) ?_
  show Steps p.tables e below (T43.setTop (mkF m 334 #[x0, x1, x2, x3, x4, .val (.long val), .second, .val (.int pa), .val (.int pb), .val (.ref ab), x10, .val (.int pl), .val (.int (1 : Int32))] [(.int (1 : Int32)), (.int (1 : Int32))])) _
  refine XS.iand X43.here hx rfl (hb hby at_334) rfl ?_
  show Steps p.tables e below (T43.setTop (mkF m 335 #[x0, x1, x2, x3, x4, .val (.long val), .second, .val (.int pa), .val (.int pb), .val (.ref ab), x10, .val (.int pl), .val (.int (1 : Int32))] [(.int (1 : Int32))])) _
  refine XS.istore X43.here hx rfl (hb hby at_335) rfl (l' := #[x0, x1, x2, x3, x4, .val (.long val), .second, .val (.int pa), .val (.int pb), .val (.ref ab), x10, .val (.int pl), .val (.int (1 : Int32))]) rfl ?_
  show Steps p.tables e below (T43.setTop (mkF m 337 #[x0, x1, x2, x3, x4, .val (.long val), .second, .val (.int pa), .val (.int pb), .val (.ref ab), x10, .val (.int pl), .val (.int (1 : Int32))] [])) _
  exact k
set_option maxRecDepth 65536 in
set_option maxHeartbeats 40000000 in
theorem own_ck6 {p : Program} {l : Launch} {e : Env} {s : State} {m : MethodId} {args : Array Value} {below : List Frame} {meth : Method} {c : Code} {T : State} {locs : List Loc} {Z : State} {a0 : Array Value} {h : Heap} {n0 : Nat} (hw : ∀ d ∈ tables_1, d.before a0 Z = true) (X : Stand p l e room_1 s m args below meth c T locs 1 16) (hx : p.tables.exec = Jvm.exec) (hZ : Z.Warmed39 s.vm) (hby : c.code = code) (hml : c.maxLocals = 13) (hown : s.vm.findClass "com/example/xml_element_search/xmlelementsearch/VarLongPutPinLaw" = some m.cls) (eT : T.heap = h) (N : Fr n0 locs) (Z0 : n0 ≤ h.size) (x0 : Slot) (x1 : Slot) (x2 : Slot) (x3 : Slot) (x4 : Slot) (val : Int64) (pa : Int32) (pb : Int32) (ab : Addr) (x10 : Slot) (pl : Int32) (k : ClassId) (f : Nat → Value) (V_ : Arf Z h ab k .byte 16 f) (hv : f 6 = .int (own_exp (6 : Int32) pa pl val pb)) :
    ∃ T' L', Stand p l e room_1 s m args below meth c T' L' 1 16 ∧ T'.heap = h ∧ Fr n0 L' ∧ ∀ target, Steps p.tables e below (T'.setTop (mkF m 368 #[x0, x1, x2, x3, x4, .val (.long val), .second, .val (.int pa), .val (.int pb), .val (.ref ab), x10, .val (.int pl), .val (.int (1 : Int32))] [])) target → Steps p.tables e below (T.setTop (mkF m 337 #[x0, x1, x2, x3, x4, .val (.long val), .second, .val (.int pa), .val (.int pb), .val (.ref ab), x10, .val (.int pl), .val (.int (1 : Int32))] [])) target := by
  obtain ⟨cl44, Ar44, qk44, S44, B44, H44, G44⟩ := id V_
  have hin44 : ¬ ((6 : Int32) < 0 ∨ cl44.slots.size ≤ ((6 : Int32)).toNatClampNeg) := own_inb S44 ⟨by decide, rfl⟩ (by decide)
  have hat44 : cl44.slots[((6 : Int32)).toNatClampNeg]? = some (.int (own_exp (6 : Int32) pa pl val pb)) := own_hat H44 ⟨by decide, rfl⟩ (by decide) hv
  obtain ⟨_, _, ⟨T45, L45, k45, n45⟩, -, X45, ⟨Lc45, hQ45, l45, y45, z45⟩, st45⟩ := Jvm.LawKit.callS X hx (y := (⟨"com/example/xml_element_search/xmlelementsearch/VarLongPutPinLaw", "expected", "(IIIJB)B"⟩ : MethodName)) hown (mvT hZ (hw _ (List.mem_of_getElem? (i := 10) rfl))) (mvT hZ (hw _ (List.mem_of_getElem? (i := 11) rfl))) (mvT hZ (hw _ (List.mem_of_getElem? (i := 8) rfl))) (mvT hZ (hw _ (List.mem_of_getElem? (i := 12) rfl))) (by decide) (backOf (W := 2) (own_expd l Z a0 hw [] (6 : Int32) pa pl val pb h n0 Z0 ) hZ (hw _ (List.mem_of_getElem? (i := 12) rfl)) (hw _ (List.mem_of_getElem? (i := 8) rfl)) (by decide) (by decide)) (g := (mkF m 354 #[x0, x1, x2, x3, x4, .val (.long val), .second, .val (.int pa), .val (.int pb), .val (.ref ab), x10, .val (.int pl), .val (.int (1 : Int32))] [(.int pb), (.long val), (.int pl), (.int pa), (.int (6 : Int32)), (.int (own_exp (6 : Int32) pa pl val pb)), (.int (1 : Int32))])) rfl (by rw [hml]; rfl) (argsL := [(.int (6 : Int32)), (.int pa), (.int pl), (.long val), (.int pb)]) (rest := [(.int (own_exp (6 : Int32) pa pl val pb)), (.int (1 : Int32))]) (lenOf pd_0 rfl) rfl (by show 2 * 0 + _ ≤ _; exact Nat.le_of_eq rfl) (hb hby at_354) (fun _ _ => ⟨rfl, eT, (by decide : 1 + 0 ≤ _), (by decide : 16 + 0 ≤ _)⟩)
  dsimp only [Pt.U, Pt.locs, Pt.cells, Pt.slots] at X45 l45 y45 z45 st45 hQ45
  subst l45 y45 z45
  obtain ⟨rfl, N45q, eh45⟩ := hQ45
  have N45 := Fr.app N N45q
  refine ⟨T45, _, X45, eh45, N45, fun target k => ?_⟩
  show Steps p.tables e below (T.setTop (mkF m 337 #[x0, x1, x2, x3, x4, .val (.long val), .second, .val (.int pa), .val (.int pb), .val (.ref ab), x10, .val (.int pl), .val (.int (1 : Int32))] [])) _
  refine XS.iload X.here hx rfl (hb hby at_337) rfl ?_
  show Steps p.tables e below (T.setTop (mkF m 339 #[x0, x1, x2, x3, x4, .val (.long val), .second, .val (.int pa), .val (.int pb), .val (.ref ab), x10, .val (.int pl), .val (.int (1 : Int32))] [(.int (1 : Int32))])) _
  refine XS.aload X.here hx rfl (hb hby at_339) rfl rfl ?_
  show Steps p.tables e below (T.setTop (mkF m 341 #[x0, x1, x2, x3, x4, .val (.long val), .second, .val (.int pa), .val (.int pb), .val (.ref ab), x10, .val (.int pl), .val (.int (1 : Int32))] [(.ref ab), (.int (1 : Int32))])) _
  refine XS.bipush X.here hx rfl (hb hby at_341) ?_
  show Steps p.tables e below (T.setTop (mkF m 343 #[x0, x1, x2, x3, x4, .val (.long val), .second, .val (.int pa), .val (.int pb), .val (.ref ab), x10, .val (.int pl), .val (.int (1 : Int32))] [(.int (6 : Int32)), (.ref ab), (.int (1 : Int32))])) _
  refine X.baloadBytes hx (j := (6 : Int32)) (v := (.int (own_exp (6 : Int32) pa pl val pb))) (by rw [eT]; exact Ar44.1) (State.isArrayOf_alike hZ.alike Ar44.2.1) Ar44.2.2 hin44 hat44 (g := (mkF m 343 #[x0, x1, x2, x3, x4, .val (.long val), .second, .val (.int pa), .val (.int pb), .val (.ref ab), x10, .val (.int pl), .val (.int (1 : Int32))] [(.int (6 : Int32)), (.ref ab), (.int (1 : Int32))])) rfl rfl (hb hby at_343) _ ?_
  show Steps p.tables e below (T.setTop (mkF m 344 #[x0, x1, x2, x3, x4, .val (.long val), .second, .val (.int pa), .val (.int pb), .val (.ref ab), x10, .val (.int pl), .val (.int (1 : Int32))] [(.int (own_exp (6 : Int32) pa pl val pb)), (.int (1 : Int32))])) _
  refine XS.bipush X.here hx rfl (hb hby at_344) ?_
  show Steps p.tables e below (T.setTop (mkF m 346 #[x0, x1, x2, x3, x4, .val (.long val), .second, .val (.int pa), .val (.int pb), .val (.ref ab), x10, .val (.int pl), .val (.int (1 : Int32))] [(.int (6 : Int32)), (.int (own_exp (6 : Int32) pa pl val pb)), (.int (1 : Int32))])) _
  refine XS.iload X.here hx rfl (hb hby at_346) rfl ?_
  show Steps p.tables e below (T.setTop (mkF m 348 #[x0, x1, x2, x3, x4, .val (.long val), .second, .val (.int pa), .val (.int pb), .val (.ref ab), x10, .val (.int pl), .val (.int (1 : Int32))] [(.int pa), (.int (6 : Int32)), (.int (own_exp (6 : Int32) pa pl val pb)), (.int (1 : Int32))])) _
  refine XS.iload X.here hx rfl (hb hby at_348) rfl ?_
  show Steps p.tables e below (T.setTop (mkF m 350 #[x0, x1, x2, x3, x4, .val (.long val), .second, .val (.int pa), .val (.int pb), .val (.ref ab), x10, .val (.int pl), .val (.int (1 : Int32))] [(.int pl), (.int pa), (.int (6 : Int32)), (.int (own_exp (6 : Int32) pa pl val pb)), (.int (1 : Int32))])) _
  refine XT.lload X.here hx rfl (hb hby at_350) rfl ?_
  show Steps p.tables e below (T.setTop (mkF m 352 #[x0, x1, x2, x3, x4, .val (.long val), .second, .val (.int pa), .val (.int pb), .val (.ref ab), x10, .val (.int pl), .val (.int (1 : Int32))] [(.long val), (.int pl), (.int pa), (.int (6 : Int32)), (.int (own_exp (6 : Int32) pa pl val pb)), (.int (1 : Int32))])) _
  refine XS.iload X.here hx rfl (hb hby at_352) rfl ?_
  show Steps p.tables e below (T.setTop (mkF m 354 #[x0, x1, x2, x3, x4, .val (.long val), .second, .val (.int pa), .val (.int pb), .val (.ref ab), x10, .val (.int pl), .val (.int (1 : Int32))] [(.int pb), (.long val), (.int pl), (.int pa), (.int (6 : Int32)), (.int (own_exp (6 : Int32) pa pl val pb)), (.int (1 : Int32))])) _
  refine st45 _ ?_
  show Steps p.tables e below (T45.setTop (mkF m 357 #[x0, x1, x2, x3, x4, .val (.long val), .second, .val (.int pa), .val (.int pb), .val (.ref ab), x10, .val (.int pl), .val (.int (1 : Int32))] [(.int (own_exp (6 : Int32) pa pl val pb)), (.int (own_exp (6 : Int32) pa pl val pb)), (.int (1 : Int32))])) _
  refine XS.icmpNo X45.here hx rfl (hb hby at_357) rfl (XT.ii_ne_f rfl) ?_
  show Steps p.tables e below (T45.setTop (mkF m 360 #[x0, x1, x2, x3, x4, .val (.long val), .second, .val (.int pa), .val (.int pb), .val (.ref ab), x10, .val (.int pl), .val (.int (1 : Int32))] [(.int (1 : Int32))])) _
  refine XS.iconst X45.here hx rfl (hb hby at_360) ?_
  show Steps p.tables e below (T45.setTop (mkF m 361 #[x0, x1, x2, x3, x4, .val (.long val), .second, .val (.int pa), .val (.int pb), .val (.ref ab), x10, .val (.int pl), .val (.int (1 : Int32))] [(.int (1 : Int32)), (.int (1 : Int32))])) _
  refine XS.goto X45.here hx rfl (pc0 := 361) (pc' := 365) rfl (hb hby at_361) (by decide) (by decide) ?_
  show Steps p.tables e below (T45.setTop (mkF m 365 #[x0, x1, x2, x3, x4, .val (.long val), .second, .val (.int pa), .val (.int pb), .val (.ref ab), x10, .val (.int pl), .val (.int (1 : Int32))] [(.int (1 : Int32)), (.int (1 : Int32))])) _
  refine XS.iand X45.here hx rfl (hb hby at_365) rfl ?_
  show Steps p.tables e below (T45.setTop (mkF m 366 #[x0, x1, x2, x3, x4, .val (.long val), .second, .val (.int pa), .val (.int pb), .val (.ref ab), x10, .val (.int pl), .val (.int (1 : Int32))] [(.int (1 : Int32))])) _
  refine XS.istore X45.here hx rfl (hb hby at_366) rfl (l' := #[x0, x1, x2, x3, x4, .val (.long val), .second, .val (.int pa), .val (.int pb), .val (.ref ab), x10, .val (.int pl), .val (.int (1 : Int32))]) rfl ?_
  show Steps p.tables e below (T45.setTop (mkF m 368 #[x0, x1, x2, x3, x4, .val (.long val), .second, .val (.int pa), .val (.int pb), .val (.ref ab), x10, .val (.int pl), .val (.int (1 : Int32))] [])) _
  exact k
set_option maxRecDepth 65536 in
set_option maxHeartbeats 40000000 in
theorem own_ck7 {p : Program} {l : Launch} {e : Env} {s : State} {m : MethodId} {args : Array Value} {below : List Frame} {meth : Method} {c : Code} {T : State} {locs : List Loc} {Z : State} {a0 : Array Value} {h : Heap} {n0 : Nat} (hw : ∀ d ∈ tables_1, d.before a0 Z = true) (X : Stand p l e room_1 s m args below meth c T locs 1 16) (hx : p.tables.exec = Jvm.exec) (hZ : Z.Warmed39 s.vm) (hby : c.code = code) (hml : c.maxLocals = 13) (hown : s.vm.findClass "com/example/xml_element_search/xmlelementsearch/VarLongPutPinLaw" = some m.cls) (eT : T.heap = h) (N : Fr n0 locs) (Z0 : n0 ≤ h.size) (x0 : Slot) (x1 : Slot) (x2 : Slot) (x3 : Slot) (x4 : Slot) (val : Int64) (pa : Int32) (pb : Int32) (ab : Addr) (x10 : Slot) (pl : Int32) (k : ClassId) (f : Nat → Value) (V_ : Arf Z h ab k .byte 16 f) (hv : f 7 = .int (own_exp (7 : Int32) pa pl val pb)) :
    ∃ T' L', Stand p l e room_1 s m args below meth c T' L' 1 16 ∧ T'.heap = h ∧ Fr n0 L' ∧ ∀ target, Steps p.tables e below (T'.setTop (mkF m 399 #[x0, x1, x2, x3, x4, .val (.long val), .second, .val (.int pa), .val (.int pb), .val (.ref ab), x10, .val (.int pl), .val (.int (1 : Int32))] [])) target → Steps p.tables e below (T.setTop (mkF m 368 #[x0, x1, x2, x3, x4, .val (.long val), .second, .val (.int pa), .val (.int pb), .val (.ref ab), x10, .val (.int pl), .val (.int (1 : Int32))] [])) target := by
  obtain ⟨cl46, Ar46, qk46, S46, B46, H46, G46⟩ := id V_
  have hin46 : ¬ ((7 : Int32) < 0 ∨ cl46.slots.size ≤ ((7 : Int32)).toNatClampNeg) := own_inb S46 ⟨by decide, rfl⟩ (by decide)
  have hat46 : cl46.slots[((7 : Int32)).toNatClampNeg]? = some (.int (own_exp (7 : Int32) pa pl val pb)) := own_hat H46 ⟨by decide, rfl⟩ (by decide) hv
  obtain ⟨_, _, ⟨T47, L47, k47, n47⟩, -, X47, ⟨Lc47, hQ47, l47, y47, z47⟩, st47⟩ := Jvm.LawKit.callS X hx (y := (⟨"com/example/xml_element_search/xmlelementsearch/VarLongPutPinLaw", "expected", "(IIIJB)B"⟩ : MethodName)) hown (mvT hZ (hw _ (List.mem_of_getElem? (i := 10) rfl))) (mvT hZ (hw _ (List.mem_of_getElem? (i := 11) rfl))) (mvT hZ (hw _ (List.mem_of_getElem? (i := 8) rfl))) (mvT hZ (hw _ (List.mem_of_getElem? (i := 12) rfl))) (by decide) (backOf (W := 2) (own_expd l Z a0 hw [] (7 : Int32) pa pl val pb h n0 Z0 ) hZ (hw _ (List.mem_of_getElem? (i := 12) rfl)) (hw _ (List.mem_of_getElem? (i := 8) rfl)) (by decide) (by decide)) (g := (mkF m 385 #[x0, x1, x2, x3, x4, .val (.long val), .second, .val (.int pa), .val (.int pb), .val (.ref ab), x10, .val (.int pl), .val (.int (1 : Int32))] [(.int pb), (.long val), (.int pl), (.int pa), (.int (7 : Int32)), (.int (own_exp (7 : Int32) pa pl val pb)), (.int (1 : Int32))])) rfl (by rw [hml]; rfl) (argsL := [(.int (7 : Int32)), (.int pa), (.int pl), (.long val), (.int pb)]) (rest := [(.int (own_exp (7 : Int32) pa pl val pb)), (.int (1 : Int32))]) (lenOf pd_0 rfl) rfl (by show 2 * 0 + _ ≤ _; exact Nat.le_of_eq rfl) (hb hby at_385) (fun _ _ => ⟨rfl, eT, (by decide : 1 + 0 ≤ _), (by decide : 16 + 0 ≤ _)⟩)
  dsimp only [Pt.U, Pt.locs, Pt.cells, Pt.slots] at X47 l47 y47 z47 st47 hQ47
  subst l47 y47 z47
  obtain ⟨rfl, N47q, eh47⟩ := hQ47
  have N47 := Fr.app N N47q
  refine ⟨T47, _, X47, eh47, N47, fun target k => ?_⟩
  show Steps p.tables e below (T.setTop (mkF m 368 #[x0, x1, x2, x3, x4, .val (.long val), .second, .val (.int pa), .val (.int pb), .val (.ref ab), x10, .val (.int pl), .val (.int (1 : Int32))] [])) _
  refine XS.iload X.here hx rfl (hb hby at_368) rfl ?_
  show Steps p.tables e below (T.setTop (mkF m 370 #[x0, x1, x2, x3, x4, .val (.long val), .second, .val (.int pa), .val (.int pb), .val (.ref ab), x10, .val (.int pl), .val (.int (1 : Int32))] [(.int (1 : Int32))])) _
  refine XS.aload X.here hx rfl (hb hby at_370) rfl rfl ?_
  show Steps p.tables e below (T.setTop (mkF m 372 #[x0, x1, x2, x3, x4, .val (.long val), .second, .val (.int pa), .val (.int pb), .val (.ref ab), x10, .val (.int pl), .val (.int (1 : Int32))] [(.ref ab), (.int (1 : Int32))])) _
  refine XS.bipush X.here hx rfl (hb hby at_372) ?_
  show Steps p.tables e below (T.setTop (mkF m 374 #[x0, x1, x2, x3, x4, .val (.long val), .second, .val (.int pa), .val (.int pb), .val (.ref ab), x10, .val (.int pl), .val (.int (1 : Int32))] [(.int (7 : Int32)), (.ref ab), (.int (1 : Int32))])) _
  refine X.baloadBytes hx (j := (7 : Int32)) (v := (.int (own_exp (7 : Int32) pa pl val pb))) (by rw [eT]; exact Ar46.1) (State.isArrayOf_alike hZ.alike Ar46.2.1) Ar46.2.2 hin46 hat46 (g := (mkF m 374 #[x0, x1, x2, x3, x4, .val (.long val), .second, .val (.int pa), .val (.int pb), .val (.ref ab), x10, .val (.int pl), .val (.int (1 : Int32))] [(.int (7 : Int32)), (.ref ab), (.int (1 : Int32))])) rfl rfl (hb hby at_374) _ ?_
  show Steps p.tables e below (T.setTop (mkF m 375 #[x0, x1, x2, x3, x4, .val (.long val), .second, .val (.int pa), .val (.int pb), .val (.ref ab), x10, .val (.int pl), .val (.int (1 : Int32))] [(.int (own_exp (7 : Int32) pa pl val pb)), (.int (1 : Int32))])) _
  refine XS.bipush X.here hx rfl (hb hby at_375) ?_
  show Steps p.tables e below (T.setTop (mkF m 377 #[x0, x1, x2, x3, x4, .val (.long val), .second, .val (.int pa), .val (.int pb), .val (.ref ab), x10, .val (.int pl), .val (.int (1 : Int32))] [(.int (7 : Int32)), (.int (own_exp (7 : Int32) pa pl val pb)), (.int (1 : Int32))])) _
  refine XS.iload X.here hx rfl (hb hby at_377) rfl ?_
  show Steps p.tables e below (T.setTop (mkF m 379 #[x0, x1, x2, x3, x4, .val (.long val), .second, .val (.int pa), .val (.int pb), .val (.ref ab), x10, .val (.int pl), .val (.int (1 : Int32))] [(.int pa), (.int (7 : Int32)), (.int (own_exp (7 : Int32) pa pl val pb)), (.int (1 : Int32))])) _
  refine XS.iload X.here hx rfl (hb hby at_379) rfl ?_
  show Steps p.tables e below (T.setTop (mkF m 381 #[x0, x1, x2, x3, x4, .val (.long val), .second, .val (.int pa), .val (.int pb), .val (.ref ab), x10, .val (.int pl), .val (.int (1 : Int32))] [(.int pl), (.int pa), (.int (7 : Int32)), (.int (own_exp (7 : Int32) pa pl val pb)), (.int (1 : Int32))])) _
  refine XT.lload X.here hx rfl (hb hby at_381) rfl ?_
  show Steps p.tables e below (T.setTop (mkF m 383 #[x0, x1, x2, x3, x4, .val (.long val), .second, .val (.int pa), .val (.int pb), .val (.ref ab), x10, .val (.int pl), .val (.int (1 : Int32))] [(.long val), (.int pl), (.int pa), (.int (7 : Int32)), (.int (own_exp (7 : Int32) pa pl val pb)), (.int (1 : Int32))])) _
  refine XS.iload X.here hx rfl (hb hby at_383) rfl ?_
  show Steps p.tables e below (T.setTop (mkF m 385 #[x0, x1, x2, x3, x4, .val (.long val), .second, .val (.int pa), .val (.int pb), .val (.ref ab), x10, .val (.int pl), .val (.int (1 : Int32))] [(.int pb), (.long val), (.int pl), (.int pa), (.int (7 : Int32)), (.int (own_exp (7 : Int32) pa pl val pb)), (.int (1 : Int32))])) _
  refine st47 _ ?_
  show Steps p.tables e below (T47.setTop (mkF m 388 #[x0, x1, x2, x3, x4, .val (.long val), .second, .val (.int pa), .val (.int pb), .val (.ref ab), x10, .val (.int pl), .val (.int (1 : Int32))] [(.int (own_exp (7 : Int32) pa pl val pb)), (.int (own_exp (7 : Int32) pa pl val pb)), (.int (1 : Int32))])) _
  refine XS.icmpNo X47.here hx rfl (hb hby at_388) rfl (XT.ii_ne_f rfl) ?_
  show Steps p.tables e below (T47.setTop (mkF m 391 #[x0, x1, x2, x3, x4, .val (.long val), .second, .val (.int pa), .val (.int pb), .val (.ref ab), x10, .val (.int pl), .val (.int (1 : Int32))] [(.int (1 : Int32))])) _
  refine XS.iconst X47.here hx rfl (hb hby at_391) ?_
  show Steps p.tables e below (T47.setTop (mkF m 392 #[x0, x1, x2, x3, x4, .val (.long val), .second, .val (.int pa), .val (.int pb), .val (.ref ab), x10, .val (.int pl), .val (.int (1 : Int32))] [(.int (1 : Int32)), (.int (1 : Int32))])) _
  refine XS.goto X47.here hx rfl (pc0 := 392) (pc' := 396) rfl (hb hby at_392) (by decide) (by decide) ?_
  show Steps p.tables e below (T47.setTop (mkF m 396 #[x0, x1, x2, x3, x4, .val (.long val), .second, .val (.int pa), .val (.int pb), .val (.ref ab), x10, .val (.int pl), .val (.int (1 : Int32))] [(.int (1 : Int32)), (.int (1 : Int32))])) _
  refine XS.iand X47.here hx rfl (hb hby at_396) rfl ?_
  show Steps p.tables e below (T47.setTop (mkF m 397 #[x0, x1, x2, x3, x4, .val (.long val), .second, .val (.int pa), .val (.int pb), .val (.ref ab), x10, .val (.int pl), .val (.int (1 : Int32))] [(.int (1 : Int32))])) _
  refine XS.istore X47.here hx rfl (hb hby at_397) rfl (l' := #[x0, x1, x2, x3, x4, .val (.long val), .second, .val (.int pa), .val (.int pb), .val (.ref ab), x10, .val (.int pl), .val (.int (1 : Int32))]) rfl ?_
  show Steps p.tables e below (T47.setTop (mkF m 399 #[x0, x1, x2, x3, x4, .val (.long val), .second, .val (.int pa), .val (.int pb), .val (.ref ab), x10, .val (.int pl), .val (.int (1 : Int32))] [])) _
  exact k
set_option maxRecDepth 65536 in
set_option maxHeartbeats 40000000 in
theorem own_ck8 {p : Program} {l : Launch} {e : Env} {s : State} {m : MethodId} {args : Array Value} {below : List Frame} {meth : Method} {c : Code} {T : State} {locs : List Loc} {Z : State} {a0 : Array Value} {h : Heap} {n0 : Nat} (hw : ∀ d ∈ tables_1, d.before a0 Z = true) (X : Stand p l e room_1 s m args below meth c T locs 1 16) (hx : p.tables.exec = Jvm.exec) (hZ : Z.Warmed39 s.vm) (hby : c.code = code) (hml : c.maxLocals = 13) (hown : s.vm.findClass "com/example/xml_element_search/xmlelementsearch/VarLongPutPinLaw" = some m.cls) (eT : T.heap = h) (N : Fr n0 locs) (Z0 : n0 ≤ h.size) (x0 : Slot) (x1 : Slot) (x2 : Slot) (x3 : Slot) (x4 : Slot) (val : Int64) (pa : Int32) (pb : Int32) (ab : Addr) (x10 : Slot) (pl : Int32) (k : ClassId) (f : Nat → Value) (V_ : Arf Z h ab k .byte 16 f) (hv : f 8 = .int (own_exp (8 : Int32) pa pl val pb)) :
    ∃ T' L', Stand p l e room_1 s m args below meth c T' L' 1 16 ∧ T'.heap = h ∧ Fr n0 L' ∧ ∀ target, Steps p.tables e below (T'.setTop (mkF m 430 #[x0, x1, x2, x3, x4, .val (.long val), .second, .val (.int pa), .val (.int pb), .val (.ref ab), x10, .val (.int pl), .val (.int (1 : Int32))] [])) target → Steps p.tables e below (T.setTop (mkF m 399 #[x0, x1, x2, x3, x4, .val (.long val), .second, .val (.int pa), .val (.int pb), .val (.ref ab), x10, .val (.int pl), .val (.int (1 : Int32))] [])) target := by
  obtain ⟨cl48, Ar48, qk48, S48, B48, H48, G48⟩ := id V_
  have hin48 : ¬ ((8 : Int32) < 0 ∨ cl48.slots.size ≤ ((8 : Int32)).toNatClampNeg) := own_inb S48 ⟨by decide, rfl⟩ (by decide)
  have hat48 : cl48.slots[((8 : Int32)).toNatClampNeg]? = some (.int (own_exp (8 : Int32) pa pl val pb)) := own_hat H48 ⟨by decide, rfl⟩ (by decide) hv
  obtain ⟨_, _, ⟨T49, L49, k49, n49⟩, -, X49, ⟨Lc49, hQ49, l49, y49, z49⟩, st49⟩ := Jvm.LawKit.callS X hx (y := (⟨"com/example/xml_element_search/xmlelementsearch/VarLongPutPinLaw", "expected", "(IIIJB)B"⟩ : MethodName)) hown (mvT hZ (hw _ (List.mem_of_getElem? (i := 10) rfl))) (mvT hZ (hw _ (List.mem_of_getElem? (i := 11) rfl))) (mvT hZ (hw _ (List.mem_of_getElem? (i := 8) rfl))) (mvT hZ (hw _ (List.mem_of_getElem? (i := 12) rfl))) (by decide) (backOf (W := 2) (own_expd l Z a0 hw [] (8 : Int32) pa pl val pb h n0 Z0 ) hZ (hw _ (List.mem_of_getElem? (i := 12) rfl)) (hw _ (List.mem_of_getElem? (i := 8) rfl)) (by decide) (by decide)) (g := (mkF m 416 #[x0, x1, x2, x3, x4, .val (.long val), .second, .val (.int pa), .val (.int pb), .val (.ref ab), x10, .val (.int pl), .val (.int (1 : Int32))] [(.int pb), (.long val), (.int pl), (.int pa), (.int (8 : Int32)), (.int (own_exp (8 : Int32) pa pl val pb)), (.int (1 : Int32))])) rfl (by rw [hml]; rfl) (argsL := [(.int (8 : Int32)), (.int pa), (.int pl), (.long val), (.int pb)]) (rest := [(.int (own_exp (8 : Int32) pa pl val pb)), (.int (1 : Int32))]) (lenOf pd_0 rfl) rfl (by show 2 * 0 + _ ≤ _; exact Nat.le_of_eq rfl) (hb hby at_416) (fun _ _ => ⟨rfl, eT, (by decide : 1 + 0 ≤ _), (by decide : 16 + 0 ≤ _)⟩)
  dsimp only [Pt.U, Pt.locs, Pt.cells, Pt.slots] at X49 l49 y49 z49 st49 hQ49
  subst l49 y49 z49
  obtain ⟨rfl, N49q, eh49⟩ := hQ49
  have N49 := Fr.app N N49q
  refine ⟨T49, _, X49, eh49, N49, fun target k => ?_⟩
  show Steps p.tables e below (T.setTop (mkF m 399 #[x0, x1, x2, x3, x4, .val (.long val), .second, .val (.int pa), .val (.int pb), .val (.ref ab), x10, .val (.int pl), .val (.int (1 : Int32))] [])) _
  refine XS.iload X.here hx rfl (hb hby at_399) rfl ?_
  show Steps p.tables e below (T.setTop (mkF m 401 #[x0, x1, x2, x3, x4, .val (.long val), .second, .val (.int pa), .val (.int pb), .val (.ref ab), x10, .val (.int pl), .val (.int (1 : Int32))] [(.int (1 : Int32))])) _
  refine XS.aload X.here hx rfl (hb hby at_401) rfl rfl ?_
  show Steps p.tables e below (T.setTop (mkF m 403 #[x0, x1, x2, x3, x4, .val (.long val), .second, .val (.int pa), .val (.int pb), .val (.ref ab), x10, .val (.int pl), .val (.int (1 : Int32))] [(.ref ab), (.int (1 : Int32))])) _
  refine XS.bipush X.here hx rfl (hb hby at_403) ?_
  show Steps p.tables e below (T.setTop (mkF m 405 #[x0, x1, x2, x3, x4, .val (.long val), .second, .val (.int pa), .val (.int pb), .val (.ref ab), x10, .val (.int pl), .val (.int (1 : Int32))] [(.int (8 : Int32)), (.ref ab), (.int (1 : Int32))])) _
  refine X.baloadBytes hx (j := (8 : Int32)) (v := (.int (own_exp (8 : Int32) pa pl val pb))) (by rw [eT]; exact Ar48.1) (State.isArrayOf_alike hZ.alike Ar48.2.1) Ar48.2.2 hin48 hat48 (g := (mkF m 405 #[x0, x1, x2, x3, x4, .val (.long val), .second, .val (.int pa), .val (.int pb), .val (.ref ab), x10, .val (.int pl), .val (.int (1 : Int32))] [(.int (8 : Int32)), (.ref ab), (.int (1 : Int32))])) rfl rfl (hb hby at_405) _ ?_
  show Steps p.tables e below (T.setTop (mkF m 406 #[x0, x1, x2, x3, x4, .val (.long val), .second, .val (.int pa), .val (.int pb), .val (.ref ab), x10, .val (.int pl), .val (.int (1 : Int32))] [(.int (own_exp (8 : Int32) pa pl val pb)), (.int (1 : Int32))])) _
  refine XS.bipush X.here hx rfl (hb hby at_406) ?_
  show Steps p.tables e below (T.setTop (mkF m 408 #[x0, x1, x2, x3, x4, .val (.long val), .second, .val (.int pa), .val (.int pb), .val (.ref ab), x10, .val (.int pl), .val (.int (1 : Int32))] [(.int (8 : Int32)), (.int (own_exp (8 : Int32) pa pl val pb)), (.int (1 : Int32))])) _
  refine XS.iload X.here hx rfl (hb hby at_408) rfl ?_
  show Steps p.tables e below (T.setTop (mkF m 410 #[x0, x1, x2, x3, x4, .val (.long val), .second, .val (.int pa), .val (.int pb), .val (.ref ab), x10, .val (.int pl), .val (.int (1 : Int32))] [(.int pa), (.int (8 : Int32)), (.int (own_exp (8 : Int32) pa pl val pb)), (.int (1 : Int32))])) _
  refine XS.iload X.here hx rfl (hb hby at_410) rfl ?_
  show Steps p.tables e below (T.setTop (mkF m 412 #[x0, x1, x2, x3, x4, .val (.long val), .second, .val (.int pa), .val (.int pb), .val (.ref ab), x10, .val (.int pl), .val (.int (1 : Int32))] [(.int pl), (.int pa), (.int (8 : Int32)), (.int (own_exp (8 : Int32) pa pl val pb)), (.int (1 : Int32))])) _
  refine XT.lload X.here hx rfl (hb hby at_412) rfl ?_
  show Steps p.tables e below (T.setTop (mkF m 414 #[x0, x1, x2, x3, x4, .val (.long val), .second, .val (.int pa), .val (.int pb), .val (.ref ab), x10, .val (.int pl), .val (.int (1 : Int32))] [(.long val), (.int pl), (.int pa), (.int (8 : Int32)), (.int (own_exp (8 : Int32) pa pl val pb)), (.int (1 : Int32))])) _
  refine XS.iload X.here hx rfl (hb hby at_414) rfl ?_
  show Steps p.tables e below (T.setTop (mkF m 416 #[x0, x1, x2, x3, x4, .val (.long val), .second, .val (.int pa), .val (.int pb), .val (.ref ab), x10, .val (.int pl), .val (.int (1 : Int32))] [(.int pb), (.long val), (.int pl), (.int pa), (.int (8 : Int32)), (.int (own_exp (8 : Int32) pa pl val pb)), (.int (1 : Int32))])) _
  refine st49 _ ?_
  show Steps p.tables e below (T49.setTop (mkF m 419 #[x0, x1, x2, x3, x4, .val (.long val), .second, .val (.int pa), .val (.int pb), .val (.ref ab), x10, .val (.int pl), .val (.int (1 : Int32))] [(.int (own_exp (8 : Int32) pa pl val pb)), (.int (own_exp (8 : Int32) pa pl val pb)), (.int (1 : Int32))])) _
  refine XS.icmpNo X49.here hx rfl (hb hby at_419) rfl (XT.ii_ne_f rfl) ?_
  show Steps p.tables e below (T49.setTop (mkF m 422 #[x0, x1, x2, x3, x4, .val (.long val), .second, .val (.int pa), .val (.int pb), .val (.ref ab), x10, .val (.int pl), .val (.int (1 : Int32))] [(.int (1 : Int32))])) _
  refine XS.iconst X49.here hx rfl (hb hby at_422) ?_
  show Steps p.tables e below (T49.setTop (mkF m 423 #[x0, x1, x2, x3, x4, .val (.long val), .second, .val (.int pa), .val (.int pb), .val (.ref ab), x10, .val (.int pl), .val (.int (1 : Int32))] [(.int (1 : Int32)), (.int (1 : Int32))])) _
  refine XS.goto X49.here hx rfl (pc0 := 423) (pc' := 427) rfl (hb hby at_423) (by decide) (by decide) ?_
  show Steps p.tables e below (T49.setTop (mkF m 427 #[x0, x1, x2, x3, x4, .val (.long val), .second, .val (.int pa), .val (.int pb), .val (.ref ab), x10, .val (.int pl), .val (.int (1 : Int32))] [(.int (1 : Int32)), (.int (1 : Int32))])) _
  refine XS.iand X49.here hx rfl (hb hby at_427) rfl ?_
  show Steps p.tables e below (T49.setTop (mkF m 428 #[x0, x1, x2, x3, x4, .val (.long val), .second, .val (.int pa), .val (.int pb), .val (.ref ab), x10, .val (.int pl), .val (.int (1 : Int32))] [(.int (1 : Int32))])) _
  refine XS.istore X49.here hx rfl (hb hby at_428) rfl (l' := #[x0, x1, x2, x3, x4, .val (.long val), .second, .val (.int pa), .val (.int pb), .val (.ref ab), x10, .val (.int pl), .val (.int (1 : Int32))]) rfl ?_
  show Steps p.tables e below (T49.setTop (mkF m 430 #[x0, x1, x2, x3, x4, .val (.long val), .second, .val (.int pa), .val (.int pb), .val (.ref ab), x10, .val (.int pl), .val (.int (1 : Int32))] [])) _
  exact k
set_option maxRecDepth 65536 in
set_option maxHeartbeats 40000000 in
theorem own_ck9 {p : Program} {l : Launch} {e : Env} {s : State} {m : MethodId} {args : Array Value} {below : List Frame} {meth : Method} {c : Code} {T : State} {locs : List Loc} {Z : State} {a0 : Array Value} {h : Heap} {n0 : Nat} (hw : ∀ d ∈ tables_1, d.before a0 Z = true) (X : Stand p l e room_1 s m args below meth c T locs 1 16) (hx : p.tables.exec = Jvm.exec) (hZ : Z.Warmed39 s.vm) (hby : c.code = code) (hml : c.maxLocals = 13) (hown : s.vm.findClass "com/example/xml_element_search/xmlelementsearch/VarLongPutPinLaw" = some m.cls) (eT : T.heap = h) (N : Fr n0 locs) (Z0 : n0 ≤ h.size) (x0 : Slot) (x1 : Slot) (x2 : Slot) (x3 : Slot) (x4 : Slot) (val : Int64) (pa : Int32) (pb : Int32) (ab : Addr) (x10 : Slot) (pl : Int32) (k : ClassId) (f : Nat → Value) (V_ : Arf Z h ab k .byte 16 f) (hv : f 9 = .int (own_exp (9 : Int32) pa pl val pb)) :
    ∃ T' L', Stand p l e room_1 s m args below meth c T' L' 1 16 ∧ T'.heap = h ∧ Fr n0 L' ∧ ∀ target, Steps p.tables e below (T'.setTop (mkF m 461 #[x0, x1, x2, x3, x4, .val (.long val), .second, .val (.int pa), .val (.int pb), .val (.ref ab), x10, .val (.int pl), .val (.int (1 : Int32))] [])) target → Steps p.tables e below (T.setTop (mkF m 430 #[x0, x1, x2, x3, x4, .val (.long val), .second, .val (.int pa), .val (.int pb), .val (.ref ab), x10, .val (.int pl), .val (.int (1 : Int32))] [])) target := by
  obtain ⟨cl50, Ar50, qk50, S50, B50, H50, G50⟩ := id V_
  have hin50 : ¬ ((9 : Int32) < 0 ∨ cl50.slots.size ≤ ((9 : Int32)).toNatClampNeg) := own_inb S50 ⟨by decide, rfl⟩ (by decide)
  have hat50 : cl50.slots[((9 : Int32)).toNatClampNeg]? = some (.int (own_exp (9 : Int32) pa pl val pb)) := own_hat H50 ⟨by decide, rfl⟩ (by decide) hv
  obtain ⟨_, _, ⟨T51, L51, k51, n51⟩, -, X51, ⟨Lc51, hQ51, l51, y51, z51⟩, st51⟩ := Jvm.LawKit.callS X hx (y := (⟨"com/example/xml_element_search/xmlelementsearch/VarLongPutPinLaw", "expected", "(IIIJB)B"⟩ : MethodName)) hown (mvT hZ (hw _ (List.mem_of_getElem? (i := 10) rfl))) (mvT hZ (hw _ (List.mem_of_getElem? (i := 11) rfl))) (mvT hZ (hw _ (List.mem_of_getElem? (i := 8) rfl))) (mvT hZ (hw _ (List.mem_of_getElem? (i := 12) rfl))) (by decide) (backOf (W := 2) (own_expd l Z a0 hw [] (9 : Int32) pa pl val pb h n0 Z0 ) hZ (hw _ (List.mem_of_getElem? (i := 12) rfl)) (hw _ (List.mem_of_getElem? (i := 8) rfl)) (by decide) (by decide)) (g := (mkF m 447 #[x0, x1, x2, x3, x4, .val (.long val), .second, .val (.int pa), .val (.int pb), .val (.ref ab), x10, .val (.int pl), .val (.int (1 : Int32))] [(.int pb), (.long val), (.int pl), (.int pa), (.int (9 : Int32)), (.int (own_exp (9 : Int32) pa pl val pb)), (.int (1 : Int32))])) rfl (by rw [hml]; rfl) (argsL := [(.int (9 : Int32)), (.int pa), (.int pl), (.long val), (.int pb)]) (rest := [(.int (own_exp (9 : Int32) pa pl val pb)), (.int (1 : Int32))]) (lenOf pd_0 rfl) rfl (by show 2 * 0 + _ ≤ _; exact Nat.le_of_eq rfl) (hb hby at_447) (fun _ _ => ⟨rfl, eT, (by decide : 1 + 0 ≤ _), (by decide : 16 + 0 ≤ _)⟩)
  dsimp only [Pt.U, Pt.locs, Pt.cells, Pt.slots] at X51 l51 y51 z51 st51 hQ51
  subst l51 y51 z51
  obtain ⟨rfl, N51q, eh51⟩ := hQ51
  have N51 := Fr.app N N51q
  refine ⟨T51, _, X51, eh51, N51, fun target k => ?_⟩
  show Steps p.tables e below (T.setTop (mkF m 430 #[x0, x1, x2, x3, x4, .val (.long val), .second, .val (.int pa), .val (.int pb), .val (.ref ab), x10, .val (.int pl), .val (.int (1 : Int32))] [])) _
  refine XS.iload X.here hx rfl (hb hby at_430) rfl ?_
  show Steps p.tables e below (T.setTop (mkF m 432 #[x0, x1, x2, x3, x4, .val (.long val), .second, .val (.int pa), .val (.int pb), .val (.ref ab), x10, .val (.int pl), .val (.int (1 : Int32))] [(.int (1 : Int32))])) _
  refine XS.aload X.here hx rfl (hb hby at_432) rfl rfl ?_
  show Steps p.tables e below (T.setTop (mkF m 434 #[x0, x1, x2, x3, x4, .val (.long val), .second, .val (.int pa), .val (.int pb), .val (.ref ab), x10, .val (.int pl), .val (.int (1 : Int32))] [(.ref ab), (.int (1 : Int32))])) _
  refine XS.bipush X.here hx rfl (hb hby at_434) ?_
  show Steps p.tables e below (T.setTop (mkF m 436 #[x0, x1, x2, x3, x4, .val (.long val), .second, .val (.int pa), .val (.int pb), .val (.ref ab), x10, .val (.int pl), .val (.int (1 : Int32))] [(.int (9 : Int32)), (.ref ab), (.int (1 : Int32))])) _
  refine X.baloadBytes hx (j := (9 : Int32)) (v := (.int (own_exp (9 : Int32) pa pl val pb))) (by rw [eT]; exact Ar50.1) (State.isArrayOf_alike hZ.alike Ar50.2.1) Ar50.2.2 hin50 hat50 (g := (mkF m 436 #[x0, x1, x2, x3, x4, .val (.long val), .second, .val (.int pa), .val (.int pb), .val (.ref ab), x10, .val (.int pl), .val (.int (1 : Int32))] [(.int (9 : Int32)), (.ref ab), (.int (1 : Int32))])) rfl rfl (hb hby at_436) _ ?_
  show Steps p.tables e below (T.setTop (mkF m 437 #[x0, x1, x2, x3, x4, .val (.long val), .second, .val (.int pa), .val (.int pb), .val (.ref ab), x10, .val (.int pl), .val (.int (1 : Int32))] [(.int (own_exp (9 : Int32) pa pl val pb)), (.int (1 : Int32))])) _
  refine XS.bipush X.here hx rfl (hb hby at_437) ?_
  show Steps p.tables e below (T.setTop (mkF m 439 #[x0, x1, x2, x3, x4, .val (.long val), .second, .val (.int pa), .val (.int pb), .val (.ref ab), x10, .val (.int pl), .val (.int (1 : Int32))] [(.int (9 : Int32)), (.int (own_exp (9 : Int32) pa pl val pb)), (.int (1 : Int32))])) _
  refine XS.iload X.here hx rfl (hb hby at_439) rfl ?_
  show Steps p.tables e below (T.setTop (mkF m 441 #[x0, x1, x2, x3, x4, .val (.long val), .second, .val (.int pa), .val (.int pb), .val (.ref ab), x10, .val (.int pl), .val (.int (1 : Int32))] [(.int pa), (.int (9 : Int32)), (.int (own_exp (9 : Int32) pa pl val pb)), (.int (1 : Int32))])) _
  refine XS.iload X.here hx rfl (hb hby at_441) rfl ?_
  show Steps p.tables e below (T.setTop (mkF m 443 #[x0, x1, x2, x3, x4, .val (.long val), .second, .val (.int pa), .val (.int pb), .val (.ref ab), x10, .val (.int pl), .val (.int (1 : Int32))] [(.int pl), (.int pa), (.int (9 : Int32)), (.int (own_exp (9 : Int32) pa pl val pb)), (.int (1 : Int32))])) _
  refine XT.lload X.here hx rfl (hb hby at_443) rfl ?_
  show Steps p.tables e below (T.setTop (mkF m 445 #[x0, x1, x2, x3, x4, .val (.long val), .second, .val (.int pa), .val (.int pb), .val (.ref ab), x10, .val (.int pl), .val (.int (1 : Int32))] [(.long val), (.int pl), (.int pa), (.int (9 : Int32)), (.int (own_exp (9 : Int32) pa pl val pb)), (.int (1 : Int32))])) _
  refine XS.iload X.here hx rfl (hb hby at_445) rfl ?_
  show Steps p.tables e below (T.setTop (mkF m 447 #[x0, x1, x2, x3, x4, .val (.long val), .second, .val (.int pa), .val (.int pb), .val (.ref ab), x10, .val (.int pl), .val (.int (1 : Int32))] [(.int pb), (.long val), (.int pl), (.int pa), (.int (9 : Int32)), (.int (own_exp (9 : Int32) pa pl val pb)), (.int (1 : Int32))])) _
  refine st51 _ ?_
  show Steps p.tables e below (T51.setTop (mkF m 450 #[x0, x1, x2, x3, x4, .val (.long val), .second, .val (.int pa), .val (.int pb), .val (.ref ab), x10, .val (.int pl), .val (.int (1 : Int32))] [(.int (own_exp (9 : Int32) pa pl val pb)), (.int (own_exp (9 : Int32) pa pl val pb)), (.int (1 : Int32))])) _
  refine XS.icmpNo X51.here hx rfl (hb hby at_450) rfl (XT.ii_ne_f rfl) ?_
  show Steps p.tables e below (T51.setTop (mkF m 453 #[x0, x1, x2, x3, x4, .val (.long val), .second, .val (.int pa), .val (.int pb), .val (.ref ab), x10, .val (.int pl), .val (.int (1 : Int32))] [(.int (1 : Int32))])) _
  refine XS.iconst X51.here hx rfl (hb hby at_453) ?_
  show Steps p.tables e below (T51.setTop (mkF m 454 #[x0, x1, x2, x3, x4, .val (.long val), .second, .val (.int pa), .val (.int pb), .val (.ref ab), x10, .val (.int pl), .val (.int (1 : Int32))] [(.int (1 : Int32)), (.int (1 : Int32))])) _
  refine XS.goto X51.here hx rfl (pc0 := 454) (pc' := 458) rfl (hb hby at_454) (by decide) (by decide) ?_
  show Steps p.tables e below (T51.setTop (mkF m 458 #[x0, x1, x2, x3, x4, .val (.long val), .second, .val (.int pa), .val (.int pb), .val (.ref ab), x10, .val (.int pl), .val (.int (1 : Int32))] [(.int (1 : Int32)), (.int (1 : Int32))])) _
  refine XS.iand X51.here hx rfl (hb hby at_458) rfl ?_
  show Steps p.tables e below (T51.setTop (mkF m 459 #[x0, x1, x2, x3, x4, .val (.long val), .second, .val (.int pa), .val (.int pb), .val (.ref ab), x10, .val (.int pl), .val (.int (1 : Int32))] [(.int (1 : Int32))])) _
  refine XS.istore X51.here hx rfl (hb hby at_459) rfl (l' := #[x0, x1, x2, x3, x4, .val (.long val), .second, .val (.int pa), .val (.int pb), .val (.ref ab), x10, .val (.int pl), .val (.int (1 : Int32))]) rfl ?_
  show Steps p.tables e below (T51.setTop (mkF m 461 #[x0, x1, x2, x3, x4, .val (.long val), .second, .val (.int pa), .val (.int pb), .val (.ref ab), x10, .val (.int pl), .val (.int (1 : Int32))] [])) _
  exact k
set_option maxRecDepth 65536 in
set_option maxHeartbeats 40000000 in
theorem own_ck10 {p : Program} {l : Launch} {e : Env} {s : State} {m : MethodId} {args : Array Value} {below : List Frame} {meth : Method} {c : Code} {T : State} {locs : List Loc} {Z : State} {a0 : Array Value} {h : Heap} {n0 : Nat} (hw : ∀ d ∈ tables_1, d.before a0 Z = true) (X : Stand p l e room_1 s m args below meth c T locs 1 16) (hx : p.tables.exec = Jvm.exec) (hZ : Z.Warmed39 s.vm) (hby : c.code = code) (hml : c.maxLocals = 13) (hown : s.vm.findClass "com/example/xml_element_search/xmlelementsearch/VarLongPutPinLaw" = some m.cls) (eT : T.heap = h) (N : Fr n0 locs) (Z0 : n0 ≤ h.size) (x0 : Slot) (x1 : Slot) (x2 : Slot) (x3 : Slot) (x4 : Slot) (val : Int64) (pa : Int32) (pb : Int32) (ab : Addr) (x10 : Slot) (pl : Int32) (k : ClassId) (f : Nat → Value) (V_ : Arf Z h ab k .byte 16 f) (hv : f 10 = .int (own_exp (10 : Int32) pa pl val pb)) :
    ∃ T' L', Stand p l e room_1 s m args below meth c T' L' 1 16 ∧ T'.heap = h ∧ Fr n0 L' ∧ ∀ target, Steps p.tables e below (T'.setTop (mkF m 492 #[x0, x1, x2, x3, x4, .val (.long val), .second, .val (.int pa), .val (.int pb), .val (.ref ab), x10, .val (.int pl), .val (.int (1 : Int32))] [])) target → Steps p.tables e below (T.setTop (mkF m 461 #[x0, x1, x2, x3, x4, .val (.long val), .second, .val (.int pa), .val (.int pb), .val (.ref ab), x10, .val (.int pl), .val (.int (1 : Int32))] [])) target := by
  obtain ⟨cl52, Ar52, qk52, S52, B52, H52, G52⟩ := id V_
  have hin52 : ¬ ((10 : Int32) < 0 ∨ cl52.slots.size ≤ ((10 : Int32)).toNatClampNeg) := own_inb S52 ⟨by decide, rfl⟩ (by decide)
  have hat52 : cl52.slots[((10 : Int32)).toNatClampNeg]? = some (.int (own_exp (10 : Int32) pa pl val pb)) := own_hat H52 ⟨by decide, rfl⟩ (by decide) hv
  obtain ⟨_, _, ⟨T53, L53, k53, n53⟩, -, X53, ⟨Lc53, hQ53, l53, y53, z53⟩, st53⟩ := Jvm.LawKit.callS X hx (y := (⟨"com/example/xml_element_search/xmlelementsearch/VarLongPutPinLaw", "expected", "(IIIJB)B"⟩ : MethodName)) hown (mvT hZ (hw _ (List.mem_of_getElem? (i := 10) rfl))) (mvT hZ (hw _ (List.mem_of_getElem? (i := 11) rfl))) (mvT hZ (hw _ (List.mem_of_getElem? (i := 8) rfl))) (mvT hZ (hw _ (List.mem_of_getElem? (i := 12) rfl))) (by decide) (backOf (W := 2) (own_expd l Z a0 hw [] (10 : Int32) pa pl val pb h n0 Z0 ) hZ (hw _ (List.mem_of_getElem? (i := 12) rfl)) (hw _ (List.mem_of_getElem? (i := 8) rfl)) (by decide) (by decide)) (g := (mkF m 478 #[x0, x1, x2, x3, x4, .val (.long val), .second, .val (.int pa), .val (.int pb), .val (.ref ab), x10, .val (.int pl), .val (.int (1 : Int32))] [(.int pb), (.long val), (.int pl), (.int pa), (.int (10 : Int32)), (.int (own_exp (10 : Int32) pa pl val pb)), (.int (1 : Int32))])) rfl (by rw [hml]; rfl) (argsL := [(.int (10 : Int32)), (.int pa), (.int pl), (.long val), (.int pb)]) (rest := [(.int (own_exp (10 : Int32) pa pl val pb)), (.int (1 : Int32))]) (lenOf pd_0 rfl) rfl (by show 2 * 0 + _ ≤ _; exact Nat.le_of_eq rfl) (hb hby at_478) (fun _ _ => ⟨rfl, eT, (by decide : 1 + 0 ≤ _), (by decide : 16 + 0 ≤ _)⟩)
  dsimp only [Pt.U, Pt.locs, Pt.cells, Pt.slots] at X53 l53 y53 z53 st53 hQ53
  subst l53 y53 z53
  obtain ⟨rfl, N53q, eh53⟩ := hQ53
  have N53 := Fr.app N N53q
  refine ⟨T53, _, X53, eh53, N53, fun target k => ?_⟩
  show Steps p.tables e below (T.setTop (mkF m 461 #[x0, x1, x2, x3, x4, .val (.long val), .second, .val (.int pa), .val (.int pb), .val (.ref ab), x10, .val (.int pl), .val (.int (1 : Int32))] [])) _
  refine XS.iload X.here hx rfl (hb hby at_461) rfl ?_
  show Steps p.tables e below (T.setTop (mkF m 463 #[x0, x1, x2, x3, x4, .val (.long val), .second, .val (.int pa), .val (.int pb), .val (.ref ab), x10, .val (.int pl), .val (.int (1 : Int32))] [(.int (1 : Int32))])) _
  refine XS.aload X.here hx rfl (hb hby at_463) rfl rfl ?_
  show Steps p.tables e below (T.setTop (mkF m 465 #[x0, x1, x2, x3, x4, .val (.long val), .second, .val (.int pa), .val (.int pb), .val (.ref ab), x10, .val (.int pl), .val (.int (1 : Int32))] [(.ref ab), (.int (1 : Int32))])) _
  refine XS.bipush X.here hx rfl (hb hby at_465) ?_
  show Steps p.tables e below (T.setTop (mkF m 467 #[x0, x1, x2, x3, x4, .val (.long val), .second, .val (.int pa), .val (.int pb), .val (.ref ab), x10, .val (.int pl), .val (.int (1 : Int32))] [(.int (10 : Int32)), (.ref ab), (.int (1 : Int32))])) _
  refine X.baloadBytes hx (j := (10 : Int32)) (v := (.int (own_exp (10 : Int32) pa pl val pb))) (by rw [eT]; exact Ar52.1) (State.isArrayOf_alike hZ.alike Ar52.2.1) Ar52.2.2 hin52 hat52 (g := (mkF m 467 #[x0, x1, x2, x3, x4, .val (.long val), .second, .val (.int pa), .val (.int pb), .val (.ref ab), x10, .val (.int pl), .val (.int (1 : Int32))] [(.int (10 : Int32)), (.ref ab), (.int (1 : Int32))])) rfl rfl (hb hby at_467) _ ?_
  show Steps p.tables e below (T.setTop (mkF m 468 #[x0, x1, x2, x3, x4, .val (.long val), .second, .val (.int pa), .val (.int pb), .val (.ref ab), x10, .val (.int pl), .val (.int (1 : Int32))] [(.int (own_exp (10 : Int32) pa pl val pb)), (.int (1 : Int32))])) _
  refine XS.bipush X.here hx rfl (hb hby at_468) ?_
  show Steps p.tables e below (T.setTop (mkF m 470 #[x0, x1, x2, x3, x4, .val (.long val), .second, .val (.int pa), .val (.int pb), .val (.ref ab), x10, .val (.int pl), .val (.int (1 : Int32))] [(.int (10 : Int32)), (.int (own_exp (10 : Int32) pa pl val pb)), (.int (1 : Int32))])) _
  refine XS.iload X.here hx rfl (hb hby at_470) rfl ?_
  show Steps p.tables e below (T.setTop (mkF m 472 #[x0, x1, x2, x3, x4, .val (.long val), .second, .val (.int pa), .val (.int pb), .val (.ref ab), x10, .val (.int pl), .val (.int (1 : Int32))] [(.int pa), (.int (10 : Int32)), (.int (own_exp (10 : Int32) pa pl val pb)), (.int (1 : Int32))])) _
  refine XS.iload X.here hx rfl (hb hby at_472) rfl ?_
  show Steps p.tables e below (T.setTop (mkF m 474 #[x0, x1, x2, x3, x4, .val (.long val), .second, .val (.int pa), .val (.int pb), .val (.ref ab), x10, .val (.int pl), .val (.int (1 : Int32))] [(.int pl), (.int pa), (.int (10 : Int32)), (.int (own_exp (10 : Int32) pa pl val pb)), (.int (1 : Int32))])) _
  refine XT.lload X.here hx rfl (hb hby at_474) rfl ?_
  show Steps p.tables e below (T.setTop (mkF m 476 #[x0, x1, x2, x3, x4, .val (.long val), .second, .val (.int pa), .val (.int pb), .val (.ref ab), x10, .val (.int pl), .val (.int (1 : Int32))] [(.long val), (.int pl), (.int pa), (.int (10 : Int32)), (.int (own_exp (10 : Int32) pa pl val pb)), (.int (1 : Int32))])) _
  refine XS.iload X.here hx rfl (hb hby at_476) rfl ?_
  show Steps p.tables e below (T.setTop (mkF m 478 #[x0, x1, x2, x3, x4, .val (.long val), .second, .val (.int pa), .val (.int pb), .val (.ref ab), x10, .val (.int pl), .val (.int (1 : Int32))] [(.int pb), (.long val), (.int pl), (.int pa), (.int (10 : Int32)), (.int (own_exp (10 : Int32) pa pl val pb)), (.int (1 : Int32))])) _
  refine st53 _ ?_
  show Steps p.tables e below (T53.setTop (mkF m 481 #[x0, x1, x2, x3, x4, .val (.long val), .second, .val (.int pa), .val (.int pb), .val (.ref ab), x10, .val (.int pl), .val (.int (1 : Int32))] [(.int (own_exp (10 : Int32) pa pl val pb)), (.int (own_exp (10 : Int32) pa pl val pb)), (.int (1 : Int32))])) _
  refine XS.icmpNo X53.here hx rfl (hb hby at_481) rfl (XT.ii_ne_f rfl) ?_
  show Steps p.tables e below (T53.setTop (mkF m 484 #[x0, x1, x2, x3, x4, .val (.long val), .second, .val (.int pa), .val (.int pb), .val (.ref ab), x10, .val (.int pl), .val (.int (1 : Int32))] [(.int (1 : Int32))])) _
  refine XS.iconst X53.here hx rfl (hb hby at_484) ?_
  show Steps p.tables e below (T53.setTop (mkF m 485 #[x0, x1, x2, x3, x4, .val (.long val), .second, .val (.int pa), .val (.int pb), .val (.ref ab), x10, .val (.int pl), .val (.int (1 : Int32))] [(.int (1 : Int32)), (.int (1 : Int32))])) _
  refine XS.goto X53.here hx rfl (pc0 := 485) (pc' := 489) rfl (hb hby at_485) (by decide) (by decide) ?_
  show Steps p.tables e below (T53.setTop (mkF m 489 #[x0, x1, x2, x3, x4, .val (.long val), .second, .val (.int pa), .val (.int pb), .val (.ref ab), x10, .val (.int pl), .val (.int (1 : Int32))] [(.int (1 : Int32)), (.int (1 : Int32))])) _
  refine XS.iand X53.here hx rfl (hb hby at_489) rfl ?_
  show Steps p.tables e below (T53.setTop (mkF m 490 #[x0, x1, x2, x3, x4, .val (.long val), .second, .val (.int pa), .val (.int pb), .val (.ref ab), x10, .val (.int pl), .val (.int (1 : Int32))] [(.int (1 : Int32))])) _
  refine XS.istore X53.here hx rfl (hb hby at_490) rfl (l' := #[x0, x1, x2, x3, x4, .val (.long val), .second, .val (.int pa), .val (.int pb), .val (.ref ab), x10, .val (.int pl), .val (.int (1 : Int32))]) rfl ?_
  show Steps p.tables e below (T53.setTop (mkF m 492 #[x0, x1, x2, x3, x4, .val (.long val), .second, .val (.int pa), .val (.int pb), .val (.ref ab), x10, .val (.int pl), .val (.int (1 : Int32))] [])) _
  exact k
set_option maxRecDepth 65536 in
set_option maxHeartbeats 40000000 in
theorem own_ck11 {p : Program} {l : Launch} {e : Env} {s : State} {m : MethodId} {args : Array Value} {below : List Frame} {meth : Method} {c : Code} {T : State} {locs : List Loc} {Z : State} {a0 : Array Value} {h : Heap} {n0 : Nat} (hw : ∀ d ∈ tables_1, d.before a0 Z = true) (X : Stand p l e room_1 s m args below meth c T locs 1 16) (hx : p.tables.exec = Jvm.exec) (hZ : Z.Warmed39 s.vm) (hby : c.code = code) (hml : c.maxLocals = 13) (hown : s.vm.findClass "com/example/xml_element_search/xmlelementsearch/VarLongPutPinLaw" = some m.cls) (eT : T.heap = h) (N : Fr n0 locs) (Z0 : n0 ≤ h.size) (x0 : Slot) (x1 : Slot) (x2 : Slot) (x3 : Slot) (x4 : Slot) (val : Int64) (pa : Int32) (pb : Int32) (ab : Addr) (x10 : Slot) (pl : Int32) (k : ClassId) (f : Nat → Value) (V_ : Arf Z h ab k .byte 16 f) (hv : f 11 = .int (own_exp (11 : Int32) pa pl val pb)) :
    ∃ T' L', Stand p l e room_1 s m args below meth c T' L' 1 16 ∧ T'.heap = h ∧ Fr n0 L' ∧ ∀ target, Steps p.tables e below (T'.setTop (mkF m 523 #[x0, x1, x2, x3, x4, .val (.long val), .second, .val (.int pa), .val (.int pb), .val (.ref ab), x10, .val (.int pl), .val (.int (1 : Int32))] [])) target → Steps p.tables e below (T.setTop (mkF m 492 #[x0, x1, x2, x3, x4, .val (.long val), .second, .val (.int pa), .val (.int pb), .val (.ref ab), x10, .val (.int pl), .val (.int (1 : Int32))] [])) target := by
  obtain ⟨cl54, Ar54, qk54, S54, B54, H54, G54⟩ := id V_
  have hin54 : ¬ ((11 : Int32) < 0 ∨ cl54.slots.size ≤ ((11 : Int32)).toNatClampNeg) := own_inb S54 ⟨by decide, rfl⟩ (by decide)
  have hat54 : cl54.slots[((11 : Int32)).toNatClampNeg]? = some (.int (own_exp (11 : Int32) pa pl val pb)) := own_hat H54 ⟨by decide, rfl⟩ (by decide) hv
  obtain ⟨_, _, ⟨T55, L55, k55, n55⟩, -, X55, ⟨Lc55, hQ55, l55, y55, z55⟩, st55⟩ := Jvm.LawKit.callS X hx (y := (⟨"com/example/xml_element_search/xmlelementsearch/VarLongPutPinLaw", "expected", "(IIIJB)B"⟩ : MethodName)) hown (mvT hZ (hw _ (List.mem_of_getElem? (i := 10) rfl))) (mvT hZ (hw _ (List.mem_of_getElem? (i := 11) rfl))) (mvT hZ (hw _ (List.mem_of_getElem? (i := 8) rfl))) (mvT hZ (hw _ (List.mem_of_getElem? (i := 12) rfl))) (by decide) (backOf (W := 2) (own_expd l Z a0 hw [] (11 : Int32) pa pl val pb h n0 Z0 ) hZ (hw _ (List.mem_of_getElem? (i := 12) rfl)) (hw _ (List.mem_of_getElem? (i := 8) rfl)) (by decide) (by decide)) (g := (mkF m 509 #[x0, x1, x2, x3, x4, .val (.long val), .second, .val (.int pa), .val (.int pb), .val (.ref ab), x10, .val (.int pl), .val (.int (1 : Int32))] [(.int pb), (.long val), (.int pl), (.int pa), (.int (11 : Int32)), (.int (own_exp (11 : Int32) pa pl val pb)), (.int (1 : Int32))])) rfl (by rw [hml]; rfl) (argsL := [(.int (11 : Int32)), (.int pa), (.int pl), (.long val), (.int pb)]) (rest := [(.int (own_exp (11 : Int32) pa pl val pb)), (.int (1 : Int32))]) (lenOf pd_0 rfl) rfl (by show 2 * 0 + _ ≤ _; exact Nat.le_of_eq rfl) (hb hby at_509) (fun _ _ => ⟨rfl, eT, (by decide : 1 + 0 ≤ _), (by decide : 16 + 0 ≤ _)⟩)
  dsimp only [Pt.U, Pt.locs, Pt.cells, Pt.slots] at X55 l55 y55 z55 st55 hQ55
  subst l55 y55 z55
  obtain ⟨rfl, N55q, eh55⟩ := hQ55
  have N55 := Fr.app N N55q
  refine ⟨T55, _, X55, eh55, N55, fun target k => ?_⟩
  show Steps p.tables e below (T.setTop (mkF m 492 #[x0, x1, x2, x3, x4, .val (.long val), .second, .val (.int pa), .val (.int pb), .val (.ref ab), x10, .val (.int pl), .val (.int (1 : Int32))] [])) _
  refine XS.iload X.here hx rfl (hb hby at_492) rfl ?_
  show Steps p.tables e below (T.setTop (mkF m 494 #[x0, x1, x2, x3, x4, .val (.long val), .second, .val (.int pa), .val (.int pb), .val (.ref ab), x10, .val (.int pl), .val (.int (1 : Int32))] [(.int (1 : Int32))])) _
  refine XS.aload X.here hx rfl (hb hby at_494) rfl rfl ?_
  show Steps p.tables e below (T.setTop (mkF m 496 #[x0, x1, x2, x3, x4, .val (.long val), .second, .val (.int pa), .val (.int pb), .val (.ref ab), x10, .val (.int pl), .val (.int (1 : Int32))] [(.ref ab), (.int (1 : Int32))])) _
  refine XS.bipush X.here hx rfl (hb hby at_496) ?_
  show Steps p.tables e below (T.setTop (mkF m 498 #[x0, x1, x2, x3, x4, .val (.long val), .second, .val (.int pa), .val (.int pb), .val (.ref ab), x10, .val (.int pl), .val (.int (1 : Int32))] [(.int (11 : Int32)), (.ref ab), (.int (1 : Int32))])) _
  refine X.baloadBytes hx (j := (11 : Int32)) (v := (.int (own_exp (11 : Int32) pa pl val pb))) (by rw [eT]; exact Ar54.1) (State.isArrayOf_alike hZ.alike Ar54.2.1) Ar54.2.2 hin54 hat54 (g := (mkF m 498 #[x0, x1, x2, x3, x4, .val (.long val), .second, .val (.int pa), .val (.int pb), .val (.ref ab), x10, .val (.int pl), .val (.int (1 : Int32))] [(.int (11 : Int32)), (.ref ab), (.int (1 : Int32))])) rfl rfl (hb hby at_498) _ ?_
  show Steps p.tables e below (T.setTop (mkF m 499 #[x0, x1, x2, x3, x4, .val (.long val), .second, .val (.int pa), .val (.int pb), .val (.ref ab), x10, .val (.int pl), .val (.int (1 : Int32))] [(.int (own_exp (11 : Int32) pa pl val pb)), (.int (1 : Int32))])) _
  refine XS.bipush X.here hx rfl (hb hby at_499) ?_
  show Steps p.tables e below (T.setTop (mkF m 501 #[x0, x1, x2, x3, x4, .val (.long val), .second, .val (.int pa), .val (.int pb), .val (.ref ab), x10, .val (.int pl), .val (.int (1 : Int32))] [(.int (11 : Int32)), (.int (own_exp (11 : Int32) pa pl val pb)), (.int (1 : Int32))])) _
  refine XS.iload X.here hx rfl (hb hby at_501) rfl ?_
  show Steps p.tables e below (T.setTop (mkF m 503 #[x0, x1, x2, x3, x4, .val (.long val), .second, .val (.int pa), .val (.int pb), .val (.ref ab), x10, .val (.int pl), .val (.int (1 : Int32))] [(.int pa), (.int (11 : Int32)), (.int (own_exp (11 : Int32) pa pl val pb)), (.int (1 : Int32))])) _
  refine XS.iload X.here hx rfl (hb hby at_503) rfl ?_
  show Steps p.tables e below (T.setTop (mkF m 505 #[x0, x1, x2, x3, x4, .val (.long val), .second, .val (.int pa), .val (.int pb), .val (.ref ab), x10, .val (.int pl), .val (.int (1 : Int32))] [(.int pl), (.int pa), (.int (11 : Int32)), (.int (own_exp (11 : Int32) pa pl val pb)), (.int (1 : Int32))])) _
  refine XT.lload X.here hx rfl (hb hby at_505) rfl ?_
  show Steps p.tables e below (T.setTop (mkF m 507 #[x0, x1, x2, x3, x4, .val (.long val), .second, .val (.int pa), .val (.int pb), .val (.ref ab), x10, .val (.int pl), .val (.int (1 : Int32))] [(.long val), (.int pl), (.int pa), (.int (11 : Int32)), (.int (own_exp (11 : Int32) pa pl val pb)), (.int (1 : Int32))])) _
  refine XS.iload X.here hx rfl (hb hby at_507) rfl ?_
  show Steps p.tables e below (T.setTop (mkF m 509 #[x0, x1, x2, x3, x4, .val (.long val), .second, .val (.int pa), .val (.int pb), .val (.ref ab), x10, .val (.int pl), .val (.int (1 : Int32))] [(.int pb), (.long val), (.int pl), (.int pa), (.int (11 : Int32)), (.int (own_exp (11 : Int32) pa pl val pb)), (.int (1 : Int32))])) _
  refine st55 _ ?_
  show Steps p.tables e below (T55.setTop (mkF m 512 #[x0, x1, x2, x3, x4, .val (.long val), .second, .val (.int pa), .val (.int pb), .val (.ref ab), x10, .val (.int pl), .val (.int (1 : Int32))] [(.int (own_exp (11 : Int32) pa pl val pb)), (.int (own_exp (11 : Int32) pa pl val pb)), (.int (1 : Int32))])) _
  refine XS.icmpNo X55.here hx rfl (hb hby at_512) rfl (XT.ii_ne_f rfl) ?_
  show Steps p.tables e below (T55.setTop (mkF m 515 #[x0, x1, x2, x3, x4, .val (.long val), .second, .val (.int pa), .val (.int pb), .val (.ref ab), x10, .val (.int pl), .val (.int (1 : Int32))] [(.int (1 : Int32))])) _
  refine XS.iconst X55.here hx rfl (hb hby at_515) ?_
  show Steps p.tables e below (T55.setTop (mkF m 516 #[x0, x1, x2, x3, x4, .val (.long val), .second, .val (.int pa), .val (.int pb), .val (.ref ab), x10, .val (.int pl), .val (.int (1 : Int32))] [(.int (1 : Int32)), (.int (1 : Int32))])) _
  refine XS.goto X55.here hx rfl (pc0 := 516) (pc' := 520) rfl (hb hby at_516) (by decide) (by decide) ?_
  show Steps p.tables e below (T55.setTop (mkF m 520 #[x0, x1, x2, x3, x4, .val (.long val), .second, .val (.int pa), .val (.int pb), .val (.ref ab), x10, .val (.int pl), .val (.int (1 : Int32))] [(.int (1 : Int32)), (.int (1 : Int32))])) _
  refine XS.iand X55.here hx rfl (hb hby at_520) rfl ?_
  show Steps p.tables e below (T55.setTop (mkF m 521 #[x0, x1, x2, x3, x4, .val (.long val), .second, .val (.int pa), .val (.int pb), .val (.ref ab), x10, .val (.int pl), .val (.int (1 : Int32))] [(.int (1 : Int32))])) _
  refine XS.istore X55.here hx rfl (hb hby at_521) rfl (l' := #[x0, x1, x2, x3, x4, .val (.long val), .second, .val (.int pa), .val (.int pb), .val (.ref ab), x10, .val (.int pl), .val (.int (1 : Int32))]) rfl ?_
  show Steps p.tables e below (T55.setTop (mkF m 523 #[x0, x1, x2, x3, x4, .val (.long val), .second, .val (.int pa), .val (.int pb), .val (.ref ab), x10, .val (.int pl), .val (.int (1 : Int32))] [])) _
  exact k
set_option maxRecDepth 65536 in
set_option maxHeartbeats 40000000 in
theorem own_ck12 {p : Program} {l : Launch} {e : Env} {s : State} {m : MethodId} {args : Array Value} {below : List Frame} {meth : Method} {c : Code} {T : State} {locs : List Loc} {Z : State} {a0 : Array Value} {h : Heap} {n0 : Nat} (hw : ∀ d ∈ tables_1, d.before a0 Z = true) (X : Stand p l e room_1 s m args below meth c T locs 1 16) (hx : p.tables.exec = Jvm.exec) (hZ : Z.Warmed39 s.vm) (hby : c.code = code) (hml : c.maxLocals = 13) (hown : s.vm.findClass "com/example/xml_element_search/xmlelementsearch/VarLongPutPinLaw" = some m.cls) (eT : T.heap = h) (N : Fr n0 locs) (Z0 : n0 ≤ h.size) (x0 : Slot) (x1 : Slot) (x2 : Slot) (x3 : Slot) (x4 : Slot) (val : Int64) (pa : Int32) (pb : Int32) (ab : Addr) (x10 : Slot) (pl : Int32) (k : ClassId) (f : Nat → Value) (V_ : Arf Z h ab k .byte 16 f) (hv : f 12 = .int (own_exp (12 : Int32) pa pl val pb)) :
    ∃ T' L', Stand p l e room_1 s m args below meth c T' L' 1 16 ∧ T'.heap = h ∧ Fr n0 L' ∧ ∀ target, Steps p.tables e below (T'.setTop (mkF m 554 #[x0, x1, x2, x3, x4, .val (.long val), .second, .val (.int pa), .val (.int pb), .val (.ref ab), x10, .val (.int pl), .val (.int (1 : Int32))] [])) target → Steps p.tables e below (T.setTop (mkF m 523 #[x0, x1, x2, x3, x4, .val (.long val), .second, .val (.int pa), .val (.int pb), .val (.ref ab), x10, .val (.int pl), .val (.int (1 : Int32))] [])) target := by
  obtain ⟨cl56, Ar56, qk56, S56, B56, H56, G56⟩ := id V_
  have hin56 : ¬ ((12 : Int32) < 0 ∨ cl56.slots.size ≤ ((12 : Int32)).toNatClampNeg) := own_inb S56 ⟨by decide, rfl⟩ (by decide)
  have hat56 : cl56.slots[((12 : Int32)).toNatClampNeg]? = some (.int (own_exp (12 : Int32) pa pl val pb)) := own_hat H56 ⟨by decide, rfl⟩ (by decide) hv
  obtain ⟨_, _, ⟨T57, L57, k57, n57⟩, -, X57, ⟨Lc57, hQ57, l57, y57, z57⟩, st57⟩ := Jvm.LawKit.callS X hx (y := (⟨"com/example/xml_element_search/xmlelementsearch/VarLongPutPinLaw", "expected", "(IIIJB)B"⟩ : MethodName)) hown (mvT hZ (hw _ (List.mem_of_getElem? (i := 10) rfl))) (mvT hZ (hw _ (List.mem_of_getElem? (i := 11) rfl))) (mvT hZ (hw _ (List.mem_of_getElem? (i := 8) rfl))) (mvT hZ (hw _ (List.mem_of_getElem? (i := 12) rfl))) (by decide) (backOf (W := 2) (own_expd l Z a0 hw [] (12 : Int32) pa pl val pb h n0 Z0 ) hZ (hw _ (List.mem_of_getElem? (i := 12) rfl)) (hw _ (List.mem_of_getElem? (i := 8) rfl)) (by decide) (by decide)) (g := (mkF m 540 #[x0, x1, x2, x3, x4, .val (.long val), .second, .val (.int pa), .val (.int pb), .val (.ref ab), x10, .val (.int pl), .val (.int (1 : Int32))] [(.int pb), (.long val), (.int pl), (.int pa), (.int (12 : Int32)), (.int (own_exp (12 : Int32) pa pl val pb)), (.int (1 : Int32))])) rfl (by rw [hml]; rfl) (argsL := [(.int (12 : Int32)), (.int pa), (.int pl), (.long val), (.int pb)]) (rest := [(.int (own_exp (12 : Int32) pa pl val pb)), (.int (1 : Int32))]) (lenOf pd_0 rfl) rfl (by show 2 * 0 + _ ≤ _; exact Nat.le_of_eq rfl) (hb hby at_540) (fun _ _ => ⟨rfl, eT, (by decide : 1 + 0 ≤ _), (by decide : 16 + 0 ≤ _)⟩)
  dsimp only [Pt.U, Pt.locs, Pt.cells, Pt.slots] at X57 l57 y57 z57 st57 hQ57
  subst l57 y57 z57
  obtain ⟨rfl, N57q, eh57⟩ := hQ57
  have N57 := Fr.app N N57q
  refine ⟨T57, _, X57, eh57, N57, fun target k => ?_⟩
  show Steps p.tables e below (T.setTop (mkF m 523 #[x0, x1, x2, x3, x4, .val (.long val), .second, .val (.int pa), .val (.int pb), .val (.ref ab), x10, .val (.int pl), .val (.int (1 : Int32))] [])) _
  refine XS.iload X.here hx rfl (hb hby at_523) rfl ?_
  show Steps p.tables e below (T.setTop (mkF m 525 #[x0, x1, x2, x3, x4, .val (.long val), .second, .val (.int pa), .val (.int pb), .val (.ref ab), x10, .val (.int pl), .val (.int (1 : Int32))] [(.int (1 : Int32))])) _
  refine XS.aload X.here hx rfl (hb hby at_525) rfl rfl ?_
  show Steps p.tables e below (T.setTop (mkF m 527 #[x0, x1, x2, x3, x4, .val (.long val), .second, .val (.int pa), .val (.int pb), .val (.ref ab), x10, .val (.int pl), .val (.int (1 : Int32))] [(.ref ab), (.int (1 : Int32))])) _
  refine XS.bipush X.here hx rfl (hb hby at_527) ?_
  show Steps p.tables e below (T.setTop (mkF m 529 #[x0, x1, x2, x3, x4, .val (.long val), .second, .val (.int pa), .val (.int pb), .val (.ref ab), x10, .val (.int pl), .val (.int (1 : Int32))] [(.int (12 : Int32)), (.ref ab), (.int (1 : Int32))])) _
  refine X.baloadBytes hx (j := (12 : Int32)) (v := (.int (own_exp (12 : Int32) pa pl val pb))) (by rw [eT]; exact Ar56.1) (State.isArrayOf_alike hZ.alike Ar56.2.1) Ar56.2.2 hin56 hat56 (g := (mkF m 529 #[x0, x1, x2, x3, x4, .val (.long val), .second, .val (.int pa), .val (.int pb), .val (.ref ab), x10, .val (.int pl), .val (.int (1 : Int32))] [(.int (12 : Int32)), (.ref ab), (.int (1 : Int32))])) rfl rfl (hb hby at_529) _ ?_
  show Steps p.tables e below (T.setTop (mkF m 530 #[x0, x1, x2, x3, x4, .val (.long val), .second, .val (.int pa), .val (.int pb), .val (.ref ab), x10, .val (.int pl), .val (.int (1 : Int32))] [(.int (own_exp (12 : Int32) pa pl val pb)), (.int (1 : Int32))])) _
  refine XS.bipush X.here hx rfl (hb hby at_530) ?_
  show Steps p.tables e below (T.setTop (mkF m 532 #[x0, x1, x2, x3, x4, .val (.long val), .second, .val (.int pa), .val (.int pb), .val (.ref ab), x10, .val (.int pl), .val (.int (1 : Int32))] [(.int (12 : Int32)), (.int (own_exp (12 : Int32) pa pl val pb)), (.int (1 : Int32))])) _
  refine XS.iload X.here hx rfl (hb hby at_532) rfl ?_
  show Steps p.tables e below (T.setTop (mkF m 534 #[x0, x1, x2, x3, x4, .val (.long val), .second, .val (.int pa), .val (.int pb), .val (.ref ab), x10, .val (.int pl), .val (.int (1 : Int32))] [(.int pa), (.int (12 : Int32)), (.int (own_exp (12 : Int32) pa pl val pb)), (.int (1 : Int32))])) _
  refine XS.iload X.here hx rfl (hb hby at_534) rfl ?_
  show Steps p.tables e below (T.setTop (mkF m 536 #[x0, x1, x2, x3, x4, .val (.long val), .second, .val (.int pa), .val (.int pb), .val (.ref ab), x10, .val (.int pl), .val (.int (1 : Int32))] [(.int pl), (.int pa), (.int (12 : Int32)), (.int (own_exp (12 : Int32) pa pl val pb)), (.int (1 : Int32))])) _
  refine XT.lload X.here hx rfl (hb hby at_536) rfl ?_
  show Steps p.tables e below (T.setTop (mkF m 538 #[x0, x1, x2, x3, x4, .val (.long val), .second, .val (.int pa), .val (.int pb), .val (.ref ab), x10, .val (.int pl), .val (.int (1 : Int32))] [(.long val), (.int pl), (.int pa), (.int (12 : Int32)), (.int (own_exp (12 : Int32) pa pl val pb)), (.int (1 : Int32))])) _
  refine XS.iload X.here hx rfl (hb hby at_538) rfl ?_
  show Steps p.tables e below (T.setTop (mkF m 540 #[x0, x1, x2, x3, x4, .val (.long val), .second, .val (.int pa), .val (.int pb), .val (.ref ab), x10, .val (.int pl), .val (.int (1 : Int32))] [(.int pb), (.long val), (.int pl), (.int pa), (.int (12 : Int32)), (.int (own_exp (12 : Int32) pa pl val pb)), (.int (1 : Int32))])) _
  refine st57 _ ?_
  show Steps p.tables e below (T57.setTop (mkF m 543 #[x0, x1, x2, x3, x4, .val (.long val), .second, .val (.int pa), .val (.int pb), .val (.ref ab), x10, .val (.int pl), .val (.int (1 : Int32))] [(.int (own_exp (12 : Int32) pa pl val pb)), (.int (own_exp (12 : Int32) pa pl val pb)), (.int (1 : Int32))])) _
  refine XS.icmpNo X57.here hx rfl (hb hby at_543) rfl (XT.ii_ne_f rfl) ?_
  show Steps p.tables e below (T57.setTop (mkF m 546 #[x0, x1, x2, x3, x4, .val (.long val), .second, .val (.int pa), .val (.int pb), .val (.ref ab), x10, .val (.int pl), .val (.int (1 : Int32))] [(.int (1 : Int32))])) _
  refine XS.iconst X57.here hx rfl (hb hby at_546) ?_
  show Steps p.tables e below (T57.setTop (mkF m 547 #[x0, x1, x2, x3, x4, .val (.long val), .second, .val (.int pa), .val (.int pb), .val (.ref ab), x10, .val (.int pl), .val (.int (1 : Int32))] [(.int (1 : Int32)), (.int (1 : Int32))])) _
  refine XS.goto X57.here hx rfl (pc0 := 547) (pc' := 551) rfl (hb hby at_547) (by decide) (by decide) ?_
  show Steps p.tables e below (T57.setTop (mkF m 551 #[x0, x1, x2, x3, x4, .val (.long val), .second, .val (.int pa), .val (.int pb), .val (.ref ab), x10, .val (.int pl), .val (.int (1 : Int32))] [(.int (1 : Int32)), (.int (1 : Int32))])) _
  refine XS.iand X57.here hx rfl (hb hby at_551) rfl ?_
  show Steps p.tables e below (T57.setTop (mkF m 552 #[x0, x1, x2, x3, x4, .val (.long val), .second, .val (.int pa), .val (.int pb), .val (.ref ab), x10, .val (.int pl), .val (.int (1 : Int32))] [(.int (1 : Int32))])) _
  refine XS.istore X57.here hx rfl (hb hby at_552) rfl (l' := #[x0, x1, x2, x3, x4, .val (.long val), .second, .val (.int pa), .val (.int pb), .val (.ref ab), x10, .val (.int pl), .val (.int (1 : Int32))]) rfl ?_
  show Steps p.tables e below (T57.setTop (mkF m 554 #[x0, x1, x2, x3, x4, .val (.long val), .second, .val (.int pa), .val (.int pb), .val (.ref ab), x10, .val (.int pl), .val (.int (1 : Int32))] [])) _
  exact k
set_option maxRecDepth 65536 in
set_option maxHeartbeats 40000000 in
theorem own_ck13 {p : Program} {l : Launch} {e : Env} {s : State} {m : MethodId} {args : Array Value} {below : List Frame} {meth : Method} {c : Code} {T : State} {locs : List Loc} {Z : State} {a0 : Array Value} {h : Heap} {n0 : Nat} (hw : ∀ d ∈ tables_1, d.before a0 Z = true) (X : Stand p l e room_1 s m args below meth c T locs 1 16) (hx : p.tables.exec = Jvm.exec) (hZ : Z.Warmed39 s.vm) (hby : c.code = code) (hml : c.maxLocals = 13) (hown : s.vm.findClass "com/example/xml_element_search/xmlelementsearch/VarLongPutPinLaw" = some m.cls) (eT : T.heap = h) (N : Fr n0 locs) (Z0 : n0 ≤ h.size) (x0 : Slot) (x1 : Slot) (x2 : Slot) (x3 : Slot) (x4 : Slot) (val : Int64) (pa : Int32) (pb : Int32) (ab : Addr) (x10 : Slot) (pl : Int32) (k : ClassId) (f : Nat → Value) (V_ : Arf Z h ab k .byte 16 f) (hv : f 13 = .int (own_exp (13 : Int32) pa pl val pb)) :
    ∃ T' L', Stand p l e room_1 s m args below meth c T' L' 1 16 ∧ T'.heap = h ∧ Fr n0 L' ∧ ∀ target, Steps p.tables e below (T'.setTop (mkF m 585 #[x0, x1, x2, x3, x4, .val (.long val), .second, .val (.int pa), .val (.int pb), .val (.ref ab), x10, .val (.int pl), .val (.int (1 : Int32))] [])) target → Steps p.tables e below (T.setTop (mkF m 554 #[x0, x1, x2, x3, x4, .val (.long val), .second, .val (.int pa), .val (.int pb), .val (.ref ab), x10, .val (.int pl), .val (.int (1 : Int32))] [])) target := by
  obtain ⟨cl58, Ar58, qk58, S58, B58, H58, G58⟩ := id V_
  have hin58 : ¬ ((13 : Int32) < 0 ∨ cl58.slots.size ≤ ((13 : Int32)).toNatClampNeg) := own_inb S58 ⟨by decide, rfl⟩ (by decide)
  have hat58 : cl58.slots[((13 : Int32)).toNatClampNeg]? = some (.int (own_exp (13 : Int32) pa pl val pb)) := own_hat H58 ⟨by decide, rfl⟩ (by decide) hv
  obtain ⟨_, _, ⟨T59, L59, k59, n59⟩, -, X59, ⟨Lc59, hQ59, l59, y59, z59⟩, st59⟩ := Jvm.LawKit.callS X hx (y := (⟨"com/example/xml_element_search/xmlelementsearch/VarLongPutPinLaw", "expected", "(IIIJB)B"⟩ : MethodName)) hown (mvT hZ (hw _ (List.mem_of_getElem? (i := 10) rfl))) (mvT hZ (hw _ (List.mem_of_getElem? (i := 11) rfl))) (mvT hZ (hw _ (List.mem_of_getElem? (i := 8) rfl))) (mvT hZ (hw _ (List.mem_of_getElem? (i := 12) rfl))) (by decide) (backOf (W := 2) (own_expd l Z a0 hw [] (13 : Int32) pa pl val pb h n0 Z0 ) hZ (hw _ (List.mem_of_getElem? (i := 12) rfl)) (hw _ (List.mem_of_getElem? (i := 8) rfl)) (by decide) (by decide)) (g := (mkF m 571 #[x0, x1, x2, x3, x4, .val (.long val), .second, .val (.int pa), .val (.int pb), .val (.ref ab), x10, .val (.int pl), .val (.int (1 : Int32))] [(.int pb), (.long val), (.int pl), (.int pa), (.int (13 : Int32)), (.int (own_exp (13 : Int32) pa pl val pb)), (.int (1 : Int32))])) rfl (by rw [hml]; rfl) (argsL := [(.int (13 : Int32)), (.int pa), (.int pl), (.long val), (.int pb)]) (rest := [(.int (own_exp (13 : Int32) pa pl val pb)), (.int (1 : Int32))]) (lenOf pd_0 rfl) rfl (by show 2 * 0 + _ ≤ _; exact Nat.le_of_eq rfl) (hb hby at_571) (fun _ _ => ⟨rfl, eT, (by decide : 1 + 0 ≤ _), (by decide : 16 + 0 ≤ _)⟩)
  dsimp only [Pt.U, Pt.locs, Pt.cells, Pt.slots] at X59 l59 y59 z59 st59 hQ59
  subst l59 y59 z59
  obtain ⟨rfl, N59q, eh59⟩ := hQ59
  have N59 := Fr.app N N59q
  refine ⟨T59, _, X59, eh59, N59, fun target k => ?_⟩
  show Steps p.tables e below (T.setTop (mkF m 554 #[x0, x1, x2, x3, x4, .val (.long val), .second, .val (.int pa), .val (.int pb), .val (.ref ab), x10, .val (.int pl), .val (.int (1 : Int32))] [])) _
  refine XS.iload X.here hx rfl (hb hby at_554) rfl ?_
  show Steps p.tables e below (T.setTop (mkF m 556 #[x0, x1, x2, x3, x4, .val (.long val), .second, .val (.int pa), .val (.int pb), .val (.ref ab), x10, .val (.int pl), .val (.int (1 : Int32))] [(.int (1 : Int32))])) _
  refine XS.aload X.here hx rfl (hb hby at_556) rfl rfl ?_
  show Steps p.tables e below (T.setTop (mkF m 558 #[x0, x1, x2, x3, x4, .val (.long val), .second, .val (.int pa), .val (.int pb), .val (.ref ab), x10, .val (.int pl), .val (.int (1 : Int32))] [(.ref ab), (.int (1 : Int32))])) _
  refine XS.bipush X.here hx rfl (hb hby at_558) ?_
  show Steps p.tables e below (T.setTop (mkF m 560 #[x0, x1, x2, x3, x4, .val (.long val), .second, .val (.int pa), .val (.int pb), .val (.ref ab), x10, .val (.int pl), .val (.int (1 : Int32))] [(.int (13 : Int32)), (.ref ab), (.int (1 : Int32))])) _
  refine X.baloadBytes hx (j := (13 : Int32)) (v := (.int (own_exp (13 : Int32) pa pl val pb))) (by rw [eT]; exact Ar58.1) (State.isArrayOf_alike hZ.alike Ar58.2.1) Ar58.2.2 hin58 hat58 (g := (mkF m 560 #[x0, x1, x2, x3, x4, .val (.long val), .second, .val (.int pa), .val (.int pb), .val (.ref ab), x10, .val (.int pl), .val (.int (1 : Int32))] [(.int (13 : Int32)), (.ref ab), (.int (1 : Int32))])) rfl rfl (hb hby at_560) _ ?_
  show Steps p.tables e below (T.setTop (mkF m 561 #[x0, x1, x2, x3, x4, .val (.long val), .second, .val (.int pa), .val (.int pb), .val (.ref ab), x10, .val (.int pl), .val (.int (1 : Int32))] [(.int (own_exp (13 : Int32) pa pl val pb)), (.int (1 : Int32))])) _
  refine XS.bipush X.here hx rfl (hb hby at_561) ?_
  show Steps p.tables e below (T.setTop (mkF m 563 #[x0, x1, x2, x3, x4, .val (.long val), .second, .val (.int pa), .val (.int pb), .val (.ref ab), x10, .val (.int pl), .val (.int (1 : Int32))] [(.int (13 : Int32)), (.int (own_exp (13 : Int32) pa pl val pb)), (.int (1 : Int32))])) _
  refine XS.iload X.here hx rfl (hb hby at_563) rfl ?_
  show Steps p.tables e below (T.setTop (mkF m 565 #[x0, x1, x2, x3, x4, .val (.long val), .second, .val (.int pa), .val (.int pb), .val (.ref ab), x10, .val (.int pl), .val (.int (1 : Int32))] [(.int pa), (.int (13 : Int32)), (.int (own_exp (13 : Int32) pa pl val pb)), (.int (1 : Int32))])) _
  refine XS.iload X.here hx rfl (hb hby at_565) rfl ?_
  show Steps p.tables e below (T.setTop (mkF m 567 #[x0, x1, x2, x3, x4, .val (.long val), .second, .val (.int pa), .val (.int pb), .val (.ref ab), x10, .val (.int pl), .val (.int (1 : Int32))] [(.int pl), (.int pa), (.int (13 : Int32)), (.int (own_exp (13 : Int32) pa pl val pb)), (.int (1 : Int32))])) _
  refine XT.lload X.here hx rfl (hb hby at_567) rfl ?_
  show Steps p.tables e below (T.setTop (mkF m 569 #[x0, x1, x2, x3, x4, .val (.long val), .second, .val (.int pa), .val (.int pb), .val (.ref ab), x10, .val (.int pl), .val (.int (1 : Int32))] [(.long val), (.int pl), (.int pa), (.int (13 : Int32)), (.int (own_exp (13 : Int32) pa pl val pb)), (.int (1 : Int32))])) _
  refine XS.iload X.here hx rfl (hb hby at_569) rfl ?_
  show Steps p.tables e below (T.setTop (mkF m 571 #[x0, x1, x2, x3, x4, .val (.long val), .second, .val (.int pa), .val (.int pb), .val (.ref ab), x10, .val (.int pl), .val (.int (1 : Int32))] [(.int pb), (.long val), (.int pl), (.int pa), (.int (13 : Int32)), (.int (own_exp (13 : Int32) pa pl val pb)), (.int (1 : Int32))])) _
  refine st59 _ ?_
  show Steps p.tables e below (T59.setTop (mkF m 574 #[x0, x1, x2, x3, x4, .val (.long val), .second, .val (.int pa), .val (.int pb), .val (.ref ab), x10, .val (.int pl), .val (.int (1 : Int32))] [(.int (own_exp (13 : Int32) pa pl val pb)), (.int (own_exp (13 : Int32) pa pl val pb)), (.int (1 : Int32))])) _
  refine XS.icmpNo X59.here hx rfl (hb hby at_574) rfl (XT.ii_ne_f rfl) ?_
  show Steps p.tables e below (T59.setTop (mkF m 577 #[x0, x1, x2, x3, x4, .val (.long val), .second, .val (.int pa), .val (.int pb), .val (.ref ab), x10, .val (.int pl), .val (.int (1 : Int32))] [(.int (1 : Int32))])) _
  refine XS.iconst X59.here hx rfl (hb hby at_577) ?_
  show Steps p.tables e below (T59.setTop (mkF m 578 #[x0, x1, x2, x3, x4, .val (.long val), .second, .val (.int pa), .val (.int pb), .val (.ref ab), x10, .val (.int pl), .val (.int (1 : Int32))] [(.int (1 : Int32)), (.int (1 : Int32))])) _
  refine XS.goto X59.here hx rfl (pc0 := 578) (pc' := 582) rfl (hb hby at_578) (by decide) (by decide) ?_
  show Steps p.tables e below (T59.setTop (mkF m 582 #[x0, x1, x2, x3, x4, .val (.long val), .second, .val (.int pa), .val (.int pb), .val (.ref ab), x10, .val (.int pl), .val (.int (1 : Int32))] [(.int (1 : Int32)), (.int (1 : Int32))])) _
  refine XS.iand X59.here hx rfl (hb hby at_582) rfl ?_
  show Steps p.tables e below (T59.setTop (mkF m 583 #[x0, x1, x2, x3, x4, .val (.long val), .second, .val (.int pa), .val (.int pb), .val (.ref ab), x10, .val (.int pl), .val (.int (1 : Int32))] [(.int (1 : Int32))])) _
  refine XS.istore X59.here hx rfl (hb hby at_583) rfl (l' := #[x0, x1, x2, x3, x4, .val (.long val), .second, .val (.int pa), .val (.int pb), .val (.ref ab), x10, .val (.int pl), .val (.int (1 : Int32))]) rfl ?_
  show Steps p.tables e below (T59.setTop (mkF m 585 #[x0, x1, x2, x3, x4, .val (.long val), .second, .val (.int pa), .val (.int pb), .val (.ref ab), x10, .val (.int pl), .val (.int (1 : Int32))] [])) _
  exact k
set_option maxRecDepth 65536 in
set_option maxHeartbeats 40000000 in
theorem own_ck14 {p : Program} {l : Launch} {e : Env} {s : State} {m : MethodId} {args : Array Value} {below : List Frame} {meth : Method} {c : Code} {T : State} {locs : List Loc} {Z : State} {a0 : Array Value} {h : Heap} {n0 : Nat} (hw : ∀ d ∈ tables_1, d.before a0 Z = true) (X : Stand p l e room_1 s m args below meth c T locs 1 16) (hx : p.tables.exec = Jvm.exec) (hZ : Z.Warmed39 s.vm) (hby : c.code = code) (hml : c.maxLocals = 13) (hown : s.vm.findClass "com/example/xml_element_search/xmlelementsearch/VarLongPutPinLaw" = some m.cls) (eT : T.heap = h) (N : Fr n0 locs) (Z0 : n0 ≤ h.size) (x0 : Slot) (x1 : Slot) (x2 : Slot) (x3 : Slot) (x4 : Slot) (val : Int64) (pa : Int32) (pb : Int32) (ab : Addr) (x10 : Slot) (pl : Int32) (k : ClassId) (f : Nat → Value) (V_ : Arf Z h ab k .byte 16 f) (hv : f 14 = .int (own_exp (14 : Int32) pa pl val pb)) :
    ∃ T' L', Stand p l e room_1 s m args below meth c T' L' 1 16 ∧ T'.heap = h ∧ Fr n0 L' ∧ ∀ target, Steps p.tables e below (T'.setTop (mkF m 616 #[x0, x1, x2, x3, x4, .val (.long val), .second, .val (.int pa), .val (.int pb), .val (.ref ab), x10, .val (.int pl), .val (.int (1 : Int32))] [])) target → Steps p.tables e below (T.setTop (mkF m 585 #[x0, x1, x2, x3, x4, .val (.long val), .second, .val (.int pa), .val (.int pb), .val (.ref ab), x10, .val (.int pl), .val (.int (1 : Int32))] [])) target := by
  obtain ⟨cl60, Ar60, qk60, S60, B60, H60, G60⟩ := id V_
  have hin60 : ¬ ((14 : Int32) < 0 ∨ cl60.slots.size ≤ ((14 : Int32)).toNatClampNeg) := own_inb S60 ⟨by decide, rfl⟩ (by decide)
  have hat60 : cl60.slots[((14 : Int32)).toNatClampNeg]? = some (.int (own_exp (14 : Int32) pa pl val pb)) := own_hat H60 ⟨by decide, rfl⟩ (by decide) hv
  obtain ⟨_, _, ⟨T61, L61, k61, n61⟩, -, X61, ⟨Lc61, hQ61, l61, y61, z61⟩, st61⟩ := Jvm.LawKit.callS X hx (y := (⟨"com/example/xml_element_search/xmlelementsearch/VarLongPutPinLaw", "expected", "(IIIJB)B"⟩ : MethodName)) hown (mvT hZ (hw _ (List.mem_of_getElem? (i := 10) rfl))) (mvT hZ (hw _ (List.mem_of_getElem? (i := 11) rfl))) (mvT hZ (hw _ (List.mem_of_getElem? (i := 8) rfl))) (mvT hZ (hw _ (List.mem_of_getElem? (i := 12) rfl))) (by decide) (backOf (W := 2) (own_expd l Z a0 hw [] (14 : Int32) pa pl val pb h n0 Z0 ) hZ (hw _ (List.mem_of_getElem? (i := 12) rfl)) (hw _ (List.mem_of_getElem? (i := 8) rfl)) (by decide) (by decide)) (g := (mkF m 602 #[x0, x1, x2, x3, x4, .val (.long val), .second, .val (.int pa), .val (.int pb), .val (.ref ab), x10, .val (.int pl), .val (.int (1 : Int32))] [(.int pb), (.long val), (.int pl), (.int pa), (.int (14 : Int32)), (.int (own_exp (14 : Int32) pa pl val pb)), (.int (1 : Int32))])) rfl (by rw [hml]; rfl) (argsL := [(.int (14 : Int32)), (.int pa), (.int pl), (.long val), (.int pb)]) (rest := [(.int (own_exp (14 : Int32) pa pl val pb)), (.int (1 : Int32))]) (lenOf pd_0 rfl) rfl (by show 2 * 0 + _ ≤ _; exact Nat.le_of_eq rfl) (hb hby at_602) (fun _ _ => ⟨rfl, eT, (by decide : 1 + 0 ≤ _), (by decide : 16 + 0 ≤ _)⟩)
  dsimp only [Pt.U, Pt.locs, Pt.cells, Pt.slots] at X61 l61 y61 z61 st61 hQ61
  subst l61 y61 z61
  obtain ⟨rfl, N61q, eh61⟩ := hQ61
  have N61 := Fr.app N N61q
  refine ⟨T61, _, X61, eh61, N61, fun target k => ?_⟩
  show Steps p.tables e below (T.setTop (mkF m 585 #[x0, x1, x2, x3, x4, .val (.long val), .second, .val (.int pa), .val (.int pb), .val (.ref ab), x10, .val (.int pl), .val (.int (1 : Int32))] [])) _
  refine XS.iload X.here hx rfl (hb hby at_585) rfl ?_
  show Steps p.tables e below (T.setTop (mkF m 587 #[x0, x1, x2, x3, x4, .val (.long val), .second, .val (.int pa), .val (.int pb), .val (.ref ab), x10, .val (.int pl), .val (.int (1 : Int32))] [(.int (1 : Int32))])) _
  refine XS.aload X.here hx rfl (hb hby at_587) rfl rfl ?_
  show Steps p.tables e below (T.setTop (mkF m 589 #[x0, x1, x2, x3, x4, .val (.long val), .second, .val (.int pa), .val (.int pb), .val (.ref ab), x10, .val (.int pl), .val (.int (1 : Int32))] [(.ref ab), (.int (1 : Int32))])) _
  refine XS.bipush X.here hx rfl (hb hby at_589) ?_
  show Steps p.tables e below (T.setTop (mkF m 591 #[x0, x1, x2, x3, x4, .val (.long val), .second, .val (.int pa), .val (.int pb), .val (.ref ab), x10, .val (.int pl), .val (.int (1 : Int32))] [(.int (14 : Int32)), (.ref ab), (.int (1 : Int32))])) _
  refine X.baloadBytes hx (j := (14 : Int32)) (v := (.int (own_exp (14 : Int32) pa pl val pb))) (by rw [eT]; exact Ar60.1) (State.isArrayOf_alike hZ.alike Ar60.2.1) Ar60.2.2 hin60 hat60 (g := (mkF m 591 #[x0, x1, x2, x3, x4, .val (.long val), .second, .val (.int pa), .val (.int pb), .val (.ref ab), x10, .val (.int pl), .val (.int (1 : Int32))] [(.int (14 : Int32)), (.ref ab), (.int (1 : Int32))])) rfl rfl (hb hby at_591) _ ?_
  show Steps p.tables e below (T.setTop (mkF m 592 #[x0, x1, x2, x3, x4, .val (.long val), .second, .val (.int pa), .val (.int pb), .val (.ref ab), x10, .val (.int pl), .val (.int (1 : Int32))] [(.int (own_exp (14 : Int32) pa pl val pb)), (.int (1 : Int32))])) _
  refine XS.bipush X.here hx rfl (hb hby at_592) ?_
  show Steps p.tables e below (T.setTop (mkF m 594 #[x0, x1, x2, x3, x4, .val (.long val), .second, .val (.int pa), .val (.int pb), .val (.ref ab), x10, .val (.int pl), .val (.int (1 : Int32))] [(.int (14 : Int32)), (.int (own_exp (14 : Int32) pa pl val pb)), (.int (1 : Int32))])) _
  refine XS.iload X.here hx rfl (hb hby at_594) rfl ?_
  show Steps p.tables e below (T.setTop (mkF m 596 #[x0, x1, x2, x3, x4, .val (.long val), .second, .val (.int pa), .val (.int pb), .val (.ref ab), x10, .val (.int pl), .val (.int (1 : Int32))] [(.int pa), (.int (14 : Int32)), (.int (own_exp (14 : Int32) pa pl val pb)), (.int (1 : Int32))])) _
  refine XS.iload X.here hx rfl (hb hby at_596) rfl ?_
  show Steps p.tables e below (T.setTop (mkF m 598 #[x0, x1, x2, x3, x4, .val (.long val), .second, .val (.int pa), .val (.int pb), .val (.ref ab), x10, .val (.int pl), .val (.int (1 : Int32))] [(.int pl), (.int pa), (.int (14 : Int32)), (.int (own_exp (14 : Int32) pa pl val pb)), (.int (1 : Int32))])) _
  refine XT.lload X.here hx rfl (hb hby at_598) rfl ?_
  show Steps p.tables e below (T.setTop (mkF m 600 #[x0, x1, x2, x3, x4, .val (.long val), .second, .val (.int pa), .val (.int pb), .val (.ref ab), x10, .val (.int pl), .val (.int (1 : Int32))] [(.long val), (.int pl), (.int pa), (.int (14 : Int32)), (.int (own_exp (14 : Int32) pa pl val pb)), (.int (1 : Int32))])) _
  refine XS.iload X.here hx rfl (hb hby at_600) rfl ?_
  show Steps p.tables e below (T.setTop (mkF m 602 #[x0, x1, x2, x3, x4, .val (.long val), .second, .val (.int pa), .val (.int pb), .val (.ref ab), x10, .val (.int pl), .val (.int (1 : Int32))] [(.int pb), (.long val), (.int pl), (.int pa), (.int (14 : Int32)), (.int (own_exp (14 : Int32) pa pl val pb)), (.int (1 : Int32))])) _
  refine st61 _ ?_
  show Steps p.tables e below (T61.setTop (mkF m 605 #[x0, x1, x2, x3, x4, .val (.long val), .second, .val (.int pa), .val (.int pb), .val (.ref ab), x10, .val (.int pl), .val (.int (1 : Int32))] [(.int (own_exp (14 : Int32) pa pl val pb)), (.int (own_exp (14 : Int32) pa pl val pb)), (.int (1 : Int32))])) _
  refine XS.icmpNo X61.here hx rfl (hb hby at_605) rfl (XT.ii_ne_f rfl) ?_
  show Steps p.tables e below (T61.setTop (mkF m 608 #[x0, x1, x2, x3, x4, .val (.long val), .second, .val (.int pa), .val (.int pb), .val (.ref ab), x10, .val (.int pl), .val (.int (1 : Int32))] [(.int (1 : Int32))])) _
  refine XS.iconst X61.here hx rfl (hb hby at_608) ?_
  show Steps p.tables e below (T61.setTop (mkF m 609 #[x0, x1, x2, x3, x4, .val (.long val), .second, .val (.int pa), .val (.int pb), .val (.ref ab), x10, .val (.int pl), .val (.int (1 : Int32))] [(.int (1 : Int32)), (.int (1 : Int32))])) _
  refine XS.goto X61.here hx rfl (pc0 := 609) (pc' := 613) rfl (hb hby at_609) (by decide) (by decide) ?_
  show Steps p.tables e below (T61.setTop (mkF m 613 #[x0, x1, x2, x3, x4, .val (.long val), .second, .val (.int pa), .val (.int pb), .val (.ref ab), x10, .val (.int pl), .val (.int (1 : Int32))] [(.int (1 : Int32)), (.int (1 : Int32))])) _
  refine XS.iand X61.here hx rfl (hb hby at_613) rfl ?_
  show Steps p.tables e below (T61.setTop (mkF m 614 #[x0, x1, x2, x3, x4, .val (.long val), .second, .val (.int pa), .val (.int pb), .val (.ref ab), x10, .val (.int pl), .val (.int (1 : Int32))] [(.int (1 : Int32))])) _
  refine XS.istore X61.here hx rfl (hb hby at_614) rfl (l' := #[x0, x1, x2, x3, x4, .val (.long val), .second, .val (.int pa), .val (.int pb), .val (.ref ab), x10, .val (.int pl), .val (.int (1 : Int32))]) rfl ?_
  show Steps p.tables e below (T61.setTop (mkF m 616 #[x0, x1, x2, x3, x4, .val (.long val), .second, .val (.int pa), .val (.int pb), .val (.ref ab), x10, .val (.int pl), .val (.int (1 : Int32))] [])) _
  exact k
set_option maxRecDepth 65536 in
set_option maxHeartbeats 40000000 in
theorem own_ck15 {p : Program} {l : Launch} {e : Env} {s : State} {m : MethodId} {args : Array Value} {below : List Frame} {meth : Method} {c : Code} {T : State} {locs : List Loc} {Z : State} {a0 : Array Value} {h : Heap} {n0 : Nat} (hw : ∀ d ∈ tables_1, d.before a0 Z = true) (X : Stand p l e room_1 s m args below meth c T locs 1 16) (hx : p.tables.exec = Jvm.exec) (hZ : Z.Warmed39 s.vm) (hby : c.code = code) (hml : c.maxLocals = 13) (hown : s.vm.findClass "com/example/xml_element_search/xmlelementsearch/VarLongPutPinLaw" = some m.cls) (eT : T.heap = h) (N : Fr n0 locs) (Z0 : n0 ≤ h.size) (x0 : Slot) (x1 : Slot) (x2 : Slot) (x3 : Slot) (x4 : Slot) (val : Int64) (pa : Int32) (pb : Int32) (ab : Addr) (x10 : Slot) (pl : Int32) (k : ClassId) (f : Nat → Value) (V_ : Arf Z h ab k .byte 16 f) (hv : f 15 = .int (own_exp (15 : Int32) pa pl val pb)) :
    ∃ T' L', Stand p l e room_1 s m args below meth c T' L' 1 16 ∧ T'.heap = h ∧ Fr n0 L' ∧ ∀ target, Steps p.tables e below (T'.setTop (mkF m 647 #[x0, x1, x2, x3, x4, .val (.long val), .second, .val (.int pa), .val (.int pb), .val (.ref ab), x10, .val (.int pl), .val (.int (1 : Int32))] [])) target → Steps p.tables e below (T.setTop (mkF m 616 #[x0, x1, x2, x3, x4, .val (.long val), .second, .val (.int pa), .val (.int pb), .val (.ref ab), x10, .val (.int pl), .val (.int (1 : Int32))] [])) target := by
  obtain ⟨cl62, Ar62, qk62, S62, B62, H62, G62⟩ := id V_
  have hin62 : ¬ ((15 : Int32) < 0 ∨ cl62.slots.size ≤ ((15 : Int32)).toNatClampNeg) := own_inb S62 ⟨by decide, rfl⟩ (by decide)
  have hat62 : cl62.slots[((15 : Int32)).toNatClampNeg]? = some (.int (own_exp (15 : Int32) pa pl val pb)) := own_hat H62 ⟨by decide, rfl⟩ (by decide) hv
  obtain ⟨_, _, ⟨T63, L63, k63, n63⟩, -, X63, ⟨Lc63, hQ63, l63, y63, z63⟩, st63⟩ := Jvm.LawKit.callS X hx (y := (⟨"com/example/xml_element_search/xmlelementsearch/VarLongPutPinLaw", "expected", "(IIIJB)B"⟩ : MethodName)) hown (mvT hZ (hw _ (List.mem_of_getElem? (i := 10) rfl))) (mvT hZ (hw _ (List.mem_of_getElem? (i := 11) rfl))) (mvT hZ (hw _ (List.mem_of_getElem? (i := 8) rfl))) (mvT hZ (hw _ (List.mem_of_getElem? (i := 12) rfl))) (by decide) (backOf (W := 2) (own_expd l Z a0 hw [] (15 : Int32) pa pl val pb h n0 Z0 ) hZ (hw _ (List.mem_of_getElem? (i := 12) rfl)) (hw _ (List.mem_of_getElem? (i := 8) rfl)) (by decide) (by decide)) (g := (mkF m 633 #[x0, x1, x2, x3, x4, .val (.long val), .second, .val (.int pa), .val (.int pb), .val (.ref ab), x10, .val (.int pl), .val (.int (1 : Int32))] [(.int pb), (.long val), (.int pl), (.int pa), (.int (15 : Int32)), (.int (own_exp (15 : Int32) pa pl val pb)), (.int (1 : Int32))])) rfl (by rw [hml]; rfl) (argsL := [(.int (15 : Int32)), (.int pa), (.int pl), (.long val), (.int pb)]) (rest := [(.int (own_exp (15 : Int32) pa pl val pb)), (.int (1 : Int32))]) (lenOf pd_0 rfl) rfl (by show 2 * 0 + _ ≤ _; exact Nat.le_of_eq rfl) (hb hby at_633) (fun _ _ => ⟨rfl, eT, (by decide : 1 + 0 ≤ _), (by decide : 16 + 0 ≤ _)⟩)
  dsimp only [Pt.U, Pt.locs, Pt.cells, Pt.slots] at X63 l63 y63 z63 st63 hQ63
  subst l63 y63 z63
  obtain ⟨rfl, N63q, eh63⟩ := hQ63
  have N63 := Fr.app N N63q
  refine ⟨T63, _, X63, eh63, N63, fun target k => ?_⟩
  show Steps p.tables e below (T.setTop (mkF m 616 #[x0, x1, x2, x3, x4, .val (.long val), .second, .val (.int pa), .val (.int pb), .val (.ref ab), x10, .val (.int pl), .val (.int (1 : Int32))] [])) _
  refine XS.iload X.here hx rfl (hb hby at_616) rfl ?_
  show Steps p.tables e below (T.setTop (mkF m 618 #[x0, x1, x2, x3, x4, .val (.long val), .second, .val (.int pa), .val (.int pb), .val (.ref ab), x10, .val (.int pl), .val (.int (1 : Int32))] [(.int (1 : Int32))])) _
  refine XS.aload X.here hx rfl (hb hby at_618) rfl rfl ?_
  show Steps p.tables e below (T.setTop (mkF m 620 #[x0, x1, x2, x3, x4, .val (.long val), .second, .val (.int pa), .val (.int pb), .val (.ref ab), x10, .val (.int pl), .val (.int (1 : Int32))] [(.ref ab), (.int (1 : Int32))])) _
  refine XS.bipush X.here hx rfl (hb hby at_620) ?_
  show Steps p.tables e below (T.setTop (mkF m 622 #[x0, x1, x2, x3, x4, .val (.long val), .second, .val (.int pa), .val (.int pb), .val (.ref ab), x10, .val (.int pl), .val (.int (1 : Int32))] [(.int (15 : Int32)), (.ref ab), (.int (1 : Int32))])) _
  refine X.baloadBytes hx (j := (15 : Int32)) (v := (.int (own_exp (15 : Int32) pa pl val pb))) (by rw [eT]; exact Ar62.1) (State.isArrayOf_alike hZ.alike Ar62.2.1) Ar62.2.2 hin62 hat62 (g := (mkF m 622 #[x0, x1, x2, x3, x4, .val (.long val), .second, .val (.int pa), .val (.int pb), .val (.ref ab), x10, .val (.int pl), .val (.int (1 : Int32))] [(.int (15 : Int32)), (.ref ab), (.int (1 : Int32))])) rfl rfl (hb hby at_622) _ ?_
  show Steps p.tables e below (T.setTop (mkF m 623 #[x0, x1, x2, x3, x4, .val (.long val), .second, .val (.int pa), .val (.int pb), .val (.ref ab), x10, .val (.int pl), .val (.int (1 : Int32))] [(.int (own_exp (15 : Int32) pa pl val pb)), (.int (1 : Int32))])) _
  refine XS.bipush X.here hx rfl (hb hby at_623) ?_
  show Steps p.tables e below (T.setTop (mkF m 625 #[x0, x1, x2, x3, x4, .val (.long val), .second, .val (.int pa), .val (.int pb), .val (.ref ab), x10, .val (.int pl), .val (.int (1 : Int32))] [(.int (15 : Int32)), (.int (own_exp (15 : Int32) pa pl val pb)), (.int (1 : Int32))])) _
  refine XS.iload X.here hx rfl (hb hby at_625) rfl ?_
  show Steps p.tables e below (T.setTop (mkF m 627 #[x0, x1, x2, x3, x4, .val (.long val), .second, .val (.int pa), .val (.int pb), .val (.ref ab), x10, .val (.int pl), .val (.int (1 : Int32))] [(.int pa), (.int (15 : Int32)), (.int (own_exp (15 : Int32) pa pl val pb)), (.int (1 : Int32))])) _
  refine XS.iload X.here hx rfl (hb hby at_627) rfl ?_
  show Steps p.tables e below (T.setTop (mkF m 629 #[x0, x1, x2, x3, x4, .val (.long val), .second, .val (.int pa), .val (.int pb), .val (.ref ab), x10, .val (.int pl), .val (.int (1 : Int32))] [(.int pl), (.int pa), (.int (15 : Int32)), (.int (own_exp (15 : Int32) pa pl val pb)), (.int (1 : Int32))])) _
  refine XT.lload X.here hx rfl (hb hby at_629) rfl ?_
  show Steps p.tables e below (T.setTop (mkF m 631 #[x0, x1, x2, x3, x4, .val (.long val), .second, .val (.int pa), .val (.int pb), .val (.ref ab), x10, .val (.int pl), .val (.int (1 : Int32))] [(.long val), (.int pl), (.int pa), (.int (15 : Int32)), (.int (own_exp (15 : Int32) pa pl val pb)), (.int (1 : Int32))])) _
  refine XS.iload X.here hx rfl (hb hby at_631) rfl ?_
  show Steps p.tables e below (T.setTop (mkF m 633 #[x0, x1, x2, x3, x4, .val (.long val), .second, .val (.int pa), .val (.int pb), .val (.ref ab), x10, .val (.int pl), .val (.int (1 : Int32))] [(.int pb), (.long val), (.int pl), (.int pa), (.int (15 : Int32)), (.int (own_exp (15 : Int32) pa pl val pb)), (.int (1 : Int32))])) _
  refine st63 _ ?_
  show Steps p.tables e below (T63.setTop (mkF m 636 #[x0, x1, x2, x3, x4, .val (.long val), .second, .val (.int pa), .val (.int pb), .val (.ref ab), x10, .val (.int pl), .val (.int (1 : Int32))] [(.int (own_exp (15 : Int32) pa pl val pb)), (.int (own_exp (15 : Int32) pa pl val pb)), (.int (1 : Int32))])) _
  refine XS.icmpNo X63.here hx rfl (hb hby at_636) rfl (XT.ii_ne_f rfl) ?_
  show Steps p.tables e below (T63.setTop (mkF m 639 #[x0, x1, x2, x3, x4, .val (.long val), .second, .val (.int pa), .val (.int pb), .val (.ref ab), x10, .val (.int pl), .val (.int (1 : Int32))] [(.int (1 : Int32))])) _
  refine XS.iconst X63.here hx rfl (hb hby at_639) ?_
  show Steps p.tables e below (T63.setTop (mkF m 640 #[x0, x1, x2, x3, x4, .val (.long val), .second, .val (.int pa), .val (.int pb), .val (.ref ab), x10, .val (.int pl), .val (.int (1 : Int32))] [(.int (1 : Int32)), (.int (1 : Int32))])) _
  refine XS.goto X63.here hx rfl (pc0 := 640) (pc' := 644) rfl (hb hby at_640) (by decide) (by decide) ?_
  show Steps p.tables e below (T63.setTop (mkF m 644 #[x0, x1, x2, x3, x4, .val (.long val), .second, .val (.int pa), .val (.int pb), .val (.ref ab), x10, .val (.int pl), .val (.int (1 : Int32))] [(.int (1 : Int32)), (.int (1 : Int32))])) _
  refine XS.iand X63.here hx rfl (hb hby at_644) rfl ?_
  show Steps p.tables e below (T63.setTop (mkF m 645 #[x0, x1, x2, x3, x4, .val (.long val), .second, .val (.int pa), .val (.int pb), .val (.ref ab), x10, .val (.int pl), .val (.int (1 : Int32))] [(.int (1 : Int32))])) _
  refine XS.istore X63.here hx rfl (hb hby at_645) rfl (l' := #[x0, x1, x2, x3, x4, .val (.long val), .second, .val (.int pa), .val (.int pb), .val (.ref ab), x10, .val (.int pl), .val (.int (1 : Int32))]) rfl ?_
  show Steps p.tables e below (T63.setTop (mkF m 647 #[x0, x1, x2, x3, x4, .val (.long val), .second, .val (.int pa), .val (.int pb), .val (.ref ab), x10, .val (.int pl), .val (.int (1 : Int32))] [])) _
  exact k
theorem pn_own_law : plainName "com/example/xml_element_search/xmlelementsearch/VarLongPutPinLaw" = true := by first | (simp [plainName, overriddenIn]; done) | decide +kernel
theorem ef_own_law (m : MethodId) (x0 : Int64) (x1 : Int32) (x2 : Int32) (x3 : Int32) : entryFrame m #[(.long x0), (.int x1), (.int x2), (.int x3)] maxLocals = mkF m 0 #[.val (.long x0), .second, .val (.int x1), .val (.int x2), .val (.int x3), .unset, .unset, .unset, .unset, .unset, .unset, .unset, .unset] [] := by first | (simp [entryFrame, mkF, argsToLocals, Value.category, maxLocals]; done) | rfl
def Q_own_law (Z : State) (p0 : Int64) (p1 : Int32) (p2 : Int32) (p3 : Int32) (val : Int64) (at_ : Nat) (L_ : Nat) (h0 : Heap) (n0 : Nat) (v : Option Value) (h : Heap) (L : List Loc) : Prop := v = some (.int 1) ∧ Fr n0 L
set_option maxRecDepth 65536 in
set_option maxHeartbeats 40000000 in
theorem own_law (l : Launch) (Z : State) (a0 : Array Value) (hw : ∀ d ∈ tables_1, d.before a0 Z = true) (ws : List Jvm.Cond) (p0 : Int64) (p1 : Int32) (p2 : Int32) (p3 : Int32) (val : Int64) (at_ : Nat) (L_ : Nat) (h0 : Heap) (n0 : Nat) (Z0 : n0 ≤ h0.size) (hval : (XT.ushrL p0 (p1 &&& (63 : Int32))) = val) (hat_ : (p2 &&& (3 : Int32)) = at_.toInt32) (hat : at_ < 4) (hL0 : 1 ≤ L_) (hL : L_ ≤ 10) (H1 : ∀ t, t + 1 < L_ → ¬ (own_r val t &&& (-128 : Int64)) = (0 : Int64)) (H2 : (own_r val (L_ - 1) &&& (-128 : Int64)) = (0 : Int64)) (hlen : own_len val = L_.toInt32) :
    MetFree l x (head1 (Jvm.Cond.code x code maxLocals ret :: ws) room_1) (fun a U => a = #[(.long p0), (.int p1), (.int p2), (.int p3)] ∧ Z.Warmed39 U.vm ∧ U.heap = h0) (fun _ _ _ _ _ => True) (fun _ U o U' => ∃ v L, o = .returned v ∧ Q_own_law Z p0 p1 p2 p3 val at_ L_ h0 n0 v U'.heap L ∧ FrameEnd U o U' L 16 128) := by
  refine MetFree.of_bodySF (plainFor_of_name pn_own_law) hisR ?_
  intro p e s m args below meth c s₁ Bd hml0 hP hK
  obtain ⟨rfl, hZ, hh⟩ := hP
  have hx := Bd.exec
  have hby := Bd.bytes
  have hml : c.maxLocals = 13 := hml0
  have hown : s.vm.findClass "com/example/xml_element_search/xmlelementsearch/VarLongPutPinLaw" = some m.cls := findClass_of_methodNamed Bd.named
  have hnm := (name_of_methodNamed Bd.named Bd.method).1
  have X0 : Stand p l e room_1 s m #[(.long p0), (.int p1), (.int p2), (.int p3)] below meth c s₁ [] 0 0 := Stand.of_body Bd
  have e0 : s₁.heap = h0 := by rw [← hh, Bd.state]; rfl
  have N0 := Fr.nil n0
  have pre0 : ∀ t, Steps p.tables e below (s₁.setTop (mkF m 0 #[.val (.long p0), .second, .val (.int p1), .val (.int p2), .val (.int p3), .unset, .unset, .unset, .unset, .unset, .unset, .unset, .unset] [])) t → Steps p.tables e below (s₁.setTop (entryFrame m #[(.long p0), (.int p1), (.int p2), (.int p3)] maxLocals)) t := fun t k => castTop (ef_own_law m (p0) (p1) (p2) (p3)) k
  obtain ⟨T64, h64, k64, X64, e64, E64, A64, st64⟩ := newP X0 hx hZ (hw _ (List.mem_of_getElem? (i := 0) rfl)) e0 (g := (mkF m 20 #[.val (.long p0), .second, .val (.int p1), .val (.int p2), .val (.int p3), .val (.long val), .second, .val (.int at_.toInt32), .val (.int p3.toInt8.toInt32), .unset, .unset, .unset, .unset] [(.int (16 : Int32))])) rfl (hb hby at_20) rfl (by decide) (cap := 16) (by decide) (by decide) (by decide) (by decide)
  obtain ⟨b64, g64⟩ : ∃ z, z = h0.size := ⟨_, rfl⟩
  rw [← g64] at A64 st64
  have g_b64 : n0 ≤ b64 := Nat.le_trans Z0 (Nat.le_of_eq g64.symm)
  have V64 := Arf.new (n := 16) A64 (by decide) rfl
  obtain ⟨T65, h65, L65, X65, e65, N65, K65, V65, st65⟩ := own_st0 hw X64 hx hZ hby hml hown e64 N0 (Nat.le_trans Z0 E64.1) (.val (.long p0)) (.second) (.val (.int p1)) (.val (.int p2)) (.val (.int p3)) (.val (.long val)) (.second) (.val (.int at_.toInt32)) p3.toInt8.toInt32 b64 (.unset) (.unset) (.unset) k64 (fun _ => (.int 0)) g_b64 V64
  obtain ⟨T66, h66, L66, X66, e66, N66, K66, V66, st66⟩ := own_st1 hw X65 hx hZ hby hml hown e65 N65 (Nat.le_trans (Nat.le_trans Z0 E64.1) K65.1) (.val (.long p0)) (.second) (.val (.int p1)) (.val (.int p2)) (.val (.int p3)) (.val (.long val)) (.second) (.val (.int at_.toInt32)) p3.toInt8.toInt32 b64 (.unset) (.unset) (.unset) k64 (upd (upd (upd (upd (fun _ => (.int 0)) 0 (.int p3.toInt8.toInt32.toInt8.toInt32)) 1 (.int p3.toInt8.toInt32.toInt8.toInt32)) 2 (.int p3.toInt8.toInt32.toInt8.toInt32)) 3 (.int p3.toInt8.toInt32.toInt8.toInt32)) g_b64 V65
  obtain ⟨T67, h67, L67, X67, e67, N67, K67, V67, st67⟩ := own_st2 hw X66 hx hZ hby hml hown e66 N66 (Nat.le_trans (Nat.le_trans (Nat.le_trans Z0 E64.1) K65.1) K66.1) (.val (.long p0)) (.second) (.val (.int p1)) (.val (.int p2)) (.val (.int p3)) (.val (.long val)) (.second) (.val (.int at_.toInt32)) p3.toInt8.toInt32 b64 (.unset) (.unset) (.unset) k64 (upd (upd (upd (upd (upd (upd (upd (upd (fun _ => (.int 0)) 0 (.int p3.toInt8.toInt32.toInt8.toInt32)) 1 (.int p3.toInt8.toInt32.toInt8.toInt32)) 2 (.int p3.toInt8.toInt32.toInt8.toInt32)) 3 (.int p3.toInt8.toInt32.toInt8.toInt32)) 4 (.int p3.toInt8.toInt32.toInt8.toInt32)) 5 (.int p3.toInt8.toInt32.toInt8.toInt32)) 6 (.int p3.toInt8.toInt32.toInt8.toInt32)) 7 (.int p3.toInt8.toInt32.toInt8.toInt32)) g_b64 V66
  obtain ⟨T68, h68, L68, X68, e68, N68, K68, V68, st68⟩ := own_st3 hw X67 hx hZ hby hml hown e67 N67 (Nat.le_trans (Nat.le_trans (Nat.le_trans (Nat.le_trans Z0 E64.1) K65.1) K66.1) K67.1) (.val (.long p0)) (.second) (.val (.int p1)) (.val (.int p2)) (.val (.int p3)) (.val (.long val)) (.second) (.val (.int at_.toInt32)) p3.toInt8.toInt32 b64 (.unset) (.unset) (.unset) k64 (upd (upd (upd (upd (upd (upd (upd (upd (upd (upd (upd (upd (fun _ => (.int 0)) 0 (.int p3.toInt8.toInt32.toInt8.toInt32)) 1 (.int p3.toInt8.toInt32.toInt8.toInt32)) 2 (.int p3.toInt8.toInt32.toInt8.toInt32)) 3 (.int p3.toInt8.toInt32.toInt8.toInt32)) 4 (.int p3.toInt8.toInt32.toInt8.toInt32)) 5 (.int p3.toInt8.toInt32.toInt8.toInt32)) 6 (.int p3.toInt8.toInt32.toInt8.toInt32)) 7 (.int p3.toInt8.toInt32.toInt8.toInt32)) 8 (.int p3.toInt8.toInt32.toInt8.toInt32)) 9 (.int p3.toInt8.toInt32.toInt8.toInt32)) 10 (.int p3.toInt8.toInt32.toInt8.toInt32)) 11 (.int p3.toInt8.toInt32.toInt8.toInt32)) g_b64 V67
  have Vf := (V68).eq (own_fill p3.toInt8.toInt32.toInt8.toInt32)
  obtain ⟨_, _, ⟨T69, L69, k69, n69⟩, -, X69, ⟨Lc69, hQ69, l69, y69, z69⟩, st69⟩ := Jvm.LawKit.callS X68 hx (y := (⟨"com/example/xml_element_search/xmlelementsearch/VarLong", "put", "([BIJ)I"⟩ : MethodName)) hown (mvT hZ (hw _ (List.mem_of_getElem? (i := 1) rfl))) (mvT hZ (hw _ (List.mem_of_getElem? (i := 2) rfl))) (mvT hZ (hw _ (List.mem_of_getElem? (i := 3) rfl))) (mvT hZ (hw _ (List.mem_of_getElem? (i := 4) rfl))) (by decide) (backOf (W := 0) (own_put l Z a0 hw [] b64 val at_ L_ k64 (fun _ => .int p3.toInt8.toInt32.toInt8.toInt32) h68 n0 (Nat.le_trans (Nat.le_trans (Nat.le_trans (Nat.le_trans (Nat.le_trans Z0 E64.1) K65.1) K66.1) K67.1) K68.1) hat hL0 hL H1 H2 g_b64 Vf) hZ (hw _ (List.mem_of_getElem? (i := 4) rfl)) (hw _ (List.mem_of_getElem? (i := 3) rfl)) (by decide) (by decide)) (g := (mkF m 136 #[.val (.long p0), .second, .val (.int p1), .val (.int p2), .val (.int p3), .val (.long val), .second, .val (.int at_.toInt32), .val (.int p3.toInt8.toInt32), .val (.ref b64), .unset, .unset, .unset] [(.long val), (.int at_.toInt32), (.ref b64)])) rfl (by rw [hml]; rfl) (argsL := [(.ref b64), (.int at_.toInt32), (.long val)]) (rest := []) (lenOf pd_1 rfl) rfl (by show 2 * 0 + _ ≤ _; exact Nat.le_of_eq rfl) (hb hby at_136) (fun _ _ => ⟨rfl, e68, (by decide : 1 + 0 ≤ _), (by decide : 16 + 0 ≤ _)⟩)
  dsimp only [Pt.U, Pt.locs, Pt.cells, Pt.slots] at X69 l69 y69 z69 st69 hQ69
  subst l69 y69 z69
  obtain ⟨rfl, N69q, K69, V69⟩ := hQ69
  have N69 := Fr.app N68 N69q
  obtain ⟨_, _, ⟨T70, L70, k70, n70⟩, -, X70, ⟨Lc70, hQ70, l70, y70, z70⟩, st70⟩ := Jvm.LawKit.callS X69 hx (y := (⟨"com/example/xml_element_search/xmlelementsearch/VarLongPutPinLaw", "lenOf", "(J)I"⟩ : MethodName)) hown (mvT hZ (hw _ (List.mem_of_getElem? (i := 6) rfl))) (mvT hZ (hw _ (List.mem_of_getElem? (i := 7) rfl))) (mvT hZ (hw _ (List.mem_of_getElem? (i := 8) rfl))) (mvT hZ (hw _ (List.mem_of_getElem? (i := 9) rfl))) (by decide) (backOf (W := 0) (own_lenOf l Z a0 hw [] val T69.heap n0 (Nat.le_trans (Nat.le_trans (Nat.le_trans (Nat.le_trans (Nat.le_trans (Nat.le_trans Z0 E64.1) K65.1) K66.1) K67.1) K68.1) K69.1) ) hZ (hw _ (List.mem_of_getElem? (i := 9) rfl)) (hw _ (List.mem_of_getElem? (i := 8) rfl)) (by decide) (by decide)) (g := (mkF m 143 #[.val (.long p0), .second, .val (.int p1), .val (.int p2), .val (.int p3), .val (.long val), .second, .val (.int at_.toInt32), .val (.int p3.toInt8.toInt32), .val (.ref b64), .val (.int (at_ + L_).toInt32), .unset, .unset] [(.long val)])) rfl (by rw [hml]; rfl) (argsL := [(.long val)]) (rest := []) (lenOf pd_2 rfl) rfl (by show 2 * 0 + _ ≤ _; exact Nat.le_of_eq rfl) (hb hby at_143) (fun _ _ => ⟨rfl, rfl, (by decide : 1 + 0 ≤ _), (by decide : 16 + 0 ≤ _)⟩)
  dsimp only [Pt.U, Pt.locs, Pt.cells, Pt.slots] at X70 l70 y70 z70 st70 hQ70
  subst l70 y70 z70
  obtain ⟨rfl, N70q, eh70⟩ := hQ70
  have N70 := Fr.app N69 N70q
  obtain ⟨T71, L71, X71, e71, N71, st71⟩ := own_ck0 hw X70 hx hZ hby hml hown eh70 N70 (Nat.le_trans (Nat.le_trans (Nat.le_trans (Nat.le_trans (Nat.le_trans (Nat.le_trans Z0 E64.1) K65.1) K66.1) K67.1) K68.1) K69.1) (.val (.long p0)) (.second) (.val (.int p1)) (.val (.int p2)) (.val (.int p3)) val at_.toInt32 p3.toInt8.toInt32 b64 (.val (.int (at_ + L_).toInt32)) L_.toInt32 k64 (own_fin (fun _ => .int p3.toInt8.toInt32.toInt8.toInt32) at_ L_ val) V69 (own_key at_ L_ val p3.toInt8.toInt32 hat hL0 hL H2 0 (by decide))
  obtain ⟨T72, L72, X72, e72, N72, st72⟩ := own_ck1 hw X71 hx hZ hby hml hown e71 N71 (Nat.le_trans (Nat.le_trans (Nat.le_trans (Nat.le_trans (Nat.le_trans (Nat.le_trans Z0 E64.1) K65.1) K66.1) K67.1) K68.1) K69.1) (.val (.long p0)) (.second) (.val (.int p1)) (.val (.int p2)) (.val (.int p3)) val at_.toInt32 p3.toInt8.toInt32 b64 (.val (.int (at_ + L_).toInt32)) L_.toInt32 k64 (own_fin (fun _ => .int p3.toInt8.toInt32.toInt8.toInt32) at_ L_ val) V69 (own_key at_ L_ val p3.toInt8.toInt32 hat hL0 hL H2 1 (by decide))
  obtain ⟨T73, L73, X73, e73, N73, st73⟩ := own_ck2 hw X72 hx hZ hby hml hown e72 N72 (Nat.le_trans (Nat.le_trans (Nat.le_trans (Nat.le_trans (Nat.le_trans (Nat.le_trans Z0 E64.1) K65.1) K66.1) K67.1) K68.1) K69.1) (.val (.long p0)) (.second) (.val (.int p1)) (.val (.int p2)) (.val (.int p3)) val at_.toInt32 p3.toInt8.toInt32 b64 (.val (.int (at_ + L_).toInt32)) L_.toInt32 k64 (own_fin (fun _ => .int p3.toInt8.toInt32.toInt8.toInt32) at_ L_ val) V69 (own_key at_ L_ val p3.toInt8.toInt32 hat hL0 hL H2 2 (by decide))
  obtain ⟨T74, L74, X74, e74, N74, st74⟩ := own_ck3 hw X73 hx hZ hby hml hown e73 N73 (Nat.le_trans (Nat.le_trans (Nat.le_trans (Nat.le_trans (Nat.le_trans (Nat.le_trans Z0 E64.1) K65.1) K66.1) K67.1) K68.1) K69.1) (.val (.long p0)) (.second) (.val (.int p1)) (.val (.int p2)) (.val (.int p3)) val at_.toInt32 p3.toInt8.toInt32 b64 (.val (.int (at_ + L_).toInt32)) L_.toInt32 k64 (own_fin (fun _ => .int p3.toInt8.toInt32.toInt8.toInt32) at_ L_ val) V69 (own_key at_ L_ val p3.toInt8.toInt32 hat hL0 hL H2 3 (by decide))
  obtain ⟨T75, L75, X75, e75, N75, st75⟩ := own_ck4 hw X74 hx hZ hby hml hown e74 N74 (Nat.le_trans (Nat.le_trans (Nat.le_trans (Nat.le_trans (Nat.le_trans (Nat.le_trans Z0 E64.1) K65.1) K66.1) K67.1) K68.1) K69.1) (.val (.long p0)) (.second) (.val (.int p1)) (.val (.int p2)) (.val (.int p3)) val at_.toInt32 p3.toInt8.toInt32 b64 (.val (.int (at_ + L_).toInt32)) L_.toInt32 k64 (own_fin (fun _ => .int p3.toInt8.toInt32.toInt8.toInt32) at_ L_ val) V69 (own_key at_ L_ val p3.toInt8.toInt32 hat hL0 hL H2 4 (by decide))
  obtain ⟨T76, L76, X76, e76, N76, st76⟩ := own_ck5 hw X75 hx hZ hby hml hown e75 N75 (Nat.le_trans (Nat.le_trans (Nat.le_trans (Nat.le_trans (Nat.le_trans (Nat.le_trans Z0 E64.1) K65.1) K66.1) K67.1) K68.1) K69.1) (.val (.long p0)) (.second) (.val (.int p1)) (.val (.int p2)) (.val (.int p3)) val at_.toInt32 p3.toInt8.toInt32 b64 (.val (.int (at_ + L_).toInt32)) L_.toInt32 k64 (own_fin (fun _ => .int p3.toInt8.toInt32.toInt8.toInt32) at_ L_ val) V69 (own_key at_ L_ val p3.toInt8.toInt32 hat hL0 hL H2 5 (by decide))
  obtain ⟨T77, L77, X77, e77, N77, st77⟩ := own_ck6 hw X76 hx hZ hby hml hown e76 N76 (Nat.le_trans (Nat.le_trans (Nat.le_trans (Nat.le_trans (Nat.le_trans (Nat.le_trans Z0 E64.1) K65.1) K66.1) K67.1) K68.1) K69.1) (.val (.long p0)) (.second) (.val (.int p1)) (.val (.int p2)) (.val (.int p3)) val at_.toInt32 p3.toInt8.toInt32 b64 (.val (.int (at_ + L_).toInt32)) L_.toInt32 k64 (own_fin (fun _ => .int p3.toInt8.toInt32.toInt8.toInt32) at_ L_ val) V69 (own_key at_ L_ val p3.toInt8.toInt32 hat hL0 hL H2 6 (by decide))
  obtain ⟨T78, L78, X78, e78, N78, st78⟩ := own_ck7 hw X77 hx hZ hby hml hown e77 N77 (Nat.le_trans (Nat.le_trans (Nat.le_trans (Nat.le_trans (Nat.le_trans (Nat.le_trans Z0 E64.1) K65.1) K66.1) K67.1) K68.1) K69.1) (.val (.long p0)) (.second) (.val (.int p1)) (.val (.int p2)) (.val (.int p3)) val at_.toInt32 p3.toInt8.toInt32 b64 (.val (.int (at_ + L_).toInt32)) L_.toInt32 k64 (own_fin (fun _ => .int p3.toInt8.toInt32.toInt8.toInt32) at_ L_ val) V69 (own_key at_ L_ val p3.toInt8.toInt32 hat hL0 hL H2 7 (by decide))
  obtain ⟨T79, L79, X79, e79, N79, st79⟩ := own_ck8 hw X78 hx hZ hby hml hown e78 N78 (Nat.le_trans (Nat.le_trans (Nat.le_trans (Nat.le_trans (Nat.le_trans (Nat.le_trans Z0 E64.1) K65.1) K66.1) K67.1) K68.1) K69.1) (.val (.long p0)) (.second) (.val (.int p1)) (.val (.int p2)) (.val (.int p3)) val at_.toInt32 p3.toInt8.toInt32 b64 (.val (.int (at_ + L_).toInt32)) L_.toInt32 k64 (own_fin (fun _ => .int p3.toInt8.toInt32.toInt8.toInt32) at_ L_ val) V69 (own_key at_ L_ val p3.toInt8.toInt32 hat hL0 hL H2 8 (by decide))
  obtain ⟨T80, L80, X80, e80, N80, st80⟩ := own_ck9 hw X79 hx hZ hby hml hown e79 N79 (Nat.le_trans (Nat.le_trans (Nat.le_trans (Nat.le_trans (Nat.le_trans (Nat.le_trans Z0 E64.1) K65.1) K66.1) K67.1) K68.1) K69.1) (.val (.long p0)) (.second) (.val (.int p1)) (.val (.int p2)) (.val (.int p3)) val at_.toInt32 p3.toInt8.toInt32 b64 (.val (.int (at_ + L_).toInt32)) L_.toInt32 k64 (own_fin (fun _ => .int p3.toInt8.toInt32.toInt8.toInt32) at_ L_ val) V69 (own_key at_ L_ val p3.toInt8.toInt32 hat hL0 hL H2 9 (by decide))
  obtain ⟨T81, L81, X81, e81, N81, st81⟩ := own_ck10 hw X80 hx hZ hby hml hown e80 N80 (Nat.le_trans (Nat.le_trans (Nat.le_trans (Nat.le_trans (Nat.le_trans (Nat.le_trans Z0 E64.1) K65.1) K66.1) K67.1) K68.1) K69.1) (.val (.long p0)) (.second) (.val (.int p1)) (.val (.int p2)) (.val (.int p3)) val at_.toInt32 p3.toInt8.toInt32 b64 (.val (.int (at_ + L_).toInt32)) L_.toInt32 k64 (own_fin (fun _ => .int p3.toInt8.toInt32.toInt8.toInt32) at_ L_ val) V69 (own_key at_ L_ val p3.toInt8.toInt32 hat hL0 hL H2 10 (by decide))
  obtain ⟨T82, L82, X82, e82, N82, st82⟩ := own_ck11 hw X81 hx hZ hby hml hown e81 N81 (Nat.le_trans (Nat.le_trans (Nat.le_trans (Nat.le_trans (Nat.le_trans (Nat.le_trans Z0 E64.1) K65.1) K66.1) K67.1) K68.1) K69.1) (.val (.long p0)) (.second) (.val (.int p1)) (.val (.int p2)) (.val (.int p3)) val at_.toInt32 p3.toInt8.toInt32 b64 (.val (.int (at_ + L_).toInt32)) L_.toInt32 k64 (own_fin (fun _ => .int p3.toInt8.toInt32.toInt8.toInt32) at_ L_ val) V69 (own_key at_ L_ val p3.toInt8.toInt32 hat hL0 hL H2 11 (by decide))
  obtain ⟨T83, L83, X83, e83, N83, st83⟩ := own_ck12 hw X82 hx hZ hby hml hown e82 N82 (Nat.le_trans (Nat.le_trans (Nat.le_trans (Nat.le_trans (Nat.le_trans (Nat.le_trans Z0 E64.1) K65.1) K66.1) K67.1) K68.1) K69.1) (.val (.long p0)) (.second) (.val (.int p1)) (.val (.int p2)) (.val (.int p3)) val at_.toInt32 p3.toInt8.toInt32 b64 (.val (.int (at_ + L_).toInt32)) L_.toInt32 k64 (own_fin (fun _ => .int p3.toInt8.toInt32.toInt8.toInt32) at_ L_ val) V69 (own_key at_ L_ val p3.toInt8.toInt32 hat hL0 hL H2 12 (by decide))
  obtain ⟨T84, L84, X84, e84, N84, st84⟩ := own_ck13 hw X83 hx hZ hby hml hown e83 N83 (Nat.le_trans (Nat.le_trans (Nat.le_trans (Nat.le_trans (Nat.le_trans (Nat.le_trans Z0 E64.1) K65.1) K66.1) K67.1) K68.1) K69.1) (.val (.long p0)) (.second) (.val (.int p1)) (.val (.int p2)) (.val (.int p3)) val at_.toInt32 p3.toInt8.toInt32 b64 (.val (.int (at_ + L_).toInt32)) L_.toInt32 k64 (own_fin (fun _ => .int p3.toInt8.toInt32.toInt8.toInt32) at_ L_ val) V69 (own_key at_ L_ val p3.toInt8.toInt32 hat hL0 hL H2 13 (by decide))
  obtain ⟨T85, L85, X85, e85, N85, st85⟩ := own_ck14 hw X84 hx hZ hby hml hown e84 N84 (Nat.le_trans (Nat.le_trans (Nat.le_trans (Nat.le_trans (Nat.le_trans (Nat.le_trans Z0 E64.1) K65.1) K66.1) K67.1) K68.1) K69.1) (.val (.long p0)) (.second) (.val (.int p1)) (.val (.int p2)) (.val (.int p3)) val at_.toInt32 p3.toInt8.toInt32 b64 (.val (.int (at_ + L_).toInt32)) L_.toInt32 k64 (own_fin (fun _ => .int p3.toInt8.toInt32.toInt8.toInt32) at_ L_ val) V69 (own_key at_ L_ val p3.toInt8.toInt32 hat hL0 hL H2 14 (by decide))
  obtain ⟨T86, L86, X86, e86, N86, st86⟩ := own_ck15 hw X85 hx hZ hby hml hown e85 N85 (Nat.le_trans (Nat.le_trans (Nat.le_trans (Nat.le_trans (Nat.le_trans (Nat.le_trans Z0 E64.1) K65.1) K66.1) K67.1) K68.1) K69.1) (.val (.long p0)) (.second) (.val (.int p1)) (.val (.int p2)) (.val (.int p3)) val at_.toInt32 p3.toInt8.toInt32 b64 (.val (.int (at_ + L_).toInt32)) L_.toInt32 k64 (own_fin (fun _ => .int p3.toInt8.toInt32.toInt8.toInt32) at_ L_ val) V69 (own_key at_ L_ val p3.toInt8.toInt32 hat hL0 hL H2 15 (by decide))
  obtain ⟨fs, hr, hrun, hended, hW, hsame⟩ := X86.leave (v := some (.int (1 : Int32))) (fun h => by rw [Bd.returns] at h; cases h)
  refine ⟨_, _, pre0 _ ?_, hrun, hended, _, _, rfl, ?_, ⟨_, rfl⟩, hW, hsame.mono (by decide) (by decide)⟩
  · show Steps p.tables e below (s₁.setTop (mkF m 0 #[.val (.long p0), .second, .val (.int p1), .val (.int p2), .val (.int p3), .unset, .unset, .unset, .unset, .unset, .unset, .unset, .unset] [])) _
    refine XT.lloadN X0.here hx rfl (hb hby at_0) rfl ?_
    show Steps p.tables e below (s₁.setTop (mkF m 1 #[.val (.long p0), .second, .val (.int p1), .val (.int p2), .val (.int p3), .unset, .unset, .unset, .unset, .unset, .unset, .unset, .unset] [(.long p0)])) _
    refine XS.iloadN X0.here hx rfl (hb hby at_1) rfl ?_
    show Steps p.tables e below (s₁.setTop (mkF m 2 #[.val (.long p0), .second, .val (.int p1), .val (.int p2), .val (.int p3), .unset, .unset, .unset, .unset, .unset, .unset, .unset, .unset] [(.int p1), (.long p0)])) _
    refine XS.bipush X0.here hx rfl (hb hby at_2) ?_
    show Steps p.tables e below (s₁.setTop (mkF m 4 #[.val (.long p0), .second, .val (.int p1), .val (.int p2), .val (.int p3), .unset, .unset, .unset, .unset, .unset, .unset, .unset, .unset] [(.int (63 : Int32)), (.int p1), (.long p0)])) _
    refine XS.iand X0.here hx rfl (hb hby at_4) rfl ?_
    show Steps p.tables e below (s₁.setTop (mkF m 5 #[.val (.long p0), .second, .val (.int p1), .val (.int p2), .val (.int p3), .unset, .unset, .unset, .unset, .unset, .unset, .unset, .unset] [(.int (p1 &&& (63 : Int32))), (.long p0)])) _
    refine XT.lushr X0.here hx rfl (hb hby at_5) rfl ?_
    show Steps p.tables e below (s₁.setTop (mkF m 6 #[.val (.long p0), .second, .val (.int p1), .val (.int p2), .val (.int p3), .unset, .unset, .unset, .unset, .unset, .unset, .unset, .unset] [(.long (XT.ushrL p0 (p1 &&& (63 : Int32))))])) _
    rw [hval]
    show Steps p.tables e below (s₁.setTop (mkF m 6 #[.val (.long p0), .second, .val (.int p1), .val (.int p2), .val (.int p3), .unset, .unset, .unset, .unset, .unset, .unset, .unset, .unset] [(.long val)])) _
    refine XT.lstore X0.here hx rfl (hb hby at_6) rfl (l' := #[.val (.long p0), .second, .val (.int p1), .val (.int p2), .val (.int p3), .val (.long val), .second, .unset, .unset, .unset, .unset, .unset, .unset]) rfl ?_
    show Steps p.tables e below (s₁.setTop (mkF m 8 #[.val (.long p0), .second, .val (.int p1), .val (.int p2), .val (.int p3), .val (.long val), .second, .unset, .unset, .unset, .unset, .unset, .unset] [])) _
    refine XS.iloadN X0.here hx rfl (hb hby at_8) rfl ?_
    show Steps p.tables e below (s₁.setTop (mkF m 9 #[.val (.long p0), .second, .val (.int p1), .val (.int p2), .val (.int p3), .val (.long val), .second, .unset, .unset, .unset, .unset, .unset, .unset] [(.int p2)])) _
    refine XS.iconst X0.here hx rfl (hb hby at_9) ?_
    show Steps p.tables e below (s₁.setTop (mkF m 10 #[.val (.long p0), .second, .val (.int p1), .val (.int p2), .val (.int p3), .val (.long val), .second, .unset, .unset, .unset, .unset, .unset, .unset] [(.int (3 : Int32)), (.int p2)])) _
    refine XS.iand X0.here hx rfl (hb hby at_10) rfl ?_
    show Steps p.tables e below (s₁.setTop (mkF m 11 #[.val (.long p0), .second, .val (.int p1), .val (.int p2), .val (.int p3), .val (.long val), .second, .unset, .unset, .unset, .unset, .unset, .unset] [(.int (p2 &&& (3 : Int32)))])) _
    rw [hat_]
    show Steps p.tables e below (s₁.setTop (mkF m 11 #[.val (.long p0), .second, .val (.int p1), .val (.int p2), .val (.int p3), .val (.long val), .second, .unset, .unset, .unset, .unset, .unset, .unset] [(.int at_.toInt32)])) _
    refine XS.istore X0.here hx rfl (hb hby at_11) rfl (l' := #[.val (.long p0), .second, .val (.int p1), .val (.int p2), .val (.int p3), .val (.long val), .second, .val (.int at_.toInt32), .unset, .unset, .unset, .unset, .unset]) rfl ?_
    show Steps p.tables e below (s₁.setTop (mkF m 13 #[.val (.long p0), .second, .val (.int p1), .val (.int p2), .val (.int p3), .val (.long val), .second, .val (.int at_.toInt32), .unset, .unset, .unset, .unset, .unset] [])) _
    refine XS.iload X0.here hx rfl (hb hby at_13) rfl ?_
    show Steps p.tables e below (s₁.setTop (mkF m 15 #[.val (.long p0), .second, .val (.int p1), .val (.int p2), .val (.int p3), .val (.long val), .second, .val (.int at_.toInt32), .unset, .unset, .unset, .unset, .unset] [(.int p3)])) _
    refine XT.i2b X0.here hx rfl (hb hby at_15) rfl ?_
    show Steps p.tables e below (s₁.setTop (mkF m 16 #[.val (.long p0), .second, .val (.int p1), .val (.int p2), .val (.int p3), .val (.long val), .second, .val (.int at_.toInt32), .unset, .unset, .unset, .unset, .unset] [(.int p3.toInt8.toInt32)])) _
    refine XS.istore X0.here hx rfl (hb hby at_16) rfl (l' := #[.val (.long p0), .second, .val (.int p1), .val (.int p2), .val (.int p3), .val (.long val), .second, .val (.int at_.toInt32), .val (.int p3.toInt8.toInt32), .unset, .unset, .unset, .unset]) rfl ?_
    show Steps p.tables e below (s₁.setTop (mkF m 18 #[.val (.long p0), .second, .val (.int p1), .val (.int p2), .val (.int p3), .val (.long val), .second, .val (.int at_.toInt32), .val (.int p3.toInt8.toInt32), .unset, .unset, .unset, .unset] [])) _
    refine XS.bipush X0.here hx rfl (hb hby at_18) ?_
    show Steps p.tables e below (s₁.setTop (mkF m 20 #[.val (.long p0), .second, .val (.int p1), .val (.int p2), .val (.int p3), .val (.long val), .second, .val (.int at_.toInt32), .val (.int p3.toInt8.toInt32), .unset, .unset, .unset, .unset] [(.int (16 : Int32))])) _
    refine st64 _ ?_
    show Steps p.tables e below (T64.setTop (mkF m 22 #[.val (.long p0), .second, .val (.int p1), .val (.int p2), .val (.int p3), .val (.long val), .second, .val (.int at_.toInt32), .val (.int p3.toInt8.toInt32), .unset, .unset, .unset, .unset] [(.ref b64)])) _
    refine XS.astore X64.here hx rfl (hb hby at_22) rfl rfl (l' := #[.val (.long p0), .second, .val (.int p1), .val (.int p2), .val (.int p3), .val (.long val), .second, .val (.int at_.toInt32), .val (.int p3.toInt8.toInt32), .val (.ref b64), .unset, .unset, .unset]) rfl ?_
    show Steps p.tables e below (T64.setTop (mkF m 24 #[.val (.long p0), .second, .val (.int p1), .val (.int p2), .val (.int p3), .val (.long val), .second, .val (.int at_.toInt32), .val (.int p3.toInt8.toInt32), .val (.ref b64), .unset, .unset, .unset] [])) _
    refine st65 _ ?_
    show Steps p.tables e below (T65.setTop (mkF m 48 #[.val (.long p0), .second, .val (.int p1), .val (.int p2), .val (.int p3), .val (.long val), .second, .val (.int at_.toInt32), .val (.int p3.toInt8.toInt32), .val (.ref b64), .unset, .unset, .unset] [])) _
    refine st66 _ ?_
    show Steps p.tables e below (T66.setTop (mkF m 74 #[.val (.long p0), .second, .val (.int p1), .val (.int p2), .val (.int p3), .val (.long val), .second, .val (.int at_.toInt32), .val (.int p3.toInt8.toInt32), .val (.ref b64), .unset, .unset, .unset] [])) _
    refine st67 _ ?_
    show Steps p.tables e below (T67.setTop (mkF m 102 #[.val (.long p0), .second, .val (.int p1), .val (.int p2), .val (.int p3), .val (.long val), .second, .val (.int at_.toInt32), .val (.int p3.toInt8.toInt32), .val (.ref b64), .unset, .unset, .unset] [])) _
    refine st68 _ ?_
    show Steps p.tables e below (T68.setTop (mkF m 130 #[.val (.long p0), .second, .val (.int p1), .val (.int p2), .val (.int p3), .val (.long val), .second, .val (.int at_.toInt32), .val (.int p3.toInt8.toInt32), .val (.ref b64), .unset, .unset, .unset] [])) _
    refine XS.aload X68.here hx rfl (hb hby at_130) rfl rfl ?_
    show Steps p.tables e below (T68.setTop (mkF m 132 #[.val (.long p0), .second, .val (.int p1), .val (.int p2), .val (.int p3), .val (.long val), .second, .val (.int at_.toInt32), .val (.int p3.toInt8.toInt32), .val (.ref b64), .unset, .unset, .unset] [(.ref b64)])) _
    refine XS.iload X68.here hx rfl (hb hby at_132) rfl ?_
    show Steps p.tables e below (T68.setTop (mkF m 134 #[.val (.long p0), .second, .val (.int p1), .val (.int p2), .val (.int p3), .val (.long val), .second, .val (.int at_.toInt32), .val (.int p3.toInt8.toInt32), .val (.ref b64), .unset, .unset, .unset] [(.int at_.toInt32), (.ref b64)])) _
    refine XT.lload X68.here hx rfl (hb hby at_134) rfl ?_
    show Steps p.tables e below (T68.setTop (mkF m 136 #[.val (.long p0), .second, .val (.int p1), .val (.int p2), .val (.int p3), .val (.long val), .second, .val (.int at_.toInt32), .val (.int p3.toInt8.toInt32), .val (.ref b64), .unset, .unset, .unset] [(.long val), (.int at_.toInt32), (.ref b64)])) _
    refine st69 _ ?_
    show Steps p.tables e below (T69.setTop (mkF m 139 #[.val (.long p0), .second, .val (.int p1), .val (.int p2), .val (.int p3), .val (.long val), .second, .val (.int at_.toInt32), .val (.int p3.toInt8.toInt32), .val (.ref b64), .unset, .unset, .unset] [(.int (at_ + L_).toInt32)])) _
    refine XS.istore X69.here hx rfl (hb hby at_139) rfl (l' := #[.val (.long p0), .second, .val (.int p1), .val (.int p2), .val (.int p3), .val (.long val), .second, .val (.int at_.toInt32), .val (.int p3.toInt8.toInt32), .val (.ref b64), .val (.int (at_ + L_).toInt32), .unset, .unset]) rfl ?_
    show Steps p.tables e below (T69.setTop (mkF m 141 #[.val (.long p0), .second, .val (.int p1), .val (.int p2), .val (.int p3), .val (.long val), .second, .val (.int at_.toInt32), .val (.int p3.toInt8.toInt32), .val (.ref b64), .val (.int (at_ + L_).toInt32), .unset, .unset] [])) _
    refine XT.lload X69.here hx rfl (hb hby at_141) rfl ?_
    show Steps p.tables e below (T69.setTop (mkF m 143 #[.val (.long p0), .second, .val (.int p1), .val (.int p2), .val (.int p3), .val (.long val), .second, .val (.int at_.toInt32), .val (.int p3.toInt8.toInt32), .val (.ref b64), .val (.int (at_ + L_).toInt32), .unset, .unset] [(.long val)])) _
    refine st70 _ ?_
    show Steps p.tables e below (T70.setTop (mkF m 146 #[.val (.long p0), .second, .val (.int p1), .val (.int p2), .val (.int p3), .val (.long val), .second, .val (.int at_.toInt32), .val (.int p3.toInt8.toInt32), .val (.ref b64), .val (.int (at_ + L_).toInt32), .unset, .unset] [(.int (own_len val))])) _
    rw [hlen]
    show Steps p.tables e below (T70.setTop (mkF m 146 #[.val (.long p0), .second, .val (.int p1), .val (.int p2), .val (.int p3), .val (.long val), .second, .val (.int at_.toInt32), .val (.int p3.toInt8.toInt32), .val (.ref b64), .val (.int (at_ + L_).toInt32), .unset, .unset] [(.int L_.toInt32)])) _
    refine XS.istore X70.here hx rfl (hb hby at_146) rfl (l' := #[.val (.long p0), .second, .val (.int p1), .val (.int p2), .val (.int p3), .val (.long val), .second, .val (.int at_.toInt32), .val (.int p3.toInt8.toInt32), .val (.ref b64), .val (.int (at_ + L_).toInt32), .val (.int L_.toInt32), .unset]) rfl ?_
    show Steps p.tables e below (T70.setTop (mkF m 148 #[.val (.long p0), .second, .val (.int p1), .val (.int p2), .val (.int p3), .val (.long val), .second, .val (.int at_.toInt32), .val (.int p3.toInt8.toInt32), .val (.ref b64), .val (.int (at_ + L_).toInt32), .val (.int L_.toInt32), .unset] [])) _
    refine XS.iload X70.here hx rfl (hb hby at_148) rfl ?_
    show Steps p.tables e below (T70.setTop (mkF m 150 #[.val (.long p0), .second, .val (.int p1), .val (.int p2), .val (.int p3), .val (.long val), .second, .val (.int at_.toInt32), .val (.int p3.toInt8.toInt32), .val (.ref b64), .val (.int (at_ + L_).toInt32), .val (.int L_.toInt32), .unset] [(.int (at_ + L_).toInt32)])) _
    refine XS.iload X70.here hx rfl (hb hby at_150) rfl ?_
    show Steps p.tables e below (T70.setTop (mkF m 152 #[.val (.long p0), .second, .val (.int p1), .val (.int p2), .val (.int p3), .val (.long val), .second, .val (.int at_.toInt32), .val (.int p3.toInt8.toInt32), .val (.ref b64), .val (.int (at_ + L_).toInt32), .val (.int L_.toInt32), .unset] [(.int at_.toInt32), (.int (at_ + L_).toInt32)])) _
    refine XS.iload X70.here hx rfl (hb hby at_152) rfl ?_
    show Steps p.tables e below (T70.setTop (mkF m 154 #[.val (.long p0), .second, .val (.int p1), .val (.int p2), .val (.int p3), .val (.long val), .second, .val (.int at_.toInt32), .val (.int p3.toInt8.toInt32), .val (.ref b64), .val (.int (at_ + L_).toInt32), .val (.int L_.toInt32), .unset] [(.int L_.toInt32), (.int at_.toInt32), (.int (at_ + L_).toInt32)])) _
    refine XS.iadd X70.here hx rfl (hb hby at_154) rfl ?_
    show Steps p.tables e below (T70.setTop (mkF m 155 #[.val (.long p0), .second, .val (.int p1), .val (.int p2), .val (.int p3), .val (.long val), .second, .val (.int at_.toInt32), .val (.int p3.toInt8.toInt32), .val (.ref b64), .val (.int (at_ + L_).toInt32), .val (.int L_.toInt32), .unset] [(.int (at_.toInt32 + L_.toInt32)), (.int (at_ + L_).toInt32)])) _
    refine XS.icmpYes X70.here hx rfl (pc0 := 155) (pc' := 160) rfl (hb hby at_155) rfl (XT.ii_eq_t (own_addn at_ L_)) (by decide) (by decide) ?_
    show Steps p.tables e below (T70.setTop (mkF m 160 #[.val (.long p0), .second, .val (.int p1), .val (.int p2), .val (.int p3), .val (.long val), .second, .val (.int at_.toInt32), .val (.int p3.toInt8.toInt32), .val (.ref b64), .val (.int (at_ + L_).toInt32), .val (.int L_.toInt32), .unset] [])) _
    refine XS.iconst X70.here hx rfl (hb hby at_160) ?_
    show Steps p.tables e below (T70.setTop (mkF m 161 #[.val (.long p0), .second, .val (.int p1), .val (.int p2), .val (.int p3), .val (.long val), .second, .val (.int at_.toInt32), .val (.int p3.toInt8.toInt32), .val (.ref b64), .val (.int (at_ + L_).toInt32), .val (.int L_.toInt32), .unset] [(.int (1 : Int32))])) _
    refine XS.istore X70.here hx rfl (hb hby at_161) rfl (l' := #[.val (.long p0), .second, .val (.int p1), .val (.int p2), .val (.int p3), .val (.long val), .second, .val (.int at_.toInt32), .val (.int p3.toInt8.toInt32), .val (.ref b64), .val (.int (at_ + L_).toInt32), .val (.int L_.toInt32), .val (.int (1 : Int32))]) rfl ?_
    show Steps p.tables e below (T70.setTop (mkF m 163 #[.val (.long p0), .second, .val (.int p1), .val (.int p2), .val (.int p3), .val (.long val), .second, .val (.int at_.toInt32), .val (.int p3.toInt8.toInt32), .val (.ref b64), .val (.int (at_ + L_).toInt32), .val (.int L_.toInt32), .val (.int (1 : Int32))] [])) _
    refine st71 _ ?_
    show Steps p.tables e below (T71.setTop (mkF m 192 #[.val (.long p0), .second, .val (.int p1), .val (.int p2), .val (.int p3), .val (.long val), .second, .val (.int at_.toInt32), .val (.int p3.toInt8.toInt32), .val (.ref b64), .val (.int (at_ + L_).toInt32), .val (.int L_.toInt32), .val (.int (1 : Int32))] [])) _
    refine st72 _ ?_
    show Steps p.tables e below (T72.setTop (mkF m 221 #[.val (.long p0), .second, .val (.int p1), .val (.int p2), .val (.int p3), .val (.long val), .second, .val (.int at_.toInt32), .val (.int p3.toInt8.toInt32), .val (.ref b64), .val (.int (at_ + L_).toInt32), .val (.int L_.toInt32), .val (.int (1 : Int32))] [])) _
    refine st73 _ ?_
    show Steps p.tables e below (T73.setTop (mkF m 250 #[.val (.long p0), .second, .val (.int p1), .val (.int p2), .val (.int p3), .val (.long val), .second, .val (.int at_.toInt32), .val (.int p3.toInt8.toInt32), .val (.ref b64), .val (.int (at_ + L_).toInt32), .val (.int L_.toInt32), .val (.int (1 : Int32))] [])) _
    refine st74 _ ?_
    show Steps p.tables e below (T74.setTop (mkF m 279 #[.val (.long p0), .second, .val (.int p1), .val (.int p2), .val (.int p3), .val (.long val), .second, .val (.int at_.toInt32), .val (.int p3.toInt8.toInt32), .val (.ref b64), .val (.int (at_ + L_).toInt32), .val (.int L_.toInt32), .val (.int (1 : Int32))] [])) _
    refine st75 _ ?_
    show Steps p.tables e below (T75.setTop (mkF m 308 #[.val (.long p0), .second, .val (.int p1), .val (.int p2), .val (.int p3), .val (.long val), .second, .val (.int at_.toInt32), .val (.int p3.toInt8.toInt32), .val (.ref b64), .val (.int (at_ + L_).toInt32), .val (.int L_.toInt32), .val (.int (1 : Int32))] [])) _
    refine st76 _ ?_
    show Steps p.tables e below (T76.setTop (mkF m 337 #[.val (.long p0), .second, .val (.int p1), .val (.int p2), .val (.int p3), .val (.long val), .second, .val (.int at_.toInt32), .val (.int p3.toInt8.toInt32), .val (.ref b64), .val (.int (at_ + L_).toInt32), .val (.int L_.toInt32), .val (.int (1 : Int32))] [])) _
    refine st77 _ ?_
    show Steps p.tables e below (T77.setTop (mkF m 368 #[.val (.long p0), .second, .val (.int p1), .val (.int p2), .val (.int p3), .val (.long val), .second, .val (.int at_.toInt32), .val (.int p3.toInt8.toInt32), .val (.ref b64), .val (.int (at_ + L_).toInt32), .val (.int L_.toInt32), .val (.int (1 : Int32))] [])) _
    refine st78 _ ?_
    show Steps p.tables e below (T78.setTop (mkF m 399 #[.val (.long p0), .second, .val (.int p1), .val (.int p2), .val (.int p3), .val (.long val), .second, .val (.int at_.toInt32), .val (.int p3.toInt8.toInt32), .val (.ref b64), .val (.int (at_ + L_).toInt32), .val (.int L_.toInt32), .val (.int (1 : Int32))] [])) _
    refine st79 _ ?_
    show Steps p.tables e below (T79.setTop (mkF m 430 #[.val (.long p0), .second, .val (.int p1), .val (.int p2), .val (.int p3), .val (.long val), .second, .val (.int at_.toInt32), .val (.int p3.toInt8.toInt32), .val (.ref b64), .val (.int (at_ + L_).toInt32), .val (.int L_.toInt32), .val (.int (1 : Int32))] [])) _
    refine st80 _ ?_
    show Steps p.tables e below (T80.setTop (mkF m 461 #[.val (.long p0), .second, .val (.int p1), .val (.int p2), .val (.int p3), .val (.long val), .second, .val (.int at_.toInt32), .val (.int p3.toInt8.toInt32), .val (.ref b64), .val (.int (at_ + L_).toInt32), .val (.int L_.toInt32), .val (.int (1 : Int32))] [])) _
    refine st81 _ ?_
    show Steps p.tables e below (T81.setTop (mkF m 492 #[.val (.long p0), .second, .val (.int p1), .val (.int p2), .val (.int p3), .val (.long val), .second, .val (.int at_.toInt32), .val (.int p3.toInt8.toInt32), .val (.ref b64), .val (.int (at_ + L_).toInt32), .val (.int L_.toInt32), .val (.int (1 : Int32))] [])) _
    refine st82 _ ?_
    show Steps p.tables e below (T82.setTop (mkF m 523 #[.val (.long p0), .second, .val (.int p1), .val (.int p2), .val (.int p3), .val (.long val), .second, .val (.int at_.toInt32), .val (.int p3.toInt8.toInt32), .val (.ref b64), .val (.int (at_ + L_).toInt32), .val (.int L_.toInt32), .val (.int (1 : Int32))] [])) _
    refine st83 _ ?_
    show Steps p.tables e below (T83.setTop (mkF m 554 #[.val (.long p0), .second, .val (.int p1), .val (.int p2), .val (.int p3), .val (.long val), .second, .val (.int at_.toInt32), .val (.int p3.toInt8.toInt32), .val (.ref b64), .val (.int (at_ + L_).toInt32), .val (.int L_.toInt32), .val (.int (1 : Int32))] [])) _
    refine st84 _ ?_
    show Steps p.tables e below (T84.setTop (mkF m 585 #[.val (.long p0), .second, .val (.int p1), .val (.int p2), .val (.int p3), .val (.long val), .second, .val (.int at_.toInt32), .val (.int p3.toInt8.toInt32), .val (.ref b64), .val (.int (at_ + L_).toInt32), .val (.int L_.toInt32), .val (.int (1 : Int32))] [])) _
    refine st85 _ ?_
    show Steps p.tables e below (T85.setTop (mkF m 616 #[.val (.long p0), .second, .val (.int p1), .val (.int p2), .val (.int p3), .val (.long val), .second, .val (.int at_.toInt32), .val (.int p3.toInt8.toInt32), .val (.ref b64), .val (.int (at_ + L_).toInt32), .val (.int L_.toInt32), .val (.int (1 : Int32))] [])) _
    refine st86 _ ?_
    show Steps p.tables e below (T86.setTop (mkF m 647 #[.val (.long p0), .second, .val (.int p1), .val (.int p2), .val (.int p3), .val (.long val), .second, .val (.int at_.toInt32), .val (.int p3.toInt8.toInt32), .val (.ref b64), .val (.int (at_ + L_).toInt32), .val (.int L_.toInt32), .val (.int (1 : Int32))] [])) _
    refine XS.iload X86.here hx rfl (hb hby at_647) rfl ?_
    show Steps p.tables e below (T86.setTop (mkF m 649 #[.val (.long p0), .second, .val (.int p1), .val (.int p2), .val (.int p3), .val (.long val), .second, .val (.int at_.toInt32), .val (.int p3.toInt8.toInt32), .val (.ref b64), .val (.int (at_ + L_).toInt32), .val (.int L_.toInt32), .val (.int (1 : Int32))] [(.int (1 : Int32))])) _
    exact retN X86 hx (t := .boolean) Bd.returns (by simp) (hb hby at_649) hr
  · show Q_own_law Z p0 p1 p2 p3 val at_ L_ h0 n0 _ T86.heap _
    rw [e86]
    exact ⟨rfl, N86⟩
set_option maxRecDepth 65536 in
set_option maxHeartbeats 40000000 in
theorem comes_1 {Post : Tables → Env → Array Value → State → Outcome → State → Prop} (hpost : ∀ tb e args s v u, (limb_1_1.after args s (.returned v) u = true ∧ limb_1_2.after args s (.returned v) u = true ∧ True) → FrameEnd s (.returned v) u (Jvm.fieldLocs frame_1_writes args s ++ Jvm.arrayLocs frame_1_arrays args s ++ Jvm.staticLocs frame_1_statics s) 16 128 → Post tb e args s (.returned v) u) :
    ArmFor flags0 classFile x code maxLocals ret World_1 tables_1 room_1 Calls_1 rest_1 Pre_1 Post := by
  intro l hfl _ _ p e ha hc hk s m args below hf hA hF happ hP
  obtain ⟨hcalls, hrest, hpre⟩ := hP
  obtain ⟨-, -, -, hnamed, -, -, -, hat⟩ := (Spec.applies_iff hf).mp happ
  obtain ⟨hg, hn⟩ := and_e (Cond.before_iff.mp (show (Jvm.Cond.and given_1 narrow_1).before args s = true from hpre))
  obtain ⟨hcount, hq0⟩ := and_e hg
  obtain ⟨ha0, hq1⟩ := and_e hq0
  obtain ⟨ha1, hq2⟩ := and_e hq1
  obtain ⟨ha2, hq3⟩ := and_e hq2
  have ha3 := hq3
  obtain ⟨w0, w1, w2, w3, rfl⟩ : ∃ w0 w1 w2 w3 : Value, args = #[w0, w1, w2, w3] := by
    have hs : args.size = 4 := by simpa [Cond.value, given_1] using hcount
    obtain ⟨L⟩ := args
    match L, hs with
    | [w0, w1, w2, w3], _ => exact ⟨w0, w1, w2, w3, rfl⟩
  have hw := fun d (hd : d ∈ tables_1) => atoms_spec (ws := Jvm.Cond.code x code maxLocals ret :: tables_1) hat d (List.mem_cons_of_mem _ hd)
  have hfit : Fit s := fun {y c} hc i hi => by
    obtain ⟨ha, rfl⟩ := Array.getElem?_eq_some_iff.mp hc
    have q := List.all_eq_true.mp ((Array.all_eq_true_iff_forall_mem.mp hF) _ (Array.getElem_mem ha)) i (List.mem_range.mpr hi)
    simpa [Array.getElem?_eq_getElem hi] using q
  obtain ⟨i0, ei0⟩ := isL_v ha0
  obtain rfl : w0 = (.long i0) := Option.some.inj ei0
  obtain ⟨i1, ei1⟩ := is_v ha1
  obtain rfl : w1 = (.int i1) := Option.some.inj ei1
  obtain ⟨i2, ei2⟩ := is_v ha2
  obtain rfl : w2 = (.int i2) := Option.some.inj ei2
  obtain ⟨i3, ei3⟩ := is_v ha3
  obtain rfl : w3 = (.int i3) := Option.some.inj ei3
  obtain ⟨at_, hat, hat_⟩ := own_three i2
  obtain ⟨L_, hL0, hL, H1, H2, hlen⟩ := own_length (XT.ushrL i0 (i1 &&& (63 : Int32)))
  obtain ⟨n, o, h1, h2, h3, _, L, rfl, ⟨rfl, N⟩, hq⟩ := own_law l s _ hw tables_1 i0 i1 i2 i3 _ at_ L_ s.heap s.heap.size (Nat.le_refl _) rfl hat_ hat hL0 hL H1 H2 hlen p e ha hc hk s m _ below hf ((Spec.applies_iff_loose hf).mp happ).1 ⟨rfl, State.Warmed39.refl s, rfl⟩ trivial
  refine ⟨n, _, h1, h2, h3, hpost _ _ _ _ _ _ ⟨Cond.after_iff.mpr rfl, Cond.after_iff.mpr (eq_i res_at (Term.int_eval (1)) rfl), trivial⟩ ⟨hq.1, hq.2.1, (hq.2.2.sift fun y hy => Or.inr (N y hy)).mono (by decide) (by decide)⟩⟩
theorem main_1_1 : Claimed_1_1 := comes_1 fun _ _ _ _ _ _ h hF => ⟨h.1, hF⟩
theorem main_1_2 : Claimed_1_2 := comes_1 fun _ _ _ _ _ _ h hF => ⟨h.2.1, hF⟩
end Jvm.Pilot.@@N@@
namespace Jvm.Pilot.@@N@@
open Jvm Jvm.ClassFile Sem Op Lib Jvm.Free Jvm.Stand Jvm.Pilot.@@N@@.Jvm.D
/-! MADE BY PROGRAM (witnessworld.py) out of the Statement's table words and the real class files: 9 classes; the members and pool entries that the words name. The judged class is class 1, her method 1. -/
namespace start1
open Jvm.ClassFile
def u (s : String) : CpInfo := .utf8 (stringToUtf16 s)
/-- a pool by its gaps: so many unusable entries, then the entry; so many at the end -/
def gap : Nat → List CpInfo → List CpInfo
  | 0, r => r
  | n + 1, r => .unusable :: gap n r
def poolList (es : List (Nat × CpInfo)) (last : Nat) : List CpInfo := es.foldr (fun e r => gap e.1 (e.2 :: r)) (gap last [])
def pool (es : List (Nat × CpInfo)) (last : Nat) : Array CpInfo := ⟨poolList es last⟩
def fileOf (pool : Array CpInfo) (this : Nat) (attrs : Array Attribute := #[]) (ms : Array MethodInfo := #[]) (fl : Nat := 33) (sup : Nat := 0) (ifs : Array Nat := #[]) (fds : Array FieldInfo := #[]) : ClassFile where
  minorVersion := 0
  majorVersion := 65
  constantPool := pool
  accessFlags := fl
  thisClass := this
  superClass := sup
  interfaces := ifs
  fields := fds
  methods := ms
  attributes := attrs
def plain (name : String) (sup : Option ClassId) : Class where
  name := name
  kind := .ordinary
  loader := none
  accessFlags := 33
  super := sup
  interfaces := #[]
  cf := none
  fields := #[]
  methods := #[]
  instanceTypes := #[]
  staticTypes := #[]
  resolved := #[]
  callSites := []
  init := .initialized
  statics := none
  mirror := none

def pool0 : Array CpInfo := pool [(5, u "<init>"), (0, u "()V"), (1, .class_ 10), (1, u "java/lang/Object")] 113

def k0m0 : Method := { name := "<init>", desc := "()V", sig := { parameters := [], returnType := none }, accessFlags := 1, code := none }
/-- java/lang/Object -/
def k0 : Class := { plain "java/lang/Object" none with
  accessFlags := 33
  interfaces := #[]
  cf := some (fileOf pool0 8 #[] #[{ accessFlags := 1, nameIndex := 5, descriptorIndex := 6, attributes := #[] }] 33 0 #[] #[])
  fields := #[]
  methods := #[k0m0]
  instanceTypes := #[]
  staticTypes := #[]
  resolved := Array.replicate 124 none
  statics := none }

def pool1 : Array CpInfo := pool [(2, .class_ 4), (1, u "java/lang/Object"), (0, u "<init>"), (0, u "()V"), (0, .methodref 8 9), (0, .class_ 10), (0, .nameAndType 11 12), (0, u "com/example/xml_element_search/xmlelementsearch/VarLong"), (0, u "put"), (0, u "([BIJ)I"), (0, .methodref 14 15), (0, .class_ 16), (0, .nameAndType 17 18), (0, u "com/example/xml_element_search/xmlelementsearch/VarLongPutPinLaw"), (0, u "lenOf"), (0, u "(J)I"), (0, .methodref 14 20), (0, .nameAndType 21 22), (0, u "expected"), (0, u "(IIIJB)B"), (0, .long 127), (3, u "law"), (0, u "(JIII)Z")] 5

def k1m0 : Method := { name := "<init>", desc := "()V", sig := { parameters := [], returnType := none }, accessFlags := 2, code := none }
def k1c1 : Code := { maxStack := 8, maxLocals := 13, code := code, exceptionTable := #[], attributes := #[] }
def k1m1 : Method := { name := "law", desc := "(JIII)Z", sig := { parameters := [.long, .int, .int, .int], returnType := some .boolean }, accessFlags := 9, code := some k1c1 }
def k1c2 : Code := { maxStack := 4, maxLocals := 2, code := method_3_code, exceptionTable := #[], attributes := #[] }
def k1m2 : Method := { name := "lenOf", desc := "(J)I", sig := { parameters := [.long], returnType := some .int }, accessFlags := 10, code := some k1c2 }
def k1c3 : Code := { maxStack := 4, maxLocals := 8, code := method_4_code, exceptionTable := #[], attributes := #[] }
def k1m3 : Method := { name := "expected", desc := "(IIIJB)B", sig := { parameters := [.int, .int, .int, .long, .byte], returnType := some .byte }, accessFlags := 10, code := some k1c3 }
/-- com/example/xml_element_search/xmlelementsearch/VarLongPutPinLaw -/
def k1 : Class := { plain "com/example/xml_element_search/xmlelementsearch/VarLongPutPinLaw" (some 0) with
  accessFlags := 49
  interfaces := #[]
  cf := some (fileOf pool1 14 #[] #[{ accessFlags := 2, nameIndex := 5, descriptorIndex := 6, attributes := #[] }, { accessFlags := 9, nameIndex := 27, descriptorIndex := 28, attributes := #[] }, { accessFlags := 10, nameIndex := 17, descriptorIndex := 18, attributes := #[] }, { accessFlags := 10, nameIndex := 21, descriptorIndex := 22, attributes := #[] }] 49 2 #[] #[])
  fields := #[]
  methods := #[k1m0, k1m1, k1m2, k1m3]
  instanceTypes := #[]
  staticTypes := #[]
  resolved := Array.replicate 34 none
  statics := none }

def pool2 : Array CpInfo := pool [(2, .class_ 4), (1, u "java/lang/Object"), (0, u "<init>"), (0, u "()V"), (0, .long 18446744073709551488), (1, .long 127), (1, .long 128), (13, .class_ 26), (0, u "com/example/xml_element_search/xmlelementsearch/VarLong"), (0, u "MAX_BYTES"), (0, u "I"), (4, u "put"), (0, u "([BIJ)I")] 14

def k2m0 : Method := { name := "<init>", desc := "()V", sig := { parameters := [], returnType := none }, accessFlags := 2, code := none }
def k2c1 : Code := { maxStack := 6, maxLocals := 7, code := prog_104_method_2_code, exceptionTable := #[], attributes := #[] }
def k2m1 : Method := { name := "put", desc := "([BIJ)I", sig := { parameters := [(.array .byte), .int, .long], returnType := some .int }, accessFlags := 8, code := some k2c1 }
/-- com/example/xml_element_search/xmlelementsearch/VarLong -/
def k2 : Class := { plain "com/example/xml_element_search/xmlelementsearch/VarLong" (some 0) with
  accessFlags := 48
  interfaces := #[]
  cf := some (fileOf pool2 25 #[] #[{ accessFlags := 2, nameIndex := 5, descriptorIndex := 6, attributes := #[] }, { accessFlags := 8, nameIndex := 33, descriptorIndex := 34, attributes := #[] }] 48 2 #[] #[{ accessFlags := 24, nameIndex := 27, descriptorIndex := 28, attributes := #[] }])
  fields := #[{ name := "MAX_BYTES", type := .int, accessFlags := 24, slot := 0, constantValue := 0 }]
  methods := #[k2m0, k2m1]
  instanceTypes := #[]
  staticTypes := #[.int]
  resolved := Array.replicate 49 none
  statics := none }

def pool3 : Array CpInfo := pool [(1, u "java/lang/Cloneable"), (0, .class_ 1), (0, u "java/lang/Object"), (0, .class_ 3)] 3

/-- java/lang/Cloneable -/
def k3 : Class := { plain "java/lang/Cloneable" (some 0) with
  accessFlags := 1537
  interfaces := #[]
  cf := some (fileOf pool3 2 #[] #[] 1537 4 #[] #[])
  fields := #[]
  methods := #[]
  instanceTypes := #[]
  staticTypes := #[]
  resolved := Array.replicate 8 none
  statics := none }

def pool4 : Array CpInfo := pool [(1, u "java/io/Serializable"), (0, .class_ 1), (0, u "java/lang/Object"), (0, .class_ 3)] 3

/-- java/io/Serializable -/
def k4 : Class := { plain "java/io/Serializable" (some 0) with
  accessFlags := 1537
  interfaces := #[]
  cf := some (fileOf pool4 2 #[] #[] 1537 4 #[] #[])
  fields := #[]
  methods := #[]
  instanceTypes := #[]
  staticTypes := #[]
  resolved := Array.replicate 8 none
  statics := none }

/-- the primitive byte -/
def k5 : Class := { plain "byte" none with kind := .primitive 'B', accessFlags := 0x411 }
/-- [B -/
def k6 : Class := { plain "[B" (some 0) with kind := .array 5 .byte, interfaces := #[3, 4], accessFlags := 1041 }

/-- the primitive int -/
def k7 : Class := { plain "int" none with kind := .primitive 'I', accessFlags := 0x411 }
/-- [I -/
def k8 : Class := { plain "[I" (some 0) with kind := .array 7 .int, interfaces := #[3, 4], accessFlags := 1041 }

def heap : Heap := #[]
def classes : Array Class := #[k0, k1, k2, k3, k4, k5, k6, k7, k8]
def interned : List (Array UInt16 × Addr) := []
def slotsUsed : Nat := 0
def theMethod : MethodId := ⟨1, 1⟩
def args0 : Array Value := #[.long 300, .int 0, .int 1, .int 7]
def aboutOver (below : List Frame) : State where
  vm := { classes := classes, interned := interned.toArray }
  heap := heap
  slotsUsed := slotsUsed
  threads := #[{ frames := .invoking theMethod args0 :: below }]
def below0 : List Frame := [.native { method := ⟨0, 0⟩, args := #[] }]
def about1 : State := aboutOver below0
def p0 : Program := .bare "" "" ""
def e0 : Env := launch0.env 0 0 0
theorem w_frames : about1.frames = Frame.invoking theMethod args0 :: below0 := rfl
set_option maxRecDepth 65536 in
theorem w_args : argsFit about1.vm theMethod args0 = true := by decide +kernel
set_option maxRecDepth 65536 in
theorem w_heap : heapFits about1 = true := by decide +kernel
set_option maxRecDepth 65536 in
theorem w_runnable : about1.curStatus? = some .runnable := by decide +kernel
set_option maxRecDepth 65536 in
theorem w_alone : about1.alone = true := by decide +kernel
set_option maxRecDepth 65536 in
theorem w_named : about1.methodNamed? x = some theMethod := by decide +kernel
set_option maxRecDepth 65536 in
theorem w_hears : about1.hears theMethod below0 = true := by decide +kernel
set_option maxRecDepth 65536 in
theorem w_ripe : about1.ripe theMethod args0 below0 = true := by decide +kernel
theorem w_running : about1.status = .running := rfl
set_option maxRecDepth 65536 in
theorem w_room : about1.hasRoom e0.platform room_1 = true :=
  launch0.hasRoom_least _ room_1 (by decide +kernel) (by decide +kernel) (by decide +kernel) (by decide +kernel) (by decide +kernel) (by decide +kernel)
theorem allAtoms_all (ts : List Jvm.Cond) (a : Array Jvm.Value) (st : Jvm.State) : (allAtoms ts).before a st = ts.all (fun c => c.before a st) := by
  induction ts with
  | nil => rfl
  | cons c t ih =>
    show (Jvm.Cond.and c (allAtoms t)).before a st = _
    rw [Jvm.Cond.before_and, ih, List.all_cons]
def words1 : List Jvm.Cond := Jvm.Cond.code x code maxLocals ret :: tables_1
/-- a 'code' word, met by the world's own term for the bytes: nothing is compared byte by byte -/
theorem code_word {y : MethodName} {bytes : ByteArray} {mx : Nat} {rt : Option FieldType} {a : Array Value} {s : State} {m : MethodId} {meth : Method} {c : Code} (h1 : s.methodNamed? y = some m) (h2 : s.vm.method? m = some meth) (h3 : meth.code = some c) (h4 : c.code = bytes)
    (h5 : (c.maxLocals == mx && c.exceptionTable.isEmpty && decide (c.maxStack ≤ mostOperands) && decide (meth.sig.returnType = rt) && !meth.locks && decide (parseMethodDescriptor y.desc = some meth.sig)) = true) : (Jvm.Cond.code y bytes mx rt).before a s = true := by
  simp only [Bool.and_eq_true, beq_iff_eq, Bool.not_eq_true', decide_eq_true_eq] at h5
  obtain ⟨⟨⟨⟨⟨g1, g2⟩, g3⟩, g4⟩, g5⟩, g6⟩ := h5
  simp [Cond.before, Cond.holds, Cond.value, h1, h2, h3, h4, g1, g2, g3, g4, g5, g6]
def isCode : Jvm.Cond → Bool
  | .code _ _ _ _ => true
  | _ => false
theorem all_split {L : List Jvm.Cond} {P : Jvm.Cond → Bool} (h1 : L.all (fun c => isCode c || P c) = true) (h2 : ∀ c ∈ L.filter isCode, P c = true) : L.all P = true := by
  refine List.all_eq_true.mpr fun c hc => ?_
  have h := List.all_eq_true.mp h1 c hc
  rcases Bool.eq_false_or_eq_true (isCode c) with hi | hi
  · exact h2 c (List.mem_filter.mpr ⟨hc, hi⟩)
  · simpa [hi] using h
set_option maxRecDepth 65536 in
theorem w_c0 : (Jvm.Cond.code x code maxLocals ret).before args0 about1 = true := code_word (m := ⟨1, 1⟩) (meth := k1m1) (c := k1c1) (by decide +kernel) rfl rfl rfl (by decide +kernel)
set_option maxRecDepth 65536 in
theorem w_c1 : (Jvm.Cond.code ({ cls := "com/example/xml_element_search/xmlelementsearch/VarLong", name := "put", desc := "([BIJ)I" } : Jvm.MethodName) prog_104_method_2_code (7 : Nat) (Option.some Jvm.ClassFile.FieldType.int)).before args0 about1 = true := code_word (m := ⟨2, 1⟩) (meth := k2m1) (c := k2c1) (by decide +kernel) rfl rfl rfl (by decide +kernel)
set_option maxRecDepth 65536 in
theorem w_c2 : (Jvm.Cond.code ({ cls := "com/example/xml_element_search/xmlelementsearch/VarLongPutPinLaw", name := "lenOf", desc := "(J)I" } : Jvm.MethodName) method_3_code (2 : Nat) (Option.some Jvm.ClassFile.FieldType.int)).before args0 about1 = true := code_word (m := ⟨1, 2⟩) (meth := k1m2) (c := k1c2) (by decide +kernel) rfl rfl rfl (by decide +kernel)
set_option maxRecDepth 65536 in
theorem w_c3 : (Jvm.Cond.code ({ cls := "com/example/xml_element_search/xmlelementsearch/VarLongPutPinLaw", name := "expected", desc := "(IIIJB)B" } : Jvm.MethodName) method_4_code (8 : Nat) (Option.some Jvm.ClassFile.FieldType.byte)).before args0 about1 = true := code_word (m := ⟨1, 3⟩) (meth := k1m3) (c := k1c3) (by decide +kernel) rfl rfl rfl (by decide +kernel)
def codes1 : List Jvm.Cond := [Jvm.Cond.code x code maxLocals ret, Jvm.Cond.code ({ cls := "com/example/xml_element_search/xmlelementsearch/VarLong", name := "put", desc := "([BIJ)I" } : Jvm.MethodName) prog_104_method_2_code (7 : Nat) (Option.some Jvm.ClassFile.FieldType.int), Jvm.Cond.code ({ cls := "com/example/xml_element_search/xmlelementsearch/VarLongPutPinLaw", name := "lenOf", desc := "(J)I" } : Jvm.MethodName) method_3_code (2 : Nat) (Option.some Jvm.ClassFile.FieldType.int), Jvm.Cond.code ({ cls := "com/example/xml_element_search/xmlelementsearch/VarLongPutPinLaw", name := "expected", desc := "(IIIJB)B" } : Jvm.MethodName) method_4_code (8 : Nat) (Option.some Jvm.ClassFile.FieldType.byte)]
set_option maxRecDepth 65536 in
theorem codes_eq : words1.filter isCode = codes1 := rfl
theorem w_codes : ∀ c ∈ words1.filter isCode, c.before args0 about1 = true := by
  rw [codes_eq]
  intro c hc
  simp only [codes1, List.mem_cons, List.not_mem_nil, or_false] at hc
  rcases hc with rfl | rfl | rfl | rfl
  · exact w_c0
  · exact w_c1
  · exact w_c2
  · exact w_c3
set_option maxRecDepth 65536 in
theorem w_t1 : words1.all (fun c => isCode c || c.before args0 about1) = true := by decide +kernel
theorem w_tables : (allAtoms (Jvm.Cond.code x code maxLocals ret :: tables_1)).before args0 about1 = true := by
  rw [allAtoms_all]
  show words1.all (fun c => c.before args0 about1) = true
  refine all_split ?_ w_codes
  rw [w_t1]
set_option maxRecDepth 65536 in
theorem w_case : (Jvm.Cond.and given_1 narrow_1).before args0 about1 = true := by decide +kernel
theorem w_applies : (headSpec (Jvm.Cond.code x code maxLocals ret :: tables_1) room_1).applies x e0.platform about1 = true :=
  (Spec.applies_iff w_frames).mpr ⟨w_running, w_runnable, w_alone, w_named, w_hears, w_ripe, w_room, w_tables⟩
theorem atStart : AtStart classFile x code maxLocals ret World_1 tables_1 room_1 Calls_1 rest_1 Pre_1 launch0 p0 e0 about1 theMethod args0 below0 :=
  ⟨lists_1, trivial, launch0.admits_env _ _ _, launch0.least_env, fairChoices_fair.cas, fairChoices_fair.clock, w_frames, w_args, w_heap, w_applies, trivial, trivial, w_case⟩
end start1
theorem witness_1 : WitnessClaimed_1 := ⟨start1.p0, start1.e0, start1.about1, start1.theMethod, start1.args0, start1.below0, start1.atStart⟩
end Jvm.Pilot.@@N@@
