import JvmDerived
import JvmDerived.Pilot.@@N@@Statement
import JvmDerived.Pilot.@@N@@Code
set_option linter.unusedVariables false
set_option linter.unusedSimpArgs false

namespace Jvm.Pilot.@@N@@
open Jvm Jvm.ClassFile Sem Op Lib Jvm.Free Jvm.Stand Jvm.LawKit Jvm.RoadKit Bundle Jvm.Pilot.@@N@@.Jvm.D
theorem own_q {a0 : Array Value} {Z : State} (hw : ∀ d ∈ tables_1, d.before a0 Z = true) (i : Nat) {d : Jvm.Cond} (h : tables_1[i]? = some d) : d.before a0 Z = true := hw d (List.mem_of_getElem? h)
theorem own_isR {w : Value} (h : w = .null ∨ ∃ a : Addr, w = .ref a) : w.isRef = true := by rcases h with rfl | ⟨a, rfl⟩ <;> rfl
theorem own_narR {c : String} {w : Value} (h : w.isRef = true) : narrow (.object c) w = w := by rcases ref_cases h with rfl | ⟨a, rfl⟩ <;> rfl
theorem own_fitR {c : String} {w : Value} (h : w.isRef = true) : fits (.object c) w = true := by rcases ref_cases h with rfl | ⟨a, rfl⟩ <;> rfl
/-- a body that writes nothing and returns r -/
def own_Pure (r : Option Value) (h0 : Heap) (n0 : Nat) (v : Option Value) (h : Heap) (L : List Loc) : Prop := v = r ∧ Fr n0 L ∧ h = h0
theorem own_ext_refl (h : Heap) : Ext h h := ⟨Nat.le_refl _, fun _ _ q => q⟩
theorem own_ext_trans {h0 h h' : Heap} (A : Ext h0 h) (B : Ext h h') : Ext h0 h' := ⟨Nat.le_trans A.1 B.1, fun a c q => B.2 a c (A.2 a c q)⟩
theorem own_ext_keep {h0 h h' : Heap} {ws : List Addr} (A : Ext h0 h) (K : Keep h h' ws) (q : ∀ x ∈ ws, h0.size ≤ x) : Ext h0 h' :=
  ⟨Nat.le_trans A.1 K.1, fun a c r => K.2.1 a c (A.2 a c r) fun z => Nat.lt_irrefl _ (Nat.lt_of_lt_of_le (Array.getElem?_eq_some_iff.mp r).1 (q a z))⟩
theorem own_ext_wr {h0 h h' : Heap} {a : Addr} {sl : Nat} {v : Value} (A : Ext h0 h) (W : Wr h h' a sl v) (q : h0.size ≤ a) : Ext h0 h' := own_ext_keep A (Keep.of_wr W) (allS q all0)
/-- a law that may make cells -/
def own_Made (r : Option Value) (n0 : Nat) (v : Option Value) (h : Heap) (L : List Loc) : Prop := v = r ∧ Fr n0 L ∧ True
theorem own_lc_ge {x y : Int64} (h : y.toInt ≤ x.toInt) : ¬ ((lcmpW x y) < (0 : Int32)) := by
  rw [lw_lt, Int64.lt_iff_toInt_lt]; omega
theorem own_lc_lt {x y : Int64} (h : x.toInt < y.toInt) : (lcmpW x y) < (0 : Int32) := by
  rw [lw_lt, Int64.lt_iff_toInt_lt]; omega
theorem own_lc_le {x y : Int64} (h : x.toInt ≤ y.toInt) : ¬ ((0 : Int32) < (lcmpW x y)) := by
  rw [lw_gt, Int64.lt_iff_toInt_lt]; omega
theorem own_lc_gt {x y : Int64} (h : y.toInt < x.toInt) : (0 : Int32) < (lcmpW x y) := by
  rw [lw_gt, Int64.lt_iff_toInt_lt]; omega
theorem own_lc_eq {x y : Int64} (h : x.toInt = y.toInt) : (lcmpW x y) = (0 : Int32) := by
  rw [lw_eq]; exact Int64.toInt_inj.mp h
theorem own_lc_ne {x y : Int64} (h : x.toInt ≠ y.toInt) : ¬ ((lcmpW x y) = (0 : Int32)) := by
  rw [lw_eq]; intro q; exact h (congrArg Int64.toInt q)
theorem own_lt_lc {x y : Int64} (h : (lcmpW x y) < (0 : Int32)) : x.toInt < y.toInt := by
  rw [lw_lt, Int64.lt_iff_toInt_lt] at h; exact h
theorem own_ge_lc {x y : Int64} (h : ¬ ((lcmpW x y) < (0 : Int32))) : y.toInt ≤ x.toInt := by
  rw [lw_lt, Int64.lt_iff_toInt_lt] at h; omega
theorem own_gt_lc {x y : Int64} (h : (0 : Int32) < (lcmpW x y)) : y.toInt < x.toInt := by
  rw [lw_gt, Int64.lt_iff_toInt_lt] at h; exact h
theorem own_le_lc {x y : Int64} (h : ¬ ((0 : Int32) < (lcmpW x y))) : x.toInt ≤ y.toInt := by
  rw [lw_gt, Int64.lt_iff_toInt_lt] at h; omega
theorem own_eq_lc {x y : Int64} (h : (lcmpW x y) = (0 : Int32)) : x.toInt = y.toInt := by
  rw [lw_eq] at h; rw [h]
theorem own_ne_lc {x y : Int64} (h : ¬ ((lcmpW x y) = (0 : Int32))) : x.toInt ≠ y.toInt := by
  rw [lw_eq] at h; exact fun q => h (Int64.toInt_inj.mp q)
theorem own_lrem {x y : Int64} (hx : 0 ≤ x.toInt) (hy : 0 < y.toInt) : 0 ≤ (x % y).toInt ∧ (x % y).toInt < y.toInt := by
  rw [Int64.toInt_mod]; exact ⟨Int.tmod_nonneg _ hx, Int.tmod_lt_of_pos _ hy⟩
theorem own_nz {x : Int64} (h : 1 ≤ x.toInt) : x ≠ 0 := fun q => by
  rw [q] at h; exact absurd h (by decide)
/-- an array of length z whose i-th component is g i -/
def own_FA (Z : State) (h : Heap) (a : Addr) (k : ClassId) (ty : FieldType) (z : Int32) (g : Nat → Value) : Prop :=
  ∃ c : Cell, Arr Z h a c ty ∧ c.cls = k ∧ c.slots.size = z.toNatClampNeg ∧ ¬ z < 0 ∧ (∀ i, i < c.slots.size → c.slots[i]? = some (g i)) ∧ ∀ i, i < c.slots.size → fits ty (g i) = true
section FA
variable {Z : State} {h h' : Heap} {a b : Addr} {k : ClassId} {ty : FieldType} {z j : Int32} {g g' : Nat → Value} {sl : Nat} {v w : Value} {ws : List Addr}
theorem own_FA.lt (F : own_FA Z h a k ty z g) : a < h.size := by obtain ⟨c, A, -⟩ := F; exact A.lt
theorem own_FA.ext (F : own_FA Z h a k ty z g) (E : Ext h h') : own_FA Z h' a k ty z g := by obtain ⟨c, A, r⟩ := F; exact ⟨c, A.ext E, r⟩
theorem own_FA.other (F : own_FA Z h b k ty z g) (W : Wr h h' a sl v) (q : b ≠ a) : own_FA Z h' b k ty z g := by obtain ⟨c, A, r⟩ := F; exact ⟨c, A.other W q, r⟩
theorem own_FA.keep (F : own_FA Z h a k ty z g) (K : Keep h h' ws) (q : a ∉ ws) : own_FA Z h' a k ty z g := by obtain ⟨c, A, r⟩ := F; exact ⟨c, ⟨K.2.1 a c A.1 q, A.2⟩, r⟩
theorem own_FA.ofArv {vs : List Value} {dv : Value} (F : Arv Z h a k ty z vs dv) : own_FA Z h a k ty z (fun i => vs.getD i dv) := F
theorem own_FA.congr (F : own_FA Z h a k ty z g) (q : ∀ i, i < z.toNatClampNeg → g i = g' i) : own_FA Z h a k ty z g' := by
  obtain ⟨c, A, r1, r2, r3, r4, r5⟩ := F
  exact ⟨c, A, r1, r2, r3, fun i hi => by rw [← q i (r2 ▸ hi)]; exact r4 i hi, fun i hi => by rw [← q i (r2 ▸ hi)]; exact r5 i hi⟩
theorem own_getD_range (g : Nat → Value) (n : Nat) (dv : Value) (i : Nat) (hi : i < n) : ((List.range n).map g).getD i dv = g i := by
  simp [List.getD_eq_getElem?_getD, hi]
theorem own_FA.arv (F : own_FA Z h a k ty z g) (dv : Value) : Arv Z h a k ty z ((List.range z.toNatClampNeg).map g) dv := by
  obtain ⟨c, A, r1, r2, r3, r4, r5⟩ := F
  exact ⟨c, A, r1, r2, r3, fun i hi => by rw [own_getD_range g _ dv i (r2 ▸ hi)]; exact r4 i hi, fun i hi => by rw [own_getD_range g _ dv i (r2 ▸ hi)]; exact r5 i hi⟩
theorem own_FA.new (A : Arr Z h a (newA k ty z) ty) (q : ¬ z < 0) (hd : fits ty (defaultValue ty) = true) : own_FA Z h a k ty z (fun _ => defaultValue ty) :=
  own_FA.congr (own_FA.ofArv (Arv.new A q)) (fun i _ => by simp)
theorem own_FA.set {c : Cell} (A : Arr Z h a c ty) (q1 : c.cls = k) (S : c.slots.size = z.toNatClampNeg) (q3 : ¬ z < 0) (H : ∀ i, i < c.slots.size → c.slots[i]? = some (g i)) (G : ∀ i, i < c.slots.size → fits ty (g i) = true) (hv : fits ty v = true) (W : Wr h h' a sl v) : own_FA Z h' a k ty z (fun i => if i = sl then v else g i) := by
  refine ⟨c.setSlot sl v, Arr.same W A, q1, ?_, q3, fun i hi => ?_, fun i hi => ?_⟩
  · simpa [Cell.setSlot] using S
  · obtain ⟨cell, w1, w2, w3, w4⟩ := W
    cases A.1.symm.trans w1
    have hi' : i < c.slots.size := by simpa [Cell.setSlot] using hi
    by_cases e : i = sl
    · subst e; simp [Cell.setSlot, w3]
    · simp only [if_neg e, Cell.setSlot]; rw [Array.getElem?_setIfInBounds_ne (Ne.symm e)]; exact H i hi'
  · have hi' : i < c.slots.size := by simpa [Cell.setSlot] using hi
    by_cases e : i = sl
    · simp [e, hv]
    · simp only [if_neg e]; exact G i hi'
/-- what a copy of n components leaves at the aim -/
theorem own_FA.copied {vd us : List Value} {dd : Value} {dp nn : Nat} {gs gd : Nat → Value} (F : Arv Z h b k ty z (vd.take dp ++ us ++ vd.drop (dp + nn)) dd) (hvd : vd = (List.range z.toNatClampNeg).map gd) (hus : us = (List.range nn).map gs) (hl : dp + nn ≤ z.toNatClampNeg) :
    own_FA Z h b k ty z (fun i => if i < dp then gd i else if i < dp + nn then gs (i - dp) else gd i) := by
  refine (own_FA.ofArv F).congr fun i hi => ?_
  have l1 : (vd.take dp).length = dp := by rw [List.length_take, hvd]; simp; omega
  have l2 : us.length = nn := by rw [hus]; simp
  simp only [List.getD_eq_getElem?_getD]
  by_cases c1 : i < dp
  · rw [if_pos c1, List.append_assoc, List.getElem?_append_left (by omega), List.getElem?_take_of_lt c1, hvd]; simp [hi]
  · rw [if_neg c1]
    by_cases c2 : i < dp + nn
    · rw [if_pos c2, List.getElem?_append_left (by rw [List.length_append]; omega), List.getElem?_append_right (by omega), l1, hus]; simp [show i - dp < nn by omega]
    · rw [if_neg c2, List.getElem?_append_right (by rw [List.length_append]; omega), List.length_append, l1, l2, List.getElem?_drop, show dp + nn + (i - (dp + nn)) = i by omega, hvd]; simp [hi]
end FA

/-- a long array of length z whose i-th component is f i -/
abbrev own_FL (Z : State) (h : Heap) (a : Addr) (k : ClassId) (z : Int32) (f : Nat → Int64) : Prop := own_FA Z h a k .long z (fun i => .long (f i))
section FL
variable {Z : State} {h h' : Heap} {a : Addr} {k : ClassId} {z : Int32} {f : Nat → Int64}
theorem own_FL.new (A : Arr Z h a (newA k .long z) .long) (q : ¬ z < 0) : own_FL Z h a k z (fun _ => (0 : Int64)) := own_FA.new A q rfl
theorem own_FL.set {cl : Cell} {sl : Nat} {v : Int64} (A : Arr Z h a cl .long) (q1 : cl.cls = k) (S : cl.slots.size = z.toNatClampNeg) (q3 : ¬ z < 0) (H : ∀ i, i < cl.slots.size → cl.slots[i]? = some (.long (f i))) (G : ∀ i, i < cl.slots.size → fits .long (.long (f i)) = true) (W : Wr h h' a sl (.long v)) : own_FL Z h' a k z (fun i => if i = sl then v else f i) :=
  own_FA.congr (own_FA.set A q1 S q3 H G rfl W) (fun i _ => by by_cases e : i = sl <;> simp [e])
theorem own_FL.at {cl : Cell} {j : Int32} (H : ∀ i, i < cl.slots.size → cl.slots[i]? = some (.long (f i))) (hin : ¬ (j < 0 ∨ cl.slots.size ≤ j.toNatClampNeg)) : cl.slots[j.toNatClampNeg]? = some (.long (f j.toNatClampNeg)) := H _ (Nat.lt_of_not_le fun q => hin (Or.inr q))
end FL
/-- Java's 1L << x -/
abbrev own_sh (x : Int32) : Int64 := ((1 : Int64) <<< (x &&& 0x3f).toInt64)
theorem own_sh64 : ∀ i j : Fin 64, (((1 : Int64) <<< (Int64.ofNat i.1)) &&& ((1 : Int64) <<< (Int64.ofNat j.1)) = 0) ↔ i ≠ j := by decide +kernel
theorem own_shn (x : Int32) : (x &&& 0x3f).toInt64 = Int64.ofNat (x.toInt % 64).toNat := by
  have h1 : (x &&& (0x3f : Int32)).toInt = x.toInt % 64 := c_mask x 0x3f 6 (by decide) (by decide)
  apply Int64.toInt_inj.mp
  rw [c_i2l, h1]
  have h2 : (x.toInt % 64).toNat < 64 := by omega
  rw [Int64.toInt_ofNat_of_lt (by omega)]
  omega
theorem own_sh_and (c q : Int32) : (own_sh c &&& own_sh q = 0) ↔ c.toInt % 64 ≠ q.toInt % 64 := by
  unfold own_sh
  rw [own_shn, own_shn]
  have h1 : (c.toInt % 64).toNat < 64 := by omega
  have h2 : (q.toInt % 64).toNat < 64 := by omega
  have := own_sh64 ⟨_, h1⟩ ⟨_, h2⟩
  rw [this]
  simp only [ne_eq, Fin.mk.injEq]
  omega
theorem own_or_and (a b c : Int64) : (a ||| b) &&& c = (a &&& c) ||| (b &&& c) := by
  apply Int64.toBitVec_inj.mp
  simp only [Int64.toBitVec_and, Int64.toBitVec_or]
  apply BitVec.eq_of_getLsbD_eq
  intro i hi
  simp only [BitVec.getLsbD_and, BitVec.getLsbD_or]
  cases a.toBitVec.getLsbD i <;> cases b.toBitVec.getLsbD i <;> cases c.toBitVec.getLsbD i <;> rfl
theorem own_bit (B : Int64) (c q : Int32) : ((B ||| own_sh c) &&& own_sh q = 0) ↔ (B &&& own_sh q = 0 ∧ c.toInt % 64 ≠ q.toInt % 64) := by
  rw [own_or_and, Int64.or_eq_zero_iff, own_sh_and]
theorem own_bit0 (q : Int32) : ((0 : Int64) &&& own_sh q = 0) := by simp
/-- the index of a code's word -/
theorem own_div64 (x : Int32) (h : 0 ≤ x.toInt) : (x / (64 : Int32)).toInt = x.toInt / 64 := (c_idiv x (64 : Int32) 64 (by decide) (by decide)).1 h
theorem own_div64n (x : Int32) (h : 0 ≤ x.toInt) : (x / (64 : Int32)).toNatClampNeg = (x.toInt / 64).toNat := by
  show (x / (64 : Int32)).toInt.toNat = _
  rw [own_div64 x h]
/-- one code more: the bit of q is set where it was or where q is that code -/
theorem own_step (g : Nat → Int64) (c q : Int32) (hc : 0 ≤ c.toInt) (hq : 0 ≤ q.toInt) :
    ((if (q / (64 : Int32)).toNatClampNeg = (c / (64 : Int32)).toNatClampNeg then (g (c / (64 : Int32)).toNatClampNeg ||| own_sh c) else g (q / (64 : Int32)).toNatClampNeg) &&& own_sh q = 0) ↔ (g (q / (64 : Int32)).toNatClampNeg &&& own_sh q = 0 ∧ c.toInt ≠ q.toInt) := by
  have e1 := own_div64n c hc
  have e2 := own_div64n q hq
  by_cases e : (q / (64 : Int32)).toNatClampNeg = (c / (64 : Int32)).toNatClampNeg
  · rw [if_pos e, own_bit, e]
    constructor
    · rintro ⟨h1, h2⟩; exact ⟨h1, fun h => h2 (by rw [h])⟩
    · rintro ⟨h1, h2⟩; exact ⟨h1, fun h => h2 (by omega)⟩
  · rw [if_neg e]
    constructor
    · intro h; exact ⟨h, fun h2 => e (by rw [e1, e2, h2])⟩
    · intro h; exact h.1

/-- what a search answers: below nought where M fails, else not -/
def own_BS (M : Prop) (h0 : Heap) (n0 : Nat) (v : Option Value) (h : Heap) (L : List Loc) : Prop := ∃ ri : Int32, v = some (.int ri) ∧ Fr n0 L ∧ h = h0 ∧ (ri < 0 → ¬ M) ∧ (¬ ri < 0 → M)
/-- the bits say of q whether it is a code -/
def own_Says (g : Nat → Int64) (P : Int → Prop) : Prop := ∀ q : Int32, 0 ≤ q.toInt → ((g (q / (64 : Int32)).toNatClampNeg &&& own_sh q = 0) ↔ ¬ P q.toInt)
/-- the bits of the step at a: none, or an array that says P, of last / 64 + 1 words -/
def own_Bits (Z : State) (h : Heap) (a : Addr) (last : Int) (P : Int → Prop) : Prop :=
  Fld Z h a "com/example/cubelet/cubelet/CellStore$Step" "bits" "[J" .null ∨ ∃ (b : Addr) (k : ClassId) (z : Int32) (g : Nat → Int64), Fld Z h a "com/example/cubelet/cubelet/CellStore$Step" "bits" "[J" (.ref b) ∧ own_FL Z h b k z g ∧ z.toInt = last / 64 + 1 ∧ own_Says g P
/-- the constructor's end -/
def own_Init (Z : State) (a : Addr) (cs : Value) (B : Heap → Prop) (h0 : Heap) (n0 : Nat) (v : Option Value) (h : Heap) (L : List Loc) : Prop :=
  v = none ∧ Fr n0 L ∧ Keep h0 h [a] ∧ Exa Z h a "com/example/cubelet/cubelet/CellStore$Step" ∧ Fld Z h a "com/example/cubelet/cubelet/CellStore$Step" "codes" "[I" cs ∧ B h
/-- together's end -/
def own_Tog (Z : State) (cs : Value) (B : Addr → Heap → Prop) (h0 : Heap) (n0 : Nat) (v : Option Value) (h : Heap) (L : List Loc) : Prop :=
  ∃ a : Addr, v = some (.ref a) ∧ Fr n0 L ∧ Ext h0 h ∧ Exa Z h a "com/example/cubelet/cubelet/CellStore$Step" ∧ Fld Z h a "com/example/cubelet/cubelet/CellStore$Step" "codes" "[I" cs ∧ B a h
theorem own_nn {x : Int32} (h : 0 ≤ x.toInt) : ¬ x < 0 := by
  rw [Int32.lt_iff_toInt_lt]; have : (0 : Int32).toInt = 0 := by decide
  omega
theorem own_cap {x : Int32} {n : Nat} (q : ¬ x < 0) (h : x.toInt ≤ (n : Int)) : x.toNatClampNeg ≤ n := by
  have := nat_of q; omega
theorem own_lt32 {a b : Int32} (h : a.toInt < b.toInt) : a < b := Int32.lt_iff_toInt_lt.mpr h
theorem own_bz {c w : Int32} (hc : 0 ≤ c.toInt) (hm : w.toInt ≤ 64) (h : ¬ (w < c / (32 : Int32))) : ((c / (64 : Int32)) + (1 : Int32)).toInt = c.toInt / 64 + 1 ∧ ((c / (64 : Int32)) + (1 : Int32)).toInt ≤ 33 := by
  have h1 := (c_idiv c (32 : Int32) 32 (by decide) (by decide)).1 hc
  have h2 := own_div64 c hc
  have h3 := c_iadd (c / (64 : Int32)) (1 : Int32)
  have e1 : (1 : Int32).toInt = 1 := by decide
  have h4 := rng32 c
  have h5 := rng32 ((c / (64 : Int32)) + (1 : Int32))
  rw [Int32.lt_iff_toInt_lt] at h
  omega
theorem own_says0 : own_Says (fun _ => (0 : Int64)) (fun _ => False) := fun q _ => ⟨fun _ => id, fun _ => own_bit0 q⟩
theorem own_saysS {g : Nat → Int64} {P : Int → Prop} {c : Int32} (hS : own_Says g P) (hc : 0 ≤ c.toInt) : own_Says (fun i => if i = (c / (64 : Int32)).toNatClampNeg then (g (c / (64 : Int32)).toNatClampNeg ||| own_sh c) else g i) (fun q => P q ∨ c.toInt = q) := by
  intro q hq
  refine (own_step g c q hc hq).trans ?_
  rw [hS q hq]
  constructor
  · rintro ⟨h1, h2⟩ (h | h)
    · exact h1 h
    · exact h2 h
  · intro h; exact ⟨fun z => h (Or.inl z), fun z => h (Or.inr z)⟩
theorem own_saysC {g : Nat → Int64} {P P' : Int → Prop} (hS : own_Says g P) (h : ∀ q, P q ↔ P' q) : own_Says g P' := by
  intro q hq; rw [hS q hq, h]
theorem own_mskI (x : Int32) : 0 ≤ ((x.toInt64) &&& (2147483647 : Int64)).toInt ∧ ((x.toInt64) &&& (2147483647 : Int64)).toInt ≤ 2147483647 := by
  have h := c_maskL (x.toInt64) (2147483647 : Int64) 31 (by decide) (by decide)
  rw [h]
  omega
theorem own_l1 {lim : Int64} (h : 1023 ≤ lim.toInt ∧ lim.toInt ≤ 2147483647) : 1 ≤ (lim + (1 : Int64)).toInt ∧ (lim + (1 : Int64)).toInt = lim.toInt + 1 := by
  have h1 := c_ladd lim (1 : Int64)
  have h2 := rng64 (lim + (1 : Int64))
  have e : (1 : Int64).toInt = 1 := by decide
  omega
theorem own_l2 {lim c : Int64} (h : 1023 ≤ lim.toInt ∧ lim.toInt ≤ 2147483647) (hc : 0 ≤ c.toInt ∧ c.toInt ≤ lim.toInt) : 1 ≤ ((lim - c) + (1 : Int64)).toInt ∧ ((lim - c) + (1 : Int64)).toInt = lim.toInt - c.toInt + 1 := by
  have h0 := c_lsub lim c
  have h3 := rng64 (lim - c)
  have h1 := c_ladd (lim - c) (1 : Int64)
  have h2 := rng64 ((lim - c) + (1 : Int64))
  have e : (1 : Int64).toInt = 1 := by decide
  omega
theorem own_c0 {x : Int32} {lim : Int64} (h : 1023 ≤ lim.toInt ∧ lim.toInt ≤ 2147483647) : 0 ≤ (((x.toInt64) &&& (2147483647 : Int64)) % (lim + (1 : Int64))).toInt ∧ (((x.toInt64) &&& (2147483647 : Int64)) % (lim + (1 : Int64))).toInt ≤ lim.toInt := by
  have h1 := own_l1 h
  have h2 := own_lrem (own_mskI x).1 (show 0 < (lim + (1 : Int64)).toInt by omega)
  omega
theorem own_cS {x : Int32} {lim c : Int64} (h : 1023 ≤ lim.toInt ∧ lim.toInt ≤ 2147483647) (hc : 0 ≤ c.toInt ∧ c.toInt ≤ lim.toInt) : c.toInt ≤ (c + (((x.toInt64) &&& (2147483647 : Int64)) % ((lim - c) + (1 : Int64)))).toInt ∧ (c + (((x.toInt64) &&& (2147483647 : Int64)) % ((lim - c) + (1 : Int64)))).toInt ≤ lim.toInt := by
  have h1 := own_l2 h hc
  have h2 := own_lrem (own_mskI x).1 (show 0 < ((lim - c) + (1 : Int64)).toInt by omega)
  have h3 := c_ladd c (((x.toInt64) &&& (2147483647 : Int64)) % ((lim - c) + (1 : Int64)))
  have h4 := rng64 (c + (((x.toInt64) &&& (2147483647 : Int64)) % ((lim - c) + (1 : Int64))))
  omega
theorem own_ic {c : Int64} (h : 0 ≤ c.toInt ∧ c.toInt ≤ 2147483647) : (c.toInt32).toInt = c.toInt := by
  have h1 := c_l2i c
  have h2 := rng32 c.toInt32
  omega
theorem own_q1 {lim pk : Int64} {y : Int32} (h : 1023 ≤ lim.toInt ∧ lim.toInt ≤ 2147483647) (hp : 0 ≤ pk.toInt ∧ pk.toInt ≤ lim.toInt) : 0 ≤ ((if (0 : Int32) < (lcmpW lim (pk + ((y &&& (1 : Int32)).toInt64))) then (pk + ((y &&& (1 : Int32)).toInt64)) else lim).toInt32).toInt := by
  have h1 : (y &&& (1 : Int32)).toInt = y.toInt % 2 := c_mask y 1 1 (by decide) (by decide)
  have h2 := c_i2l (y &&& (1 : Int32))
  have h3 := c_ladd pk ((y &&& (1 : Int32)).toInt64)
  have h4 := rng64 (pk + ((y &&& (1 : Int32)).toInt64))
  split
  · rename_i z; have := own_gt_lc z; rw [own_ic (by omega)]; omega
  · rw [own_ic (by omega)]; omega
theorem own_q2 {x : Int32} {lim : Int64} (h : 1023 ≤ lim.toInt ∧ lim.toInt ≤ 2147483647) : 0 ≤ ((((x.toInt64) &&& (2147483647 : Int64)) % (lim + (1 : Int64))).toInt32).toInt := by
  have := own_c0 (x := x) h
  rw [own_ic (by omega)]; omega
theorem own_n7 {x : Int32} (h : x = (5 : Int32) ∨ x = (6 : Int32) ∨ x = (7 : Int32)) : (¬ x = (0 : Int32)) ∧ (if (4 : Int32) < x - (1 : Int32) then (4 : Int32) else x - (1 : Int32)) = (4 : Int32) := by rcases h with rfl | rfl | rfl <;> decide
theorem own_and7 (x : Int32) : x &&& (7 : Int32) = (0 : Int32) ∨ x &&& (7 : Int32) = (1 : Int32) ∨ x &&& (7 : Int32) = (2 : Int32) ∨ x &&& (7 : Int32) = (3 : Int32) ∨ x &&& (7 : Int32) = (4 : Int32) ∨ x &&& (7 : Int32) = (5 : Int32) ∨ x &&& (7 : Int32) = (6 : Int32) ∨ x &&& (7 : Int32) = (7 : Int32) := by
  have h1 : (x &&& (7 : Int32)).toInt = x.toInt % 8 := c_mask x (7 : Int32) 3 (by decide) (by decide)
  have hlo : 0 ≤ (x &&& (7 : Int32)).toInt := by omega
  have hhi : (x &&& (7 : Int32)).toInt < 8 := by omega
  clear h1
  rcases (by omega : (x &&& (7 : Int32)).toInt = 0 ∨ 1 ≤ (x &&& (7 : Int32)).toInt) with h | hlo
  · exact Or.inl (Int32.toInt_inj.mp (by rw [h]; decide))
  rcases (by omega : (x &&& (7 : Int32)).toInt = 1 ∨ 2 ≤ (x &&& (7 : Int32)).toInt) with h | hlo
  · exact Or.inr (Or.inl (Int32.toInt_inj.mp (by rw [h]; decide)))
  rcases (by omega : (x &&& (7 : Int32)).toInt = 2 ∨ 3 ≤ (x &&& (7 : Int32)).toInt) with h | hlo
  · exact Or.inr (Or.inr (Or.inl (Int32.toInt_inj.mp (by rw [h]; decide))))
  rcases (by omega : (x &&& (7 : Int32)).toInt = 3 ∨ 4 ≤ (x &&& (7 : Int32)).toInt) with h | hlo
  · exact Or.inr (Or.inr (Or.inr (Or.inl (Int32.toInt_inj.mp (by rw [h]; decide)))))
  rcases (by omega : (x &&& (7 : Int32)).toInt = 4 ∨ 5 ≤ (x &&& (7 : Int32)).toInt) with h | hlo
  · exact Or.inr (Or.inr (Or.inr (Or.inr (Or.inl (Int32.toInt_inj.mp (by rw [h]; decide))))))
  rcases (by omega : (x &&& (7 : Int32)).toInt = 5 ∨ 6 ≤ (x &&& (7 : Int32)).toInt) with h | hlo
  · exact Or.inr (Or.inr (Or.inr (Or.inr (Or.inr (Or.inl (Int32.toInt_inj.mp (by rw [h]; decide)))))))
  rcases (by omega : (x &&& (7 : Int32)).toInt = 6 ∨ 7 ≤ (x &&& (7 : Int32)).toInt) with h | hlo
  · exact Or.inr (Or.inr (Or.inr (Or.inr (Or.inr (Or.inr (Or.inl (Int32.toInt_inj.mp (by rw [h]; decide))))))))
  have h : (x &&& (7 : Int32)).toInt = 7 := by omega
  exact Or.inr (Or.inr (Or.inr (Or.inr (Or.inr (Or.inr (Or.inr (Int32.toInt_inj.mp (by rw [h]; decide))))))))
theorem d1_0 : decode jdk_29_method_69_code 0 = .ok (.iload_n 0, 1) := by decide +kernel
theorem d1_1 : decode jdk_29_method_69_code 1 = .ok (.iload_n 1, 1) := by decide +kernel
theorem d1_2 : decode jdk_29_method_69_code 2 = .ok (.if_icmp .gt 7, 3) := by decide +kernel
theorem d1_9 : decode jdk_29_method_69_code 9 = .ok (.iload_n 1, 1) := by decide +kernel
theorem d1_10 : decode jdk_29_method_69_code 10 = .ok (.ireturn, 1) := by decide +kernel
theorem d1_5 : decode jdk_29_method_69_code 5 = .ok (.iload_n 0, 1) := by decide +kernel
theorem d1_6 : decode jdk_29_method_69_code 6 = .ok (.goto 4, 3) := by decide +kernel
theorem ef_rm_minI (m : MethodId) (x0 : Int32) (x1 : Int32) : entryFrame m #[(.int x0), (.int x1)] 2 = mkF m 0 #[.val (.int x0), .val (.int x1)] [] := by first | (simp [entryFrame, mkF, argsToLocals, Value.category]; done) | rfl
set_option maxRecDepth 65536 in
set_option maxHeartbeats 40000000 in
theorem rm_minI (l : Launch) (Z : State) (a0 : Array Value) (hw : ∀ d ∈ tables_1, d.before a0 Z = true) (ws : List Jvm.Cond) (a : Int32) (b : Int32) (h0 : Heap) (n0 : Nat) (Z0 : n0 ≤ h0.size) (r : Int32) (hres : (if b < a then b else a) = r) :
    MetFree l (⟨"java/lang/Math", "min", "(II)I"⟩ : MethodName) (head1 (Jvm.Cond.code (⟨"java/lang/Math", "min", "(II)I"⟩ : MethodName) jdk_29_method_69_code 2 (some .int) :: ws) ({ frames := 0, cells := 0, slots := 0, locals := 0 } : Room)) (fun aQ UQ => aQ = #[(.int a), (.int b)] ∧ Z.Warmed39 UQ.vm ∧ UQ.heap = h0) (fun _ _ _ _ _ => True) (fun _ UQ oQ UR => ∃ vQ LQ, oQ = .returned vQ ∧ own_Pure (some (.int r)) h0 n0 vQ UR.heap LQ ∧ FrameEnd UQ oQ UR LQ ({ frames := 0, cells := 0, slots := 0, locals := 0 } : Room).cells ({ frames := 0, cells := 0, slots := 0, locals := 0 } : Room).slots) := by
  refine MetFree.of_bodySF (Jvm.Free.JP.mathPlain rfl (by decide +kernel)) hisR ?_
  intro p e s m args below meth c s₁ Bd hml0 hP hK
  obtain ⟨rfl, hZ, hh⟩ := hP
  have hx := Bd.exec
  have hby := Bd.bytes
  have hml : c.maxLocals = 2 := hml0
  have hown : s.vm.findClass "java/lang/Math" = some m.cls := findClass_of_methodNamed Bd.named
  have hnm := (name_of_methodNamed Bd.named Bd.method).1
  have X0 : Stand p l e ({ frames := 0, cells := 0, slots := 0, locals := 0 } : Room) s m #[(.int a), (.int b)] below meth c s₁ [] 0 0 := Stand.of_body Bd
  have e0 : s₁.heap = h0 := by rw [← hh, Bd.state]; rfl
  have N0 := Fr.nil n0
  have pre0 : ∀ t, Steps p.tables e below (s₁.setTop (mkF m 0 #[.val (.int a), .val (.int b)] [])) t → Steps p.tables e below (s₁.setTop (entryFrame m #[(.int a), (.int b)] 2)) t := fun t kq => castTop (ef_rm_minI m a b) kq
  by_cases hc2_1 : b < a
  · -- pc 2: yes
    obtain ⟨fs, hr, hrun, hended, hW, hsame⟩ := X0.leave (v := some (.int b)) (fun h => by rw [Bd.returns] at h; cases h)
    refine ⟨_, _, pre0 _ ?_, hrun, hended, _, _, rfl, ?_, ⟨_, rfl⟩, hW, hsame.mono (by decide) (by decide)⟩
    · refine XS.iloadN X0.here hx rfl (hb hby d1_0) rfl ?_
      refine XS.iloadN X0.here hx rfl (hb hby d1_1) rfl ?_
      refine XS.icmpYes X0.here hx rfl (pc0 := 2) (pc' := 9) rfl (hb hby d1_2) rfl (tlt hc2_1).2.2.1 (by decide) (by decide) ?_
      refine XS.iloadN X0.here hx rfl (hb hby d1_9) rfl ?_
      exact retOut X0 hx Bd.returns rfl (Or.inl ⟨rfl, Or.inl rfl, _, rfl⟩) (hb hby d1_10) hr
    · show own_Pure (some (.int r)) h0 n0 _ s₁.heap _
      rw [e0]
      exact ⟨by rw [← hres]; simp only [if_pos hc2_1], N0, rfl⟩
  · -- pc 2: no
    obtain ⟨fs, hr, hrun, hended, hW, hsame⟩ := X0.leave (v := some (.int a)) (fun h => by rw [Bd.returns] at h; cases h)
    refine ⟨_, _, pre0 _ ?_, hrun, hended, _, _, rfl, ?_, ⟨_, rfl⟩, hW, hsame.mono (by decide) (by decide)⟩
    · refine XS.iloadN X0.here hx rfl (hb hby d1_0) rfl ?_
      refine XS.iloadN X0.here hx rfl (hb hby d1_1) rfl ?_
      refine XS.icmpNo X0.here hx rfl (hb hby d1_2) rfl (flt hc2_1).2.2.1 ?_
      refine XS.iloadN X0.here hx rfl (hb hby d1_5) rfl ?_
      refine XS.goto X0.here hx rfl (pc0 := 6) (pc' := 10) rfl (hb hby d1_6) (by decide) (by decide) ?_
      exact retOut X0 hx Bd.returns rfl (Or.inl ⟨rfl, Or.inl rfl, _, rfl⟩) (hb hby d1_10) hr
    · show own_Pure (some (.int r)) h0 n0 _ s₁.heap _
      rw [e0]
      exact ⟨by rw [← hres]; simp only [if_neg hc2_1], N0, rfl⟩
theorem d6_0 : decode jdk_29_method_70_code 0 = .ok (.lload_n 0, 1) := by decide +kernel
theorem d6_1 : decode jdk_29_method_70_code 1 = .ok (.lload_n 2, 1) := by decide +kernel
theorem d6_2 : decode jdk_29_method_70_code 2 = .ok (.lcmp, 1) := by decide +kernel
theorem d6_3 : decode jdk_29_method_70_code 3 = .ok (.ifCond .gt 7, 3) := by decide +kernel
theorem d6_10 : decode jdk_29_method_70_code 10 = .ok (.lload_n 2, 1) := by decide +kernel
theorem d6_11 : decode jdk_29_method_70_code 11 = .ok (.lreturn, 1) := by decide +kernel
theorem d6_6 : decode jdk_29_method_70_code 6 = .ok (.lload_n 0, 1) := by decide +kernel
theorem d6_7 : decode jdk_29_method_70_code 7 = .ok (.goto 4, 3) := by decide +kernel
theorem ef_rm_minJ (m : MethodId) (x0 : Int64) (x1 : Int64) : entryFrame m #[(.long x0), (.long x1)] 4 = mkF m 0 #[.val (.long x0), .second, .val (.long x1), .second] [] := by first | (simp [entryFrame, mkF, argsToLocals, Value.category]; done) | rfl
set_option maxRecDepth 65536 in
set_option maxHeartbeats 40000000 in
theorem rm_minJ (l : Launch) (Z : State) (a0 : Array Value) (hw : ∀ d ∈ tables_1, d.before a0 Z = true) (ws : List Jvm.Cond) (a : Int64) (b : Int64) (h0 : Heap) (n0 : Nat) (Z0 : n0 ≤ h0.size) (r : Int64) (hres : (if (0 : Int32) < (lcmpW a b) then b else a) = r) :
    MetFree l (⟨"java/lang/Math", "min", "(JJ)J"⟩ : MethodName) (head1 (Jvm.Cond.code (⟨"java/lang/Math", "min", "(JJ)J"⟩ : MethodName) jdk_29_method_70_code 4 (some .long) :: ws) ({ frames := 0, cells := 0, slots := 0, locals := 0 } : Room)) (fun aQ UQ => aQ = #[(.long a), (.long b)] ∧ Z.Warmed39 UQ.vm ∧ UQ.heap = h0) (fun _ _ _ _ _ => True) (fun _ UQ oQ UR => ∃ vQ LQ, oQ = .returned vQ ∧ own_Pure (some (.long r)) h0 n0 vQ UR.heap LQ ∧ FrameEnd UQ oQ UR LQ ({ frames := 0, cells := 0, slots := 0, locals := 0 } : Room).cells ({ frames := 0, cells := 0, slots := 0, locals := 0 } : Room).slots) := by
  refine MetFree.of_bodySF (Jvm.Free.JP.mathPlain rfl (by decide +kernel)) hisR ?_
  intro p e s m args below meth c s₁ Bd hml0 hP hK
  obtain ⟨rfl, hZ, hh⟩ := hP
  have hx := Bd.exec
  have hby := Bd.bytes
  have hml : c.maxLocals = 4 := hml0
  have hown : s.vm.findClass "java/lang/Math" = some m.cls := findClass_of_methodNamed Bd.named
  have hnm := (name_of_methodNamed Bd.named Bd.method).1
  have X0 : Stand p l e ({ frames := 0, cells := 0, slots := 0, locals := 0 } : Room) s m #[(.long a), (.long b)] below meth c s₁ [] 0 0 := Stand.of_body Bd
  have e0 : s₁.heap = h0 := by rw [← hh, Bd.state]; rfl
  have N0 := Fr.nil n0
  have pre0 : ∀ t, Steps p.tables e below (s₁.setTop (mkF m 0 #[.val (.long a), .second, .val (.long b), .second] [])) t → Steps p.tables e below (s₁.setTop (entryFrame m #[(.long a), (.long b)] 4)) t := fun t kq => castTop (ef_rm_minJ m a b) kq
  by_cases hc3_2 : (0 : Int32) < (lcmpW a b)
  · -- pc 3: yes
    obtain ⟨fs, hr, hrun, hended, hW, hsame⟩ := X0.leave (v := some (.long b)) (fun h => by rw [Bd.returns] at h; cases h)
    refine ⟨_, _, pre0 _ ?_, hrun, hended, _, _, rfl, ?_, ⟨_, rfl⟩, hW, hsame.mono (by decide) (by decide)⟩
    · refine XS.lloadN X0.here hx rfl (hb hby d6_0) rfl ?_
      refine XS.lloadN X0.here hx rfl (hb hby d6_1) rfl ?_
      refine XS.lcmp X0.here hx rfl (hb hby d6_2) rfl ?_
      refine XS.ifYes X0.here hx rfl (pc0 := 3) (pc' := 10) rfl (hb hby d6_3) rfl ((if0 _ _).trans (tlt hc3_2).2.2.1) (by decide) (by decide) ?_
      refine XS.lloadN X0.here hx rfl (hb hby d6_10) rfl ?_
      exact retOut X0 hx Bd.returns rfl (Or.inr (Or.inl ⟨rfl, rfl, _, rfl⟩)) (hb hby d6_11) hr
    · show own_Pure (some (.long r)) h0 n0 _ s₁.heap _
      rw [e0]
      exact ⟨by rw [← hres]; simp only [if_pos hc3_2], N0, rfl⟩
  · -- pc 3: no
    obtain ⟨fs, hr, hrun, hended, hW, hsame⟩ := X0.leave (v := some (.long a)) (fun h => by rw [Bd.returns] at h; cases h)
    refine ⟨_, _, pre0 _ ?_, hrun, hended, _, _, rfl, ?_, ⟨_, rfl⟩, hW, hsame.mono (by decide) (by decide)⟩
    · refine XS.lloadN X0.here hx rfl (hb hby d6_0) rfl ?_
      refine XS.lloadN X0.here hx rfl (hb hby d6_1) rfl ?_
      refine XS.lcmp X0.here hx rfl (hb hby d6_2) rfl ?_
      refine XS.ifNo X0.here hx rfl (hb hby d6_3) rfl ((if0 _ _).trans (flt hc3_2).2.2.1) ?_
      refine XS.lloadN X0.here hx rfl (hb hby d6_6) rfl ?_
      refine XS.goto X0.here hx rfl (pc0 := 7) (pc' := 11) rfl (hb hby d6_7) (by decide) (by decide) ?_
      exact retOut X0 hx Bd.returns rfl (Or.inr (Or.inl ⟨rfl, rfl, _, rfl⟩)) (hb hby d6_11) hr
    · show own_Pure (some (.long r)) h0 n0 _ s₁.heap _
      rw [e0]
      exact ⟨by rw [← hres]; simp only [if_neg hc3_2], N0, rfl⟩
theorem d8_0 : decode jdk_65_method_59_code 0 = .ok (.iload_n 1, 1) := by decide +kernel
theorem d8_1 : decode jdk_65_method_59_code 1 = .ok (.istore 4, 2) := by decide +kernel
theorem d8_3 : decode jdk_65_method_59_code 3 = .ok (.iload_n 2, 1) := by decide +kernel
theorem d8_4 : decode jdk_65_method_59_code 4 = .ok (.iconst 1, 1) := by decide +kernel
theorem d8_5 : decode jdk_65_method_59_code 5 = .ok (.isub, 1) := by decide +kernel
theorem d8_6 : decode jdk_65_method_59_code 6 = .ok (.istore 5, 2) := by decide +kernel
theorem d8_8 : decode jdk_65_method_59_code 8 = .ok (.iload 4, 2) := by decide +kernel
theorem d8_10 : decode jdk_65_method_59_code 10 = .ok (.iload 5, 2) := by decide +kernel
theorem d8_12 : decode jdk_65_method_59_code 12 = .ok (.if_icmp .gt 54, 3) := by decide +kernel
theorem d8_66 : decode jdk_65_method_59_code 66 = .ok (.iload 4, 2) := by decide +kernel
theorem d8_68 : decode jdk_65_method_59_code 68 = .ok (.iconst 1, 1) := by decide +kernel
theorem d8_69 : decode jdk_65_method_59_code 69 = .ok (.iadd, 1) := by decide +kernel
theorem d8_70 : decode jdk_65_method_59_code 70 = .ok (.ineg, 1) := by decide +kernel
theorem d8_71 : decode jdk_65_method_59_code 71 = .ok (.ireturn, 1) := by decide +kernel
theorem pn_29 : plainName "java/util/Arrays" = true := by first | (simp [plainName, overriddenIn]; done) | decide +kernel
theorem ef_rm_bs0_0 (m : MethodId) (x0 : Addr) (x3 : Int32) : entryFrame m #[(.ref x0), (.int (0 : Int32)), (.int (0 : Int32)), (.int x3)] 8 = mkF m 0 #[.val (.ref x0), .val (.int (0 : Int32)), .val (.int (0 : Int32)), .val (.int x3), .unset, .unset, .unset, .unset] [] := by first | (simp [entryFrame, mkF, argsToLocals, Value.category]; done) | rfl
set_option maxRecDepth 65536 in
set_option maxHeartbeats 40000000 in
theorem rm_bs0_0 (l : Launch) (Z : State) (a0 : Array Value) (hw : ∀ d ∈ tables_1, d.before a0 Z = true) (ws : List Jvm.Cond) (d : Addr) (q : Int32) (h0 : Heap) (n0 : Nat) (Z0 : n0 ≤ h0.size) (kd : ClassId)  (A_d : Arv Z h0 d kd .int (0 : Int32) [] (.int (0 : Int32)))  :
    MetFree l (⟨"java/util/Arrays", "binarySearch0", "([IIII)I"⟩ : MethodName) (head1 (Jvm.Cond.code (⟨"java/util/Arrays", "binarySearch0", "([IIII)I"⟩ : MethodName) jdk_65_method_59_code 8 (some .int) :: ws) ({ frames := 0, cells := 0, slots := 0, locals := 0 } : Room)) (fun aQ UQ => aQ = #[(.ref d), (.int (0 : Int32)), (.int (0 : Int32)), (.int q)] ∧ Z.Warmed39 UQ.vm ∧ UQ.heap = h0) (fun _ _ _ _ _ => True) (fun _ UQ oQ UR => ∃ vQ LQ, oQ = .returned vQ ∧ own_BS (False) h0 n0 vQ UR.heap LQ ∧ FrameEnd UQ oQ UR LQ ({ frames := 0, cells := 0, slots := 0, locals := 0 } : Room).cells ({ frames := 0, cells := 0, slots := 0, locals := 0 } : Room).slots) := by
  refine MetFree.of_bodySF (plainFor_of_name pn_29) hisR ?_
  intro p e s m args below meth c s₁ Bd hml0 hP hK
  obtain ⟨rfl, hZ, hh⟩ := hP
  have hx := Bd.exec
  have hby := Bd.bytes
  have hml : c.maxLocals = 8 := hml0
  have hown : s.vm.findClass "java/util/Arrays" = some m.cls := findClass_of_methodNamed Bd.named
  have hnm := (name_of_methodNamed Bd.named Bd.method).1
  have X0 : Stand p l e ({ frames := 0, cells := 0, slots := 0, locals := 0 } : Room) s m #[(.ref d), (.int (0 : Int32)), (.int (0 : Int32)), (.int q)] below meth c s₁ [] 0 0 := Stand.of_body Bd
  have e0 : s₁.heap = h0 := by rw [← hh, Bd.state]; rfl
  have N0 := Fr.nil n0
  have pre0 : ∀ t, Steps p.tables e below (s₁.setTop (mkF m 0 #[.val (.ref d), .val (.int (0 : Int32)), .val (.int (0 : Int32)), .val (.int q), .unset, .unset, .unset, .unset] [])) t → Steps p.tables e below (s₁.setTop (entryFrame m #[(.ref d), (.int (0 : Int32)), (.int (0 : Int32)), (.int q)] 8)) t := fun t kq => castTop (ef_rm_bs0_0 m d q) kq
  obtain ⟨fs, hr, hrun, hended, hW, hsame⟩ := X0.leave (v := some (.int (-1 : Int32))) (fun h => by rw [Bd.returns] at h; cases h)
  refine ⟨_, _, pre0 _ ?_, hrun, hended, _, _, rfl, ?_, ⟨_, rfl⟩, hW, hsame.mono (by decide) (by decide)⟩
  · refine XS.iloadN X0.here hx rfl (hb hby d8_0) rfl ?_
    refine XS.istore X0.here hx rfl (hb hby d8_1) rfl (l' := #[.val (.ref d), .val (.int (0 : Int32)), .val (.int (0 : Int32)), .val (.int q), .val (.int (0 : Int32)), .unset, .unset, .unset]) rfl ?_
    refine XS.iloadN X0.here hx rfl (hb hby d8_3) rfl ?_
    refine XS.iconst X0.here hx rfl (hb hby d8_4) ?_
    refine XS.isub X0.here hx rfl (hb hby d8_5) rfl ?_
    refine XS.istore X0.here hx rfl (hb hby d8_6) rfl (l' := #[.val (.ref d), .val (.int (0 : Int32)), .val (.int (0 : Int32)), .val (.int q), .val (.int (0 : Int32)), .val (.int (-1 : Int32)), .unset, .unset]) rfl ?_
    refine XS.iload X0.here hx rfl (hb hby d8_8) rfl ?_
    refine XS.iload X0.here hx rfl (hb hby d8_10) rfl ?_
    refine XS.icmpYes X0.here hx rfl (pc0 := 12) (pc' := 66) rfl (hb hby d8_12) rfl (tlt (by decide : (-1 : Int32) < (0 : Int32))).2.2.1 (by decide) (by decide) ?_
    refine XS.iload X0.here hx rfl (hb hby d8_66) rfl ?_
    refine XS.iconst X0.here hx rfl (hb hby d8_68) ?_
    refine XS.iadd X0.here hx rfl (hb hby d8_69) rfl ?_
    refine XS.ineg X0.here hx rfl (hb hby d8_70) rfl ?_
    exact retOut X0 hx Bd.returns rfl (Or.inl ⟨rfl, Or.inl rfl, _, rfl⟩) (hb hby d8_71) hr
  · show own_BS (False) h0 n0 _ s₁.heap _
    rw [e0]
    exact ⟨(-1 : Int32), rfl, N0, rfl, (fun _ => id), (fun h => absurd (by decide) h)⟩
theorem d7_0 : decode jdk_65_method_57_code 0 = .ok (.aload_n 0, 1) := by decide +kernel
theorem d7_1 : decode jdk_65_method_57_code 1 = .ok (.iconst 0, 1) := by decide +kernel
theorem d7_2 : decode jdk_65_method_57_code 2 = .ok (.aload_n 0, 1) := by decide +kernel
theorem d7_3 : decode jdk_65_method_57_code 3 = .ok (.arraylength, 1) := by decide +kernel
theorem d7_4 : decode jdk_65_method_57_code 4 = .ok (.iload_n 1, 1) := by decide +kernel
theorem pd_35 : parseMethodDescriptor "([IIII)I" = some ⟨[(.array .int), .int, .int, .int], some .int⟩ := by decide +kernel
theorem d7_5 : decode jdk_65_method_57_code 5 = .ok (.invokestatic 209, 3) := by decide +kernel
theorem d7_8 : decode jdk_65_method_57_code 8 = .ok (.ireturn, 1) := by decide +kernel
theorem ef_rm_bs_0 (m : MethodId) (x0 : Addr) (x1 : Int32) : entryFrame m #[(.ref x0), (.int x1)] 2 = mkF m 0 #[.val (.ref x0), .val (.int x1)] [] := by first | (simp [entryFrame, mkF, argsToLocals, Value.category]; done) | rfl
set_option maxRecDepth 65536 in
set_option maxHeartbeats 40000000 in
theorem rm_bs_0 (l : Launch) (Z : State) (a0 : Array Value) (hw : ∀ d ∈ tables_1, d.before a0 Z = true) (ws : List Jvm.Cond) (d : Addr) (q : Int32) (h0 : Heap) (n0 : Nat) (Z0 : n0 ≤ h0.size) (kd : ClassId)  (A_d : Arv Z h0 d kd .int (0 : Int32) [] (.int (0 : Int32)))  :
    MetFree l (⟨"java/util/Arrays", "binarySearch", "([II)I"⟩ : MethodName) (head1 (Jvm.Cond.code (⟨"java/util/Arrays", "binarySearch", "([II)I"⟩ : MethodName) jdk_65_method_57_code 2 (some .int) :: ws) ({ frames := 1, cells := 0, slots := 0, locals := 19 } : Room)) (fun aQ UQ => aQ = #[(.ref d), (.int q)] ∧ Z.Warmed39 UQ.vm ∧ UQ.heap = h0) (fun _ _ _ _ _ => True) (fun _ UQ oQ UR => ∃ vQ LQ, oQ = .returned vQ ∧ own_BS (False) h0 n0 vQ UR.heap LQ ∧ FrameEnd UQ oQ UR LQ ({ frames := 1, cells := 0, slots := 0, locals := 19 } : Room).cells ({ frames := 1, cells := 0, slots := 0, locals := 19 } : Room).slots) := by
  refine MetFree.of_bodySF (plainFor_of_name pn_29) hisR ?_
  intro p e s m args below meth c s₁ Bd hml0 hP hK
  obtain ⟨rfl, hZ, hh⟩ := hP
  have hx := Bd.exec
  have hby := Bd.bytes
  have hml : c.maxLocals = 2 := hml0
  have hown : s.vm.findClass "java/util/Arrays" = some m.cls := findClass_of_methodNamed Bd.named
  have hnm := (name_of_methodNamed Bd.named Bd.method).1
  have X0 : Stand p l e ({ frames := 1, cells := 0, slots := 0, locals := 19 } : Room) s m #[(.ref d), (.int q)] below meth c s₁ [] 0 0 := Stand.of_body Bd
  have e0 : s₁.heap = h0 := by rw [← hh, Bd.state]; rfl
  have N0 := Fr.nil n0
  have pre0 : ∀ t, Steps p.tables e below (s₁.setTop (mkF m 0 #[.val (.ref d), .val (.int q)] [])) t → Steps p.tables e below (s₁.setTop (entryFrame m #[(.ref d), (.int q)] 2)) t := fun t kq => castTop (ef_rm_bs_0 m d q) kq
  have Vc3 := A_d
  obtain ⟨cl3, Ar3, q3, S3, N3_, H3_, G3⟩ := Vc3
  obtain ⟨_, _, ⟨T4, L4, k4, n4⟩, -, X4, ⟨Lc4, hQ4, l4, y4, z4⟩, st4⟩ := Jvm.LawKit.callS X0 hx (y := (⟨"java/util/Arrays", "binarySearch0", "([IIII)I"⟩ : MethodName)) hown (mvT hZ (own_q hw 42 rfl)) (mvT hZ (own_q hw 43 rfl)) (mvT hZ (own_q hw 40 rfl)) (mvT hZ (own_q hw 44 rfl)) (by decide) (backOf (W := 0) (rm_bs0_0 l Z a0 hw [] d q h0 n0 Z0 kd A_d) hZ (own_q hw 44 rfl) (own_q hw 40 rfl) (by decide) (by decide)) (g := (mkF m 5 #[.val (.ref d), .val (.int q)] [(.int q), (.int (0 : Int32)), (.int (0 : Int32)), (.ref d)])) rfl (by rw [hml]; rfl) (argsL := [(.ref d), (.int (0 : Int32)), (.int (0 : Int32)), (.int q)]) (rest := []) (lenOf pd_35 rfl) rfl (by show 2 * 0 + _ ≤ _; exact Nat.le_of_eq rfl) (hb hby d7_5) (fun _ _ => ⟨rfl, e0, (by decide : 0 + 0 ≤ _), (by decide : 0 + 0 ≤ _)⟩)
  dsimp only [Pt.U, Pt.locs, Pt.cells, Pt.slots] at X4 l4 y4 z4 st4 hQ4
  subst l4 y4 z4
  obtain ⟨ri, rfl, N4q, e4, hr1, hr2⟩ := hQ4
  have N4 := Fr.app N0 N4q
  obtain ⟨fs, hr, hrun, hended, hW, hsame⟩ := X4.leave (v := some (.int ri)) (fun h => by rw [Bd.returns] at h; cases h)
  refine ⟨_, _, pre0 _ ?_, hrun, hended, _, _, rfl, ?_, ⟨_, rfl⟩, hW, hsame.mono (by decide) (by decide)⟩
  · refine XS.aloadN X0.here hx rfl (hb hby d7_0) rfl rfl ?_
    refine XS.iconst X0.here hx rfl (hb hby d7_1) ?_
    refine XS.aloadN X0.here hx rfl (hb hby d7_2) rfl rfl ?_
    refine X0.arraylength hx (by rw [e0]; exact Ar3.1) (State.isArrayOf_alike hZ.alike Ar3.2.1) (g := (mkF m 3 #[.val (.ref d), .val (.int q)] [(.ref d), (.int (0 : Int32)), (.ref d)])) rfl rfl (hb hby d7_3) _ ?_
    rw [len_of S3 N3_]
    show Steps p.tables e below (s₁.setTop (mkF m 4 #[.val (.ref d), .val (.int q)] [(.int (0 : Int32)), (.int (0 : Int32)), (.ref d)])) _
    refine XS.iloadN X0.here hx rfl (hb hby d7_4) rfl ?_
    refine st4 _ ?_
    show Steps p.tables e below (T4.setTop (mkF m 8 #[.val (.ref d), .val (.int q)] [(.int ri)])) _
    exact retOut X4 hx Bd.returns rfl (Or.inl ⟨rfl, Or.inl rfl, _, rfl⟩) (hb hby d7_8) hr
  · show own_BS (False) h0 n0 _ T4.heap _
    rw [e4]
    exact ⟨ri, rfl, N4, rfl, hr1, hr2⟩
theorem d8_15 : decode jdk_65_method_59_code 15 = .ok (.iload 4, 2) := by decide +kernel
theorem d8_17 : decode jdk_65_method_59_code 17 = .ok (.iload 5, 2) := by decide +kernel
theorem d8_19 : decode jdk_65_method_59_code 19 = .ok (.iadd, 1) := by decide +kernel
theorem d8_20 : decode jdk_65_method_59_code 20 = .ok (.iconst 1, 1) := by decide +kernel
theorem d8_21 : decode jdk_65_method_59_code 21 = .ok (.iushr, 1) := by decide +kernel
theorem d8_22 : decode jdk_65_method_59_code 22 = .ok (.istore 6, 2) := by decide +kernel
theorem d8_24 : decode jdk_65_method_59_code 24 = .ok (.aload_n 0, 1) := by decide +kernel
theorem d8_25 : decode jdk_65_method_59_code 25 = .ok (.iload 6, 2) := by decide +kernel
theorem d8_27 : decode jdk_65_method_59_code 27 = .ok (.iaload, 1) := by decide +kernel
theorem d8_28 : decode jdk_65_method_59_code 28 = .ok (.istore 7, 2) := by decide +kernel
theorem d8_30 : decode jdk_65_method_59_code 30 = .ok (.iload 7, 2) := by decide +kernel
theorem d8_32 : decode jdk_65_method_59_code 32 = .ok (.iload_n 3, 1) := by decide +kernel
theorem d8_33 : decode jdk_65_method_59_code 33 = .ok (.if_icmp .ge 12, 3) := by decide +kernel
theorem d8_36 : decode jdk_65_method_59_code 36 = .ok (.iload 6, 2) := by decide +kernel
theorem d8_38 : decode jdk_65_method_59_code 38 = .ok (.iconst 1, 1) := by decide +kernel
theorem d8_39 : decode jdk_65_method_59_code 39 = .ok (.iadd, 1) := by decide +kernel
theorem d8_40 : decode jdk_65_method_59_code 40 = .ok (.istore 4, 2) := by decide +kernel
theorem d8_42 : decode jdk_65_method_59_code 42 = .ok (.goto 21, 3) := by decide +kernel
theorem d8_63 : decode jdk_65_method_59_code 63 = .ok (.goto (-55), 3) := by decide +kernel
theorem d8_45 : decode jdk_65_method_59_code 45 = .ok (.iload 7, 2) := by decide +kernel
theorem d8_47 : decode jdk_65_method_59_code 47 = .ok (.iload_n 3, 1) := by decide +kernel
theorem d8_48 : decode jdk_65_method_59_code 48 = .ok (.if_icmp .le 12, 3) := by decide +kernel
theorem d8_51 : decode jdk_65_method_59_code 51 = .ok (.iload 6, 2) := by decide +kernel
theorem d8_53 : decode jdk_65_method_59_code 53 = .ok (.iconst 1, 1) := by decide +kernel
theorem d8_54 : decode jdk_65_method_59_code 54 = .ok (.isub, 1) := by decide +kernel
theorem d8_55 : decode jdk_65_method_59_code 55 = .ok (.istore 5, 2) := by decide +kernel
theorem d8_57 : decode jdk_65_method_59_code 57 = .ok (.goto 6, 3) := by decide +kernel
theorem d8_60 : decode jdk_65_method_59_code 60 = .ok (.iload 6, 2) := by decide +kernel
theorem d8_62 : decode jdk_65_method_59_code 62 = .ok (.ireturn, 1) := by decide +kernel
theorem ef_rm_bs0_2 (m : MethodId) (x0 : Addr) (x3 : Int32) : entryFrame m #[(.ref x0), (.int (0 : Int32)), (.int (2 : Int32)), (.int x3)] 8 = mkF m 0 #[.val (.ref x0), .val (.int (0 : Int32)), .val (.int (2 : Int32)), .val (.int x3), .unset, .unset, .unset, .unset] [] := by first | (simp [entryFrame, mkF, argsToLocals, Value.category]; done) | rfl
set_option maxRecDepth 65536 in
set_option maxHeartbeats 40000000 in
theorem rm_bs0_2 (l : Launch) (Z : State) (a0 : Array Value) (hw : ∀ d ∈ tables_1, d.before a0 Z = true) (ws : List Jvm.Cond) (d : Addr) (q : Int32) (h0 : Heap) (n0 : Nat) (Z0 : n0 ≤ h0.size) (kd : ClassId) (c0 c1 : Int32) (A_d : Arv Z h0 d kd .int (2 : Int32) [(.int c0), (.int c1)] (.int (0 : Int32))) (hs : 0 ≤ c0.toInt ∧ c0.toInt ≤ c1.toInt) :
    MetFree l (⟨"java/util/Arrays", "binarySearch0", "([IIII)I"⟩ : MethodName) (head1 (Jvm.Cond.code (⟨"java/util/Arrays", "binarySearch0", "([IIII)I"⟩ : MethodName) jdk_65_method_59_code 8 (some .int) :: ws) ({ frames := 0, cells := 0, slots := 0, locals := 0 } : Room)) (fun aQ UQ => aQ = #[(.ref d), (.int (0 : Int32)), (.int (2 : Int32)), (.int q)] ∧ Z.Warmed39 UQ.vm ∧ UQ.heap = h0) (fun _ _ _ _ _ => True) (fun _ UQ oQ UR => ∃ vQ LQ, oQ = .returned vQ ∧ own_BS (c0.toInt = q.toInt ∨ c1.toInt = q.toInt) h0 n0 vQ UR.heap LQ ∧ FrameEnd UQ oQ UR LQ ({ frames := 0, cells := 0, slots := 0, locals := 0 } : Room).cells ({ frames := 0, cells := 0, slots := 0, locals := 0 } : Room).slots) := by
  refine MetFree.of_bodySF (plainFor_of_name pn_29) hisR ?_
  intro p e s m args below meth c s₁ Bd hml0 hP hK
  obtain ⟨rfl, hZ, hh⟩ := hP
  have hx := Bd.exec
  have hby := Bd.bytes
  have hml : c.maxLocals = 8 := hml0
  have hown : s.vm.findClass "java/util/Arrays" = some m.cls := findClass_of_methodNamed Bd.named
  have hnm := (name_of_methodNamed Bd.named Bd.method).1
  have X0 : Stand p l e ({ frames := 0, cells := 0, slots := 0, locals := 0 } : Room) s m #[(.ref d), (.int (0 : Int32)), (.int (2 : Int32)), (.int q)] below meth c s₁ [] 0 0 := Stand.of_body Bd
  have e0 : s₁.heap = h0 := by rw [← hh, Bd.state]; rfl
  have N0 := Fr.nil n0
  have pre0 : ∀ t, Steps p.tables e below (s₁.setTop (mkF m 0 #[.val (.ref d), .val (.int (0 : Int32)), .val (.int (2 : Int32)), .val (.int q), .unset, .unset, .unset, .unset] [])) t → Steps p.tables e below (s₁.setTop (entryFrame m #[(.ref d), (.int (0 : Int32)), (.int (2 : Int32)), (.int q)] 8)) t := fun t kq => castTop (ef_rm_bs0_2 m d q) kq
  have Vc5 := A_d
  obtain ⟨cl5, Ar5, q5, S5, N5_, H5_, G5⟩ := Vc5
  have hin5 : ¬ ((0 : Int32) < 0 ∨ cl5.slots.size ≤ ((0 : Int32)).toNatClampNeg) := inb_of S5 ⟨by decide, by decide⟩
  have hat5 : cl5.slots[((0 : Int32)).toNatClampNeg]? = some (.int c0) := Has.at H5_ hin5 rfl
  have ck7 : ∀ t, Steps p.tables e below (s₁.setTop (mkF m 33 #[.val (.ref d), .val (.int (0 : Int32)), .val (.int (2 : Int32)), .val (.int q), .val (.int (0 : Int32)), .val (.int (1 : Int32)), .val (.int (0 : Int32)), .val (.int c0)] [(.int q), (.int c0)])) t → Steps p.tables e below (s₁.setTop (entryFrame m #[(.ref d), (.int (0 : Int32)), (.int (2 : Int32)), (.int q)] 8)) t := by
    intro t kt
    refine pre0 _ ?_
    refine XS.iloadN X0.here hx rfl (hb hby d8_0) rfl ?_
    refine XS.istore X0.here hx rfl (hb hby d8_1) rfl (l' := #[.val (.ref d), .val (.int (0 : Int32)), .val (.int (2 : Int32)), .val (.int q), .val (.int (0 : Int32)), .unset, .unset, .unset]) rfl ?_
    refine XS.iloadN X0.here hx rfl (hb hby d8_3) rfl ?_
    refine XS.iconst X0.here hx rfl (hb hby d8_4) ?_
    refine XS.isub X0.here hx rfl (hb hby d8_5) rfl ?_
    refine XS.istore X0.here hx rfl (hb hby d8_6) rfl (l' := #[.val (.ref d), .val (.int (0 : Int32)), .val (.int (2 : Int32)), .val (.int q), .val (.int (0 : Int32)), .val (.int (1 : Int32)), .unset, .unset]) rfl ?_
    refine XS.iload X0.here hx rfl (hb hby d8_8) rfl ?_
    refine XS.iload X0.here hx rfl (hb hby d8_10) rfl ?_
    refine XS.icmpNo X0.here hx rfl (hb hby d8_12) rfl (flt (by decide : ¬ ((1 : Int32) < (0 : Int32)))).2.2.1 ?_
    refine XS.iload X0.here hx rfl (hb hby d8_15) rfl ?_
    refine XS.iload X0.here hx rfl (hb hby d8_17) rfl ?_
    refine XS.iadd X0.here hx rfl (hb hby d8_19) rfl ?_
    refine XS.iconst X0.here hx rfl (hb hby d8_20) ?_
    refine XS.iushr X0.here hx rfl (hb hby d8_21) rfl ?_
    show Steps p.tables e below (s₁.setTop (mkF m 22 #[.val (.ref d), .val (.int (0 : Int32)), .val (.int (2 : Int32)), .val (.int q), .val (.int (0 : Int32)), .val (.int (1 : Int32)), .unset, .unset] [(.int (((1 : Int32).toUInt32 >>> ((1 : Int32) &&& 31).toUInt32).toInt32))])) _
    rw [(by decide : (((1 : Int32).toUInt32 >>> ((1 : Int32) &&& 31).toUInt32).toInt32) = (0 : Int32))]
    show Steps p.tables e below (s₁.setTop (mkF m 22 #[.val (.ref d), .val (.int (0 : Int32)), .val (.int (2 : Int32)), .val (.int q), .val (.int (0 : Int32)), .val (.int (1 : Int32)), .unset, .unset] [(.int (0 : Int32))])) _
    refine XS.istore X0.here hx rfl (hb hby d8_22) rfl (l' := #[.val (.ref d), .val (.int (0 : Int32)), .val (.int (2 : Int32)), .val (.int q), .val (.int (0 : Int32)), .val (.int (1 : Int32)), .val (.int (0 : Int32)), .unset]) rfl ?_
    refine XS.aloadN X0.here hx rfl (hb hby d8_24) rfl rfl ?_
    refine XS.iload X0.here hx rfl (hb hby d8_25) rfl ?_
    refine X0.iaload hx (j := (0 : Int32)) (v := (.int c0)) (by rw [e0]; exact Ar5.1) (State.isArrayOf_alike hZ.alike Ar5.2.1) Ar5.2.2 hin5 hat5 (g := (mkF m 27 #[.val (.ref d), .val (.int (0 : Int32)), .val (.int (2 : Int32)), .val (.int q), .val (.int (0 : Int32)), .val (.int (1 : Int32)), .val (.int (0 : Int32)), .unset] [(.int (0 : Int32)), (.ref d)])) rfl rfl (hb hby d8_27) _ ?_
    show Steps p.tables e below (s₁.setTop (mkF m 28 #[.val (.ref d), .val (.int (0 : Int32)), .val (.int (2 : Int32)), .val (.int q), .val (.int (0 : Int32)), .val (.int (1 : Int32)), .val (.int (0 : Int32)), .unset] [(.int c0)])) _
    refine XS.istore X0.here hx rfl (hb hby d8_28) rfl (l' := #[.val (.ref d), .val (.int (0 : Int32)), .val (.int (2 : Int32)), .val (.int q), .val (.int (0 : Int32)), .val (.int (1 : Int32)), .val (.int (0 : Int32)), .val (.int c0)]) rfl ?_
    refine XS.iload X0.here hx rfl (hb hby d8_30) rfl ?_
    refine XS.iloadN X0.here hx rfl (hb hby d8_32) rfl ?_
    exact kt
  (try clear hat5); (try clear hin5); (try clear G5); (try clear H5_); (try clear N5_); (try clear S5); (try clear q5); (try clear Ar5); (try clear cl5)
  by_cases hc33_6 : c0 < q
  · -- pc 33: yes
    have Vc8 := A_d
    obtain ⟨cl8, Ar8, q8, S8, N8_, H8_, G8⟩ := Vc8
    have hin8 : ¬ ((1 : Int32) < 0 ∨ cl8.slots.size ≤ ((1 : Int32)).toNatClampNeg) := inb_of S8 ⟨by decide, by decide⟩
    have hat8 : cl8.slots[((1 : Int32)).toNatClampNeg]? = some (.int c1) := Has.at H8_ hin8 rfl
    have ck10 : ∀ t, Steps p.tables e below (s₁.setTop (mkF m 33 #[.val (.ref d), .val (.int (0 : Int32)), .val (.int (2 : Int32)), .val (.int q), .val (.int (1 : Int32)), .val (.int (1 : Int32)), .val (.int (1 : Int32)), .val (.int c1)] [(.int q), (.int c1)])) t → Steps p.tables e below (s₁.setTop (entryFrame m #[(.ref d), (.int (0 : Int32)), (.int (2 : Int32)), (.int q)] 8)) t := by
      intro t kt
      refine ck7 _ ?_
      refine XS.icmpNo X0.here hx rfl (hb hby d8_33) rfl (tlt hc33_6).2.1 ?_
      refine XS.iload X0.here hx rfl (hb hby d8_36) rfl ?_
      refine XS.iconst X0.here hx rfl (hb hby d8_38) ?_
      refine XS.iadd X0.here hx rfl (hb hby d8_39) rfl ?_
      refine XS.istore X0.here hx rfl (hb hby d8_40) rfl (l' := #[.val (.ref d), .val (.int (0 : Int32)), .val (.int (2 : Int32)), .val (.int q), .val (.int (1 : Int32)), .val (.int (1 : Int32)), .val (.int (0 : Int32)), .val (.int c0)]) rfl ?_
      refine XS.goto X0.here hx rfl (pc0 := 42) (pc' := 63) rfl (hb hby d8_42) (by decide) (by decide) ?_
      refine XS.goto X0.here hx rfl (pc0 := 63) (pc' := 8) rfl (hb hby d8_63) (by decide) (by decide) ?_
      refine XS.iload X0.here hx rfl (hb hby d8_8) rfl ?_
      refine XS.iload X0.here hx rfl (hb hby d8_10) rfl ?_
      refine XS.icmpNo X0.here hx rfl (hb hby d8_12) rfl (flt (by decide : ¬ ((1 : Int32) < (1 : Int32)))).2.2.1 ?_
      refine XS.iload X0.here hx rfl (hb hby d8_15) rfl ?_
      refine XS.iload X0.here hx rfl (hb hby d8_17) rfl ?_
      refine XS.iadd X0.here hx rfl (hb hby d8_19) rfl ?_
      refine XS.iconst X0.here hx rfl (hb hby d8_20) ?_
      refine XS.iushr X0.here hx rfl (hb hby d8_21) rfl ?_
      show Steps p.tables e below (s₁.setTop (mkF m 22 #[.val (.ref d), .val (.int (0 : Int32)), .val (.int (2 : Int32)), .val (.int q), .val (.int (1 : Int32)), .val (.int (1 : Int32)), .val (.int (0 : Int32)), .val (.int c0)] [(.int (((2 : Int32).toUInt32 >>> ((1 : Int32) &&& 31).toUInt32).toInt32))])) _
      rw [(by decide : (((2 : Int32).toUInt32 >>> ((1 : Int32) &&& 31).toUInt32).toInt32) = (1 : Int32))]
      show Steps p.tables e below (s₁.setTop (mkF m 22 #[.val (.ref d), .val (.int (0 : Int32)), .val (.int (2 : Int32)), .val (.int q), .val (.int (1 : Int32)), .val (.int (1 : Int32)), .val (.int (0 : Int32)), .val (.int c0)] [(.int (1 : Int32))])) _
      refine XS.istore X0.here hx rfl (hb hby d8_22) rfl (l' := #[.val (.ref d), .val (.int (0 : Int32)), .val (.int (2 : Int32)), .val (.int q), .val (.int (1 : Int32)), .val (.int (1 : Int32)), .val (.int (1 : Int32)), .val (.int c0)]) rfl ?_
      refine XS.aloadN X0.here hx rfl (hb hby d8_24) rfl rfl ?_
      refine XS.iload X0.here hx rfl (hb hby d8_25) rfl ?_
      refine X0.iaload hx (j := (1 : Int32)) (v := (.int c1)) (by rw [e0]; exact Ar8.1) (State.isArrayOf_alike hZ.alike Ar8.2.1) Ar8.2.2 hin8 hat8 (g := (mkF m 27 #[.val (.ref d), .val (.int (0 : Int32)), .val (.int (2 : Int32)), .val (.int q), .val (.int (1 : Int32)), .val (.int (1 : Int32)), .val (.int (1 : Int32)), .val (.int c0)] [(.int (1 : Int32)), (.ref d)])) rfl rfl (hb hby d8_27) _ ?_
      show Steps p.tables e below (s₁.setTop (mkF m 28 #[.val (.ref d), .val (.int (0 : Int32)), .val (.int (2 : Int32)), .val (.int q), .val (.int (1 : Int32)), .val (.int (1 : Int32)), .val (.int (1 : Int32)), .val (.int c0)] [(.int c1)])) _
      refine XS.istore X0.here hx rfl (hb hby d8_28) rfl (l' := #[.val (.ref d), .val (.int (0 : Int32)), .val (.int (2 : Int32)), .val (.int q), .val (.int (1 : Int32)), .val (.int (1 : Int32)), .val (.int (1 : Int32)), .val (.int c1)]) rfl ?_
      refine XS.iload X0.here hx rfl (hb hby d8_30) rfl ?_
      refine XS.iloadN X0.here hx rfl (hb hby d8_32) rfl ?_
      exact kt
    (try clear hat8); (try clear hin8); (try clear G8); (try clear H8_); (try clear N8_); (try clear S8); (try clear q8); (try clear Ar8); (try clear cl8)
    by_cases hc33_9 : c1 < q
    · -- pc 33: yes
      have ff1 := rng32 c0
      have ff2 := rng32 q
      have d_hc33_6 := hc33_6; rw [Int32.lt_iff_toInt_lt] at d_hc33_6
      have ff3 := rng32 c1
      have d_hc33_9 := hc33_9; rw [Int32.lt_iff_toInt_lt] at d_hc33_9
      obtain ⟨fs, hr, hrun, hended, hW, hsame⟩ := X0.leave (v := some (.int (-3 : Int32))) (fun h => by rw [Bd.returns] at h; cases h)
      refine ⟨_, _, ck10 _ ?_, hrun, hended, _, _, rfl, ?_, ⟨_, rfl⟩, hW, hsame.mono (by decide) (by decide)⟩
      · refine XS.icmpNo X0.here hx rfl (hb hby d8_33) rfl (tlt hc33_9).2.1 ?_
        refine XS.iload X0.here hx rfl (hb hby d8_36) rfl ?_
        refine XS.iconst X0.here hx rfl (hb hby d8_38) ?_
        refine XS.iadd X0.here hx rfl (hb hby d8_39) rfl ?_
        refine XS.istore X0.here hx rfl (hb hby d8_40) rfl (l' := #[.val (.ref d), .val (.int (0 : Int32)), .val (.int (2 : Int32)), .val (.int q), .val (.int (2 : Int32)), .val (.int (1 : Int32)), .val (.int (1 : Int32)), .val (.int c1)]) rfl ?_
        refine XS.goto X0.here hx rfl (pc0 := 42) (pc' := 63) rfl (hb hby d8_42) (by decide) (by decide) ?_
        refine XS.goto X0.here hx rfl (pc0 := 63) (pc' := 8) rfl (hb hby d8_63) (by decide) (by decide) ?_
        refine XS.iload X0.here hx rfl (hb hby d8_8) rfl ?_
        refine XS.iload X0.here hx rfl (hb hby d8_10) rfl ?_
        refine XS.icmpYes X0.here hx rfl (pc0 := 12) (pc' := 66) rfl (hb hby d8_12) rfl (tlt (by decide : (1 : Int32) < (2 : Int32))).2.2.1 (by decide) (by decide) ?_
        refine XS.iload X0.here hx rfl (hb hby d8_66) rfl ?_
        refine XS.iconst X0.here hx rfl (hb hby d8_68) ?_
        refine XS.iadd X0.here hx rfl (hb hby d8_69) rfl ?_
        refine XS.ineg X0.here hx rfl (hb hby d8_70) rfl ?_
        exact retOut X0 hx Bd.returns rfl (Or.inl ⟨rfl, Or.inl rfl, _, rfl⟩) (hb hby d8_71) hr
      · show own_BS (c0.toInt = q.toInt ∨ c1.toInt = q.toInt) h0 n0 _ s₁.heap _
        rw [e0]
        exact ⟨(-3 : Int32), rfl, N0, rfl, (fun _ => by omega), (fun h => absurd (by decide) h)⟩
    · -- pc 33: no
      by_cases hc48_11 : q < c1
      · -- pc 48: yes
        have ff1 := rng32 c0
        have ff2 := rng32 q
        have d_hc33_6 := hc33_6; rw [Int32.lt_iff_toInt_lt] at d_hc33_6
        have ff3 := rng32 c1
        have d_hc33_9 := hc33_9; rw [Int32.lt_iff_toInt_lt] at d_hc33_9
        have d_hc48_11 := hc48_11; rw [Int32.lt_iff_toInt_lt] at d_hc48_11
        obtain ⟨fs, hr, hrun, hended, hW, hsame⟩ := X0.leave (v := some (.int (-2 : Int32))) (fun h => by rw [Bd.returns] at h; cases h)
        refine ⟨_, _, ck10 _ ?_, hrun, hended, _, _, rfl, ?_, ⟨_, rfl⟩, hW, hsame.mono (by decide) (by decide)⟩
        · refine XS.icmpYes X0.here hx rfl (pc0 := 33) (pc' := 45) rfl (hb hby d8_33) rfl (flt hc33_9).2.1 (by decide) (by decide) ?_
          refine XS.iload X0.here hx rfl (hb hby d8_45) rfl ?_
          refine XS.iloadN X0.here hx rfl (hb hby d8_47) rfl ?_
          refine XS.icmpNo X0.here hx rfl (hb hby d8_48) rfl (tlt hc48_11).2.2.2 ?_
          refine XS.iload X0.here hx rfl (hb hby d8_51) rfl ?_
          refine XS.iconst X0.here hx rfl (hb hby d8_53) ?_
          refine XS.isub X0.here hx rfl (hb hby d8_54) rfl ?_
          refine XS.istore X0.here hx rfl (hb hby d8_55) rfl (l' := #[.val (.ref d), .val (.int (0 : Int32)), .val (.int (2 : Int32)), .val (.int q), .val (.int (1 : Int32)), .val (.int (0 : Int32)), .val (.int (1 : Int32)), .val (.int c1)]) rfl ?_
          refine XS.goto X0.here hx rfl (pc0 := 57) (pc' := 63) rfl (hb hby d8_57) (by decide) (by decide) ?_
          refine XS.goto X0.here hx rfl (pc0 := 63) (pc' := 8) rfl (hb hby d8_63) (by decide) (by decide) ?_
          refine XS.iload X0.here hx rfl (hb hby d8_8) rfl ?_
          refine XS.iload X0.here hx rfl (hb hby d8_10) rfl ?_
          refine XS.icmpYes X0.here hx rfl (pc0 := 12) (pc' := 66) rfl (hb hby d8_12) rfl (tlt (by decide : (0 : Int32) < (1 : Int32))).2.2.1 (by decide) (by decide) ?_
          refine XS.iload X0.here hx rfl (hb hby d8_66) rfl ?_
          refine XS.iconst X0.here hx rfl (hb hby d8_68) ?_
          refine XS.iadd X0.here hx rfl (hb hby d8_69) rfl ?_
          refine XS.ineg X0.here hx rfl (hb hby d8_70) rfl ?_
          exact retOut X0 hx Bd.returns rfl (Or.inl ⟨rfl, Or.inl rfl, _, rfl⟩) (hb hby d8_71) hr
        · show own_BS (c0.toInt = q.toInt ∨ c1.toInt = q.toInt) h0 n0 _ s₁.heap _
          rw [e0]
          exact ⟨(-2 : Int32), rfl, N0, rfl, (fun _ => by omega), (fun h => absurd (by decide) h)⟩
      · -- pc 48: no
        have ff1 := rng32 c0
        have ff2 := rng32 q
        have d_hc33_6 := hc33_6; rw [Int32.lt_iff_toInt_lt] at d_hc33_6
        have ff3 := rng32 c1
        have d_hc33_9 := hc33_9; rw [Int32.lt_iff_toInt_lt] at d_hc33_9
        have d_hc48_11 := hc48_11; rw [Int32.lt_iff_toInt_lt] at d_hc48_11
        obtain ⟨fs, hr, hrun, hended, hW, hsame⟩ := X0.leave (v := some (.int (1 : Int32))) (fun h => by rw [Bd.returns] at h; cases h)
        refine ⟨_, _, ck10 _ ?_, hrun, hended, _, _, rfl, ?_, ⟨_, rfl⟩, hW, hsame.mono (by decide) (by decide)⟩
        · refine XS.icmpYes X0.here hx rfl (pc0 := 33) (pc' := 45) rfl (hb hby d8_33) rfl (flt hc33_9).2.1 (by decide) (by decide) ?_
          refine XS.iload X0.here hx rfl (hb hby d8_45) rfl ?_
          refine XS.iloadN X0.here hx rfl (hb hby d8_47) rfl ?_
          refine XS.icmpYes X0.here hx rfl (pc0 := 48) (pc' := 60) rfl (hb hby d8_48) rfl (flt hc48_11).2.2.2 (by decide) (by decide) ?_
          refine XS.iload X0.here hx rfl (hb hby d8_60) rfl ?_
          exact retOut X0 hx Bd.returns rfl (Or.inl ⟨rfl, Or.inl rfl, _, rfl⟩) (hb hby d8_62) hr
        · show own_BS (c0.toInt = q.toInt ∨ c1.toInt = q.toInt) h0 n0 _ s₁.heap _
          rw [e0]
          exact ⟨(1 : Int32), rfl, N0, rfl, (fun h => absurd h (by decide)), (fun _ => by omega)⟩
  · -- pc 33: no
    by_cases hc48_12 : q < c0
    · -- pc 48: yes
      have ff1 := rng32 c0
      have ff2 := rng32 q
      have d_hc33_6 := hc33_6; rw [Int32.lt_iff_toInt_lt] at d_hc33_6
      have d_hc48_12 := hc48_12; rw [Int32.lt_iff_toInt_lt] at d_hc48_12
      obtain ⟨fs, hr, hrun, hended, hW, hsame⟩ := X0.leave (v := some (.int (-1 : Int32))) (fun h => by rw [Bd.returns] at h; cases h)
      refine ⟨_, _, ck7 _ ?_, hrun, hended, _, _, rfl, ?_, ⟨_, rfl⟩, hW, hsame.mono (by decide) (by decide)⟩
      · refine XS.icmpYes X0.here hx rfl (pc0 := 33) (pc' := 45) rfl (hb hby d8_33) rfl (flt hc33_6).2.1 (by decide) (by decide) ?_
        refine XS.iload X0.here hx rfl (hb hby d8_45) rfl ?_
        refine XS.iloadN X0.here hx rfl (hb hby d8_47) rfl ?_
        refine XS.icmpNo X0.here hx rfl (hb hby d8_48) rfl (tlt hc48_12).2.2.2 ?_
        refine XS.iload X0.here hx rfl (hb hby d8_51) rfl ?_
        refine XS.iconst X0.here hx rfl (hb hby d8_53) ?_
        refine XS.isub X0.here hx rfl (hb hby d8_54) rfl ?_
        refine XS.istore X0.here hx rfl (hb hby d8_55) rfl (l' := #[.val (.ref d), .val (.int (0 : Int32)), .val (.int (2 : Int32)), .val (.int q), .val (.int (0 : Int32)), .val (.int (-1 : Int32)), .val (.int (0 : Int32)), .val (.int c0)]) rfl ?_
        refine XS.goto X0.here hx rfl (pc0 := 57) (pc' := 63) rfl (hb hby d8_57) (by decide) (by decide) ?_
        refine XS.goto X0.here hx rfl (pc0 := 63) (pc' := 8) rfl (hb hby d8_63) (by decide) (by decide) ?_
        refine XS.iload X0.here hx rfl (hb hby d8_8) rfl ?_
        refine XS.iload X0.here hx rfl (hb hby d8_10) rfl ?_
        refine XS.icmpYes X0.here hx rfl (pc0 := 12) (pc' := 66) rfl (hb hby d8_12) rfl (tlt (by decide : (-1 : Int32) < (0 : Int32))).2.2.1 (by decide) (by decide) ?_
        refine XS.iload X0.here hx rfl (hb hby d8_66) rfl ?_
        refine XS.iconst X0.here hx rfl (hb hby d8_68) ?_
        refine XS.iadd X0.here hx rfl (hb hby d8_69) rfl ?_
        refine XS.ineg X0.here hx rfl (hb hby d8_70) rfl ?_
        exact retOut X0 hx Bd.returns rfl (Or.inl ⟨rfl, Or.inl rfl, _, rfl⟩) (hb hby d8_71) hr
      · show own_BS (c0.toInt = q.toInt ∨ c1.toInt = q.toInt) h0 n0 _ s₁.heap _
        rw [e0]
        exact ⟨(-1 : Int32), rfl, N0, rfl, (fun _ => by omega), (fun h => absurd (by decide) h)⟩
    · -- pc 48: no
      have ff1 := rng32 c0
      have ff2 := rng32 q
      have d_hc33_6 := hc33_6; rw [Int32.lt_iff_toInt_lt] at d_hc33_6
      have d_hc48_12 := hc48_12; rw [Int32.lt_iff_toInt_lt] at d_hc48_12
      obtain ⟨fs, hr, hrun, hended, hW, hsame⟩ := X0.leave (v := some (.int (0 : Int32))) (fun h => by rw [Bd.returns] at h; cases h)
      refine ⟨_, _, ck7 _ ?_, hrun, hended, _, _, rfl, ?_, ⟨_, rfl⟩, hW, hsame.mono (by decide) (by decide)⟩
      · refine XS.icmpYes X0.here hx rfl (pc0 := 33) (pc' := 45) rfl (hb hby d8_33) rfl (flt hc33_6).2.1 (by decide) (by decide) ?_
        refine XS.iload X0.here hx rfl (hb hby d8_45) rfl ?_
        refine XS.iloadN X0.here hx rfl (hb hby d8_47) rfl ?_
        refine XS.icmpYes X0.here hx rfl (pc0 := 48) (pc' := 60) rfl (hb hby d8_48) rfl (flt hc48_12).2.2.2 (by decide) (by decide) ?_
        refine XS.iload X0.here hx rfl (hb hby d8_60) rfl ?_
        exact retOut X0 hx Bd.returns rfl (Or.inl ⟨rfl, Or.inl rfl, _, rfl⟩) (hb hby d8_62) hr
      · show own_BS (c0.toInt = q.toInt ∨ c1.toInt = q.toInt) h0 n0 _ s₁.heap _
        rw [e0]
        exact ⟨(0 : Int32), rfl, N0, rfl, (fun h => absurd h (by decide)), (fun _ => by omega)⟩
theorem ef_rm_bs_2 (m : MethodId) (x0 : Addr) (x1 : Int32) : entryFrame m #[(.ref x0), (.int x1)] 2 = mkF m 0 #[.val (.ref x0), .val (.int x1)] [] := by first | (simp [entryFrame, mkF, argsToLocals, Value.category]; done) | rfl
set_option maxRecDepth 65536 in
set_option maxHeartbeats 40000000 in
theorem rm_bs_2 (l : Launch) (Z : State) (a0 : Array Value) (hw : ∀ d ∈ tables_1, d.before a0 Z = true) (ws : List Jvm.Cond) (d : Addr) (q : Int32) (h0 : Heap) (n0 : Nat) (Z0 : n0 ≤ h0.size) (kd : ClassId) (c0 c1 : Int32) (A_d : Arv Z h0 d kd .int (2 : Int32) [(.int c0), (.int c1)] (.int (0 : Int32))) (hs : 0 ≤ c0.toInt ∧ c0.toInt ≤ c1.toInt) :
    MetFree l (⟨"java/util/Arrays", "binarySearch", "([II)I"⟩ : MethodName) (head1 (Jvm.Cond.code (⟨"java/util/Arrays", "binarySearch", "([II)I"⟩ : MethodName) jdk_65_method_57_code 2 (some .int) :: ws) ({ frames := 1, cells := 0, slots := 0, locals := 19 } : Room)) (fun aQ UQ => aQ = #[(.ref d), (.int q)] ∧ Z.Warmed39 UQ.vm ∧ UQ.heap = h0) (fun _ _ _ _ _ => True) (fun _ UQ oQ UR => ∃ vQ LQ, oQ = .returned vQ ∧ own_BS (c0.toInt = q.toInt ∨ c1.toInt = q.toInt) h0 n0 vQ UR.heap LQ ∧ FrameEnd UQ oQ UR LQ ({ frames := 1, cells := 0, slots := 0, locals := 19 } : Room).cells ({ frames := 1, cells := 0, slots := 0, locals := 19 } : Room).slots) := by
  refine MetFree.of_bodySF (plainFor_of_name pn_29) hisR ?_
  intro p e s m args below meth c s₁ Bd hml0 hP hK
  obtain ⟨rfl, hZ, hh⟩ := hP
  have hx := Bd.exec
  have hby := Bd.bytes
  have hml : c.maxLocals = 2 := hml0
  have hown : s.vm.findClass "java/util/Arrays" = some m.cls := findClass_of_methodNamed Bd.named
  have hnm := (name_of_methodNamed Bd.named Bd.method).1
  have X0 : Stand p l e ({ frames := 1, cells := 0, slots := 0, locals := 19 } : Room) s m #[(.ref d), (.int q)] below meth c s₁ [] 0 0 := Stand.of_body Bd
  have e0 : s₁.heap = h0 := by rw [← hh, Bd.state]; rfl
  have N0 := Fr.nil n0
  have pre0 : ∀ t, Steps p.tables e below (s₁.setTop (mkF m 0 #[.val (.ref d), .val (.int q)] [])) t → Steps p.tables e below (s₁.setTop (entryFrame m #[(.ref d), (.int q)] 2)) t := fun t kq => castTop (ef_rm_bs_2 m d q) kq
  have Vc13 := A_d
  obtain ⟨cl13, Ar13, q13, S13, N13_, H13_, G13⟩ := Vc13
  obtain ⟨_, _, ⟨T14, L14, k14, n14⟩, -, X14, ⟨Lc14, hQ14, l14, y14, z14⟩, st14⟩ := Jvm.LawKit.callS X0 hx (y := (⟨"java/util/Arrays", "binarySearch0", "([IIII)I"⟩ : MethodName)) hown (mvT hZ (own_q hw 42 rfl)) (mvT hZ (own_q hw 43 rfl)) (mvT hZ (own_q hw 40 rfl)) (mvT hZ (own_q hw 44 rfl)) (by decide) (backOf (W := 0) (rm_bs0_2 l Z a0 hw [] d q h0 n0 Z0 kd c0 c1 A_d hs) hZ (own_q hw 44 rfl) (own_q hw 40 rfl) (by decide) (by decide)) (g := (mkF m 5 #[.val (.ref d), .val (.int q)] [(.int q), (.int (2 : Int32)), (.int (0 : Int32)), (.ref d)])) rfl (by rw [hml]; rfl) (argsL := [(.ref d), (.int (0 : Int32)), (.int (2 : Int32)), (.int q)]) (rest := []) (lenOf pd_35 rfl) rfl (by show 2 * 0 + _ ≤ _; exact Nat.le_of_eq rfl) (hb hby d7_5) (fun _ _ => ⟨rfl, e0, (by decide : 0 + 0 ≤ _), (by decide : 0 + 0 ≤ _)⟩)
  dsimp only [Pt.U, Pt.locs, Pt.cells, Pt.slots] at X14 l14 y14 z14 st14 hQ14
  subst l14 y14 z14
  obtain ⟨ri, rfl, N14q, e14, hr1, hr2⟩ := hQ14
  have N14 := Fr.app N0 N14q
  obtain ⟨fs, hr, hrun, hended, hW, hsame⟩ := X14.leave (v := some (.int ri)) (fun h => by rw [Bd.returns] at h; cases h)
  refine ⟨_, _, pre0 _ ?_, hrun, hended, _, _, rfl, ?_, ⟨_, rfl⟩, hW, hsame.mono (by decide) (by decide)⟩
  · refine XS.aloadN X0.here hx rfl (hb hby d7_0) rfl rfl ?_
    refine XS.iconst X0.here hx rfl (hb hby d7_1) ?_
    refine XS.aloadN X0.here hx rfl (hb hby d7_2) rfl rfl ?_
    refine X0.arraylength hx (by rw [e0]; exact Ar13.1) (State.isArrayOf_alike hZ.alike Ar13.2.1) (g := (mkF m 3 #[.val (.ref d), .val (.int q)] [(.ref d), (.int (0 : Int32)), (.ref d)])) rfl rfl (hb hby d7_3) _ ?_
    rw [len_of S13 N13_]
    show Steps p.tables e below (s₁.setTop (mkF m 4 #[.val (.ref d), .val (.int q)] [(.int (2 : Int32)), (.int (0 : Int32)), (.ref d)])) _
    refine XS.iloadN X0.here hx rfl (hb hby d7_4) rfl ?_
    refine st14 _ ?_
    show Steps p.tables e below (T14.setTop (mkF m 8 #[.val (.ref d), .val (.int q)] [(.int ri)])) _
    exact retOut X14 hx Bd.returns rfl (Or.inl ⟨rfl, Or.inl rfl, _, rfl⟩) (hb hby d7_8) hr
  · show own_BS (c0.toInt = q.toInt ∨ c1.toInt = q.toInt) h0 n0 _ T14.heap _
    rw [e14]
    exact ⟨ri, rfl, N14, rfl, hr1, hr2⟩
theorem ef_rm_bs0_3 (m : MethodId) (x0 : Addr) (x3 : Int32) : entryFrame m #[(.ref x0), (.int (0 : Int32)), (.int (3 : Int32)), (.int x3)] 8 = mkF m 0 #[.val (.ref x0), .val (.int (0 : Int32)), .val (.int (3 : Int32)), .val (.int x3), .unset, .unset, .unset, .unset] [] := by first | (simp [entryFrame, mkF, argsToLocals, Value.category]; done) | rfl
set_option maxRecDepth 65536 in
set_option maxHeartbeats 40000000 in
theorem rm_bs0_3 (l : Launch) (Z : State) (a0 : Array Value) (hw : ∀ d ∈ tables_1, d.before a0 Z = true) (ws : List Jvm.Cond) (d : Addr) (q : Int32) (h0 : Heap) (n0 : Nat) (Z0 : n0 ≤ h0.size) (kd : ClassId) (c0 c1 c2 : Int32) (A_d : Arv Z h0 d kd .int (3 : Int32) [(.int c0), (.int c1), (.int c2)] (.int (0 : Int32))) (hs : 0 ≤ c0.toInt ∧ c0.toInt ≤ c1.toInt ∧ c1.toInt ≤ c2.toInt) :
    MetFree l (⟨"java/util/Arrays", "binarySearch0", "([IIII)I"⟩ : MethodName) (head1 (Jvm.Cond.code (⟨"java/util/Arrays", "binarySearch0", "([IIII)I"⟩ : MethodName) jdk_65_method_59_code 8 (some .int) :: ws) ({ frames := 0, cells := 0, slots := 0, locals := 0 } : Room)) (fun aQ UQ => aQ = #[(.ref d), (.int (0 : Int32)), (.int (3 : Int32)), (.int q)] ∧ Z.Warmed39 UQ.vm ∧ UQ.heap = h0) (fun _ _ _ _ _ => True) (fun _ UQ oQ UR => ∃ vQ LQ, oQ = .returned vQ ∧ own_BS (c0.toInt = q.toInt ∨ c1.toInt = q.toInt ∨ c2.toInt = q.toInt) h0 n0 vQ UR.heap LQ ∧ FrameEnd UQ oQ UR LQ ({ frames := 0, cells := 0, slots := 0, locals := 0 } : Room).cells ({ frames := 0, cells := 0, slots := 0, locals := 0 } : Room).slots) := by
  refine MetFree.of_bodySF (plainFor_of_name pn_29) hisR ?_
  intro p e s m args below meth c s₁ Bd hml0 hP hK
  obtain ⟨rfl, hZ, hh⟩ := hP
  have hx := Bd.exec
  have hby := Bd.bytes
  have hml : c.maxLocals = 8 := hml0
  have hown : s.vm.findClass "java/util/Arrays" = some m.cls := findClass_of_methodNamed Bd.named
  have hnm := (name_of_methodNamed Bd.named Bd.method).1
  have X0 : Stand p l e ({ frames := 0, cells := 0, slots := 0, locals := 0 } : Room) s m #[(.ref d), (.int (0 : Int32)), (.int (3 : Int32)), (.int q)] below meth c s₁ [] 0 0 := Stand.of_body Bd
  have e0 : s₁.heap = h0 := by rw [← hh, Bd.state]; rfl
  have N0 := Fr.nil n0
  have pre0 : ∀ t, Steps p.tables e below (s₁.setTop (mkF m 0 #[.val (.ref d), .val (.int (0 : Int32)), .val (.int (3 : Int32)), .val (.int q), .unset, .unset, .unset, .unset] [])) t → Steps p.tables e below (s₁.setTop (entryFrame m #[(.ref d), (.int (0 : Int32)), (.int (3 : Int32)), (.int q)] 8)) t := fun t kq => castTop (ef_rm_bs0_3 m d q) kq
  have Vc15 := A_d
  obtain ⟨cl15, Ar15, q15, S15, N15_, H15_, G15⟩ := Vc15
  have hin15 : ¬ ((1 : Int32) < 0 ∨ cl15.slots.size ≤ ((1 : Int32)).toNatClampNeg) := inb_of S15 ⟨by decide, by decide⟩
  have hat15 : cl15.slots[((1 : Int32)).toNatClampNeg]? = some (.int c1) := Has.at H15_ hin15 rfl
  have ck17 : ∀ t, Steps p.tables e below (s₁.setTop (mkF m 33 #[.val (.ref d), .val (.int (0 : Int32)), .val (.int (3 : Int32)), .val (.int q), .val (.int (0 : Int32)), .val (.int (2 : Int32)), .val (.int (1 : Int32)), .val (.int c1)] [(.int q), (.int c1)])) t → Steps p.tables e below (s₁.setTop (entryFrame m #[(.ref d), (.int (0 : Int32)), (.int (3 : Int32)), (.int q)] 8)) t := by
    intro t kt
    refine pre0 _ ?_
    refine XS.iloadN X0.here hx rfl (hb hby d8_0) rfl ?_
    refine XS.istore X0.here hx rfl (hb hby d8_1) rfl (l' := #[.val (.ref d), .val (.int (0 : Int32)), .val (.int (3 : Int32)), .val (.int q), .val (.int (0 : Int32)), .unset, .unset, .unset]) rfl ?_
    refine XS.iloadN X0.here hx rfl (hb hby d8_3) rfl ?_
    refine XS.iconst X0.here hx rfl (hb hby d8_4) ?_
    refine XS.isub X0.here hx rfl (hb hby d8_5) rfl ?_
    refine XS.istore X0.here hx rfl (hb hby d8_6) rfl (l' := #[.val (.ref d), .val (.int (0 : Int32)), .val (.int (3 : Int32)), .val (.int q), .val (.int (0 : Int32)), .val (.int (2 : Int32)), .unset, .unset]) rfl ?_
    refine XS.iload X0.here hx rfl (hb hby d8_8) rfl ?_
    refine XS.iload X0.here hx rfl (hb hby d8_10) rfl ?_
    refine XS.icmpNo X0.here hx rfl (hb hby d8_12) rfl (flt (by decide : ¬ ((2 : Int32) < (0 : Int32)))).2.2.1 ?_
    refine XS.iload X0.here hx rfl (hb hby d8_15) rfl ?_
    refine XS.iload X0.here hx rfl (hb hby d8_17) rfl ?_
    refine XS.iadd X0.here hx rfl (hb hby d8_19) rfl ?_
    refine XS.iconst X0.here hx rfl (hb hby d8_20) ?_
    refine XS.iushr X0.here hx rfl (hb hby d8_21) rfl ?_
    show Steps p.tables e below (s₁.setTop (mkF m 22 #[.val (.ref d), .val (.int (0 : Int32)), .val (.int (3 : Int32)), .val (.int q), .val (.int (0 : Int32)), .val (.int (2 : Int32)), .unset, .unset] [(.int (((2 : Int32).toUInt32 >>> ((1 : Int32) &&& 31).toUInt32).toInt32))])) _
    rw [(by decide : (((2 : Int32).toUInt32 >>> ((1 : Int32) &&& 31).toUInt32).toInt32) = (1 : Int32))]
    show Steps p.tables e below (s₁.setTop (mkF m 22 #[.val (.ref d), .val (.int (0 : Int32)), .val (.int (3 : Int32)), .val (.int q), .val (.int (0 : Int32)), .val (.int (2 : Int32)), .unset, .unset] [(.int (1 : Int32))])) _
    refine XS.istore X0.here hx rfl (hb hby d8_22) rfl (l' := #[.val (.ref d), .val (.int (0 : Int32)), .val (.int (3 : Int32)), .val (.int q), .val (.int (0 : Int32)), .val (.int (2 : Int32)), .val (.int (1 : Int32)), .unset]) rfl ?_
    refine XS.aloadN X0.here hx rfl (hb hby d8_24) rfl rfl ?_
    refine XS.iload X0.here hx rfl (hb hby d8_25) rfl ?_
    refine X0.iaload hx (j := (1 : Int32)) (v := (.int c1)) (by rw [e0]; exact Ar15.1) (State.isArrayOf_alike hZ.alike Ar15.2.1) Ar15.2.2 hin15 hat15 (g := (mkF m 27 #[.val (.ref d), .val (.int (0 : Int32)), .val (.int (3 : Int32)), .val (.int q), .val (.int (0 : Int32)), .val (.int (2 : Int32)), .val (.int (1 : Int32)), .unset] [(.int (1 : Int32)), (.ref d)])) rfl rfl (hb hby d8_27) _ ?_
    show Steps p.tables e below (s₁.setTop (mkF m 28 #[.val (.ref d), .val (.int (0 : Int32)), .val (.int (3 : Int32)), .val (.int q), .val (.int (0 : Int32)), .val (.int (2 : Int32)), .val (.int (1 : Int32)), .unset] [(.int c1)])) _
    refine XS.istore X0.here hx rfl (hb hby d8_28) rfl (l' := #[.val (.ref d), .val (.int (0 : Int32)), .val (.int (3 : Int32)), .val (.int q), .val (.int (0 : Int32)), .val (.int (2 : Int32)), .val (.int (1 : Int32)), .val (.int c1)]) rfl ?_
    refine XS.iload X0.here hx rfl (hb hby d8_30) rfl ?_
    refine XS.iloadN X0.here hx rfl (hb hby d8_32) rfl ?_
    exact kt
  (try clear hat15); (try clear hin15); (try clear G15); (try clear H15_); (try clear N15_); (try clear S15); (try clear q15); (try clear Ar15); (try clear cl15)
  by_cases hc33_16 : c1 < q
  · -- pc 33: yes
    have Vc18 := A_d
    obtain ⟨cl18, Ar18, q18, S18, N18_, H18_, G18⟩ := Vc18
    have hin18 : ¬ ((2 : Int32) < 0 ∨ cl18.slots.size ≤ ((2 : Int32)).toNatClampNeg) := inb_of S18 ⟨by decide, by decide⟩
    have hat18 : cl18.slots[((2 : Int32)).toNatClampNeg]? = some (.int c2) := Has.at H18_ hin18 rfl
    have ck20 : ∀ t, Steps p.tables e below (s₁.setTop (mkF m 33 #[.val (.ref d), .val (.int (0 : Int32)), .val (.int (3 : Int32)), .val (.int q), .val (.int (2 : Int32)), .val (.int (2 : Int32)), .val (.int (2 : Int32)), .val (.int c2)] [(.int q), (.int c2)])) t → Steps p.tables e below (s₁.setTop (entryFrame m #[(.ref d), (.int (0 : Int32)), (.int (3 : Int32)), (.int q)] 8)) t := by
      intro t kt
      refine ck17 _ ?_
      refine XS.icmpNo X0.here hx rfl (hb hby d8_33) rfl (tlt hc33_16).2.1 ?_
      refine XS.iload X0.here hx rfl (hb hby d8_36) rfl ?_
      refine XS.iconst X0.here hx rfl (hb hby d8_38) ?_
      refine XS.iadd X0.here hx rfl (hb hby d8_39) rfl ?_
      refine XS.istore X0.here hx rfl (hb hby d8_40) rfl (l' := #[.val (.ref d), .val (.int (0 : Int32)), .val (.int (3 : Int32)), .val (.int q), .val (.int (2 : Int32)), .val (.int (2 : Int32)), .val (.int (1 : Int32)), .val (.int c1)]) rfl ?_
      refine XS.goto X0.here hx rfl (pc0 := 42) (pc' := 63) rfl (hb hby d8_42) (by decide) (by decide) ?_
      refine XS.goto X0.here hx rfl (pc0 := 63) (pc' := 8) rfl (hb hby d8_63) (by decide) (by decide) ?_
      refine XS.iload X0.here hx rfl (hb hby d8_8) rfl ?_
      refine XS.iload X0.here hx rfl (hb hby d8_10) rfl ?_
      refine XS.icmpNo X0.here hx rfl (hb hby d8_12) rfl (flt (by decide : ¬ ((2 : Int32) < (2 : Int32)))).2.2.1 ?_
      refine XS.iload X0.here hx rfl (hb hby d8_15) rfl ?_
      refine XS.iload X0.here hx rfl (hb hby d8_17) rfl ?_
      refine XS.iadd X0.here hx rfl (hb hby d8_19) rfl ?_
      refine XS.iconst X0.here hx rfl (hb hby d8_20) ?_
      refine XS.iushr X0.here hx rfl (hb hby d8_21) rfl ?_
      show Steps p.tables e below (s₁.setTop (mkF m 22 #[.val (.ref d), .val (.int (0 : Int32)), .val (.int (3 : Int32)), .val (.int q), .val (.int (2 : Int32)), .val (.int (2 : Int32)), .val (.int (1 : Int32)), .val (.int c1)] [(.int (((4 : Int32).toUInt32 >>> ((1 : Int32) &&& 31).toUInt32).toInt32))])) _
      rw [(by decide : (((4 : Int32).toUInt32 >>> ((1 : Int32) &&& 31).toUInt32).toInt32) = (2 : Int32))]
      show Steps p.tables e below (s₁.setTop (mkF m 22 #[.val (.ref d), .val (.int (0 : Int32)), .val (.int (3 : Int32)), .val (.int q), .val (.int (2 : Int32)), .val (.int (2 : Int32)), .val (.int (1 : Int32)), .val (.int c1)] [(.int (2 : Int32))])) _
      refine XS.istore X0.here hx rfl (hb hby d8_22) rfl (l' := #[.val (.ref d), .val (.int (0 : Int32)), .val (.int (3 : Int32)), .val (.int q), .val (.int (2 : Int32)), .val (.int (2 : Int32)), .val (.int (2 : Int32)), .val (.int c1)]) rfl ?_
      refine XS.aloadN X0.here hx rfl (hb hby d8_24) rfl rfl ?_
      refine XS.iload X0.here hx rfl (hb hby d8_25) rfl ?_
      refine X0.iaload hx (j := (2 : Int32)) (v := (.int c2)) (by rw [e0]; exact Ar18.1) (State.isArrayOf_alike hZ.alike Ar18.2.1) Ar18.2.2 hin18 hat18 (g := (mkF m 27 #[.val (.ref d), .val (.int (0 : Int32)), .val (.int (3 : Int32)), .val (.int q), .val (.int (2 : Int32)), .val (.int (2 : Int32)), .val (.int (2 : Int32)), .val (.int c1)] [(.int (2 : Int32)), (.ref d)])) rfl rfl (hb hby d8_27) _ ?_
      show Steps p.tables e below (s₁.setTop (mkF m 28 #[.val (.ref d), .val (.int (0 : Int32)), .val (.int (3 : Int32)), .val (.int q), .val (.int (2 : Int32)), .val (.int (2 : Int32)), .val (.int (2 : Int32)), .val (.int c1)] [(.int c2)])) _
      refine XS.istore X0.here hx rfl (hb hby d8_28) rfl (l' := #[.val (.ref d), .val (.int (0 : Int32)), .val (.int (3 : Int32)), .val (.int q), .val (.int (2 : Int32)), .val (.int (2 : Int32)), .val (.int (2 : Int32)), .val (.int c2)]) rfl ?_
      refine XS.iload X0.here hx rfl (hb hby d8_30) rfl ?_
      refine XS.iloadN X0.here hx rfl (hb hby d8_32) rfl ?_
      exact kt
    (try clear hat18); (try clear hin18); (try clear G18); (try clear H18_); (try clear N18_); (try clear S18); (try clear q18); (try clear Ar18); (try clear cl18)
    by_cases hc33_19 : c2 < q
    · -- pc 33: yes
      have ff1 := rng32 c1
      have ff2 := rng32 q
      have d_hc33_16 := hc33_16; rw [Int32.lt_iff_toInt_lt] at d_hc33_16
      have ff3 := rng32 c2
      have d_hc33_19 := hc33_19; rw [Int32.lt_iff_toInt_lt] at d_hc33_19
      obtain ⟨fs, hr, hrun, hended, hW, hsame⟩ := X0.leave (v := some (.int (-4 : Int32))) (fun h => by rw [Bd.returns] at h; cases h)
      refine ⟨_, _, ck20 _ ?_, hrun, hended, _, _, rfl, ?_, ⟨_, rfl⟩, hW, hsame.mono (by decide) (by decide)⟩
      · refine XS.icmpNo X0.here hx rfl (hb hby d8_33) rfl (tlt hc33_19).2.1 ?_
        refine XS.iload X0.here hx rfl (hb hby d8_36) rfl ?_
        refine XS.iconst X0.here hx rfl (hb hby d8_38) ?_
        refine XS.iadd X0.here hx rfl (hb hby d8_39) rfl ?_
        refine XS.istore X0.here hx rfl (hb hby d8_40) rfl (l' := #[.val (.ref d), .val (.int (0 : Int32)), .val (.int (3 : Int32)), .val (.int q), .val (.int (3 : Int32)), .val (.int (2 : Int32)), .val (.int (2 : Int32)), .val (.int c2)]) rfl ?_
        refine XS.goto X0.here hx rfl (pc0 := 42) (pc' := 63) rfl (hb hby d8_42) (by decide) (by decide) ?_
        refine XS.goto X0.here hx rfl (pc0 := 63) (pc' := 8) rfl (hb hby d8_63) (by decide) (by decide) ?_
        refine XS.iload X0.here hx rfl (hb hby d8_8) rfl ?_
        refine XS.iload X0.here hx rfl (hb hby d8_10) rfl ?_
        refine XS.icmpYes X0.here hx rfl (pc0 := 12) (pc' := 66) rfl (hb hby d8_12) rfl (tlt (by decide : (2 : Int32) < (3 : Int32))).2.2.1 (by decide) (by decide) ?_
        refine XS.iload X0.here hx rfl (hb hby d8_66) rfl ?_
        refine XS.iconst X0.here hx rfl (hb hby d8_68) ?_
        refine XS.iadd X0.here hx rfl (hb hby d8_69) rfl ?_
        refine XS.ineg X0.here hx rfl (hb hby d8_70) rfl ?_
        exact retOut X0 hx Bd.returns rfl (Or.inl ⟨rfl, Or.inl rfl, _, rfl⟩) (hb hby d8_71) hr
      · show own_BS (c0.toInt = q.toInt ∨ c1.toInt = q.toInt ∨ c2.toInt = q.toInt) h0 n0 _ s₁.heap _
        rw [e0]
        exact ⟨(-4 : Int32), rfl, N0, rfl, (fun _ => by omega), (fun h => absurd (by decide) h)⟩
    · -- pc 33: no
      by_cases hc48_21 : q < c2
      · -- pc 48: yes
        have ff1 := rng32 c1
        have ff2 := rng32 q
        have d_hc33_16 := hc33_16; rw [Int32.lt_iff_toInt_lt] at d_hc33_16
        have ff3 := rng32 c2
        have d_hc33_19 := hc33_19; rw [Int32.lt_iff_toInt_lt] at d_hc33_19
        have d_hc48_21 := hc48_21; rw [Int32.lt_iff_toInt_lt] at d_hc48_21
        obtain ⟨fs, hr, hrun, hended, hW, hsame⟩ := X0.leave (v := some (.int (-3 : Int32))) (fun h => by rw [Bd.returns] at h; cases h)
        refine ⟨_, _, ck20 _ ?_, hrun, hended, _, _, rfl, ?_, ⟨_, rfl⟩, hW, hsame.mono (by decide) (by decide)⟩
        · refine XS.icmpYes X0.here hx rfl (pc0 := 33) (pc' := 45) rfl (hb hby d8_33) rfl (flt hc33_19).2.1 (by decide) (by decide) ?_
          refine XS.iload X0.here hx rfl (hb hby d8_45) rfl ?_
          refine XS.iloadN X0.here hx rfl (hb hby d8_47) rfl ?_
          refine XS.icmpNo X0.here hx rfl (hb hby d8_48) rfl (tlt hc48_21).2.2.2 ?_
          refine XS.iload X0.here hx rfl (hb hby d8_51) rfl ?_
          refine XS.iconst X0.here hx rfl (hb hby d8_53) ?_
          refine XS.isub X0.here hx rfl (hb hby d8_54) rfl ?_
          refine XS.istore X0.here hx rfl (hb hby d8_55) rfl (l' := #[.val (.ref d), .val (.int (0 : Int32)), .val (.int (3 : Int32)), .val (.int q), .val (.int (2 : Int32)), .val (.int (1 : Int32)), .val (.int (2 : Int32)), .val (.int c2)]) rfl ?_
          refine XS.goto X0.here hx rfl (pc0 := 57) (pc' := 63) rfl (hb hby d8_57) (by decide) (by decide) ?_
          refine XS.goto X0.here hx rfl (pc0 := 63) (pc' := 8) rfl (hb hby d8_63) (by decide) (by decide) ?_
          refine XS.iload X0.here hx rfl (hb hby d8_8) rfl ?_
          refine XS.iload X0.here hx rfl (hb hby d8_10) rfl ?_
          refine XS.icmpYes X0.here hx rfl (pc0 := 12) (pc' := 66) rfl (hb hby d8_12) rfl (tlt (by decide : (1 : Int32) < (2 : Int32))).2.2.1 (by decide) (by decide) ?_
          refine XS.iload X0.here hx rfl (hb hby d8_66) rfl ?_
          refine XS.iconst X0.here hx rfl (hb hby d8_68) ?_
          refine XS.iadd X0.here hx rfl (hb hby d8_69) rfl ?_
          refine XS.ineg X0.here hx rfl (hb hby d8_70) rfl ?_
          exact retOut X0 hx Bd.returns rfl (Or.inl ⟨rfl, Or.inl rfl, _, rfl⟩) (hb hby d8_71) hr
        · show own_BS (c0.toInt = q.toInt ∨ c1.toInt = q.toInt ∨ c2.toInt = q.toInt) h0 n0 _ s₁.heap _
          rw [e0]
          exact ⟨(-3 : Int32), rfl, N0, rfl, (fun _ => by omega), (fun h => absurd (by decide) h)⟩
      · -- pc 48: no
        have ff1 := rng32 c1
        have ff2 := rng32 q
        have d_hc33_16 := hc33_16; rw [Int32.lt_iff_toInt_lt] at d_hc33_16
        have ff3 := rng32 c2
        have d_hc33_19 := hc33_19; rw [Int32.lt_iff_toInt_lt] at d_hc33_19
        have d_hc48_21 := hc48_21; rw [Int32.lt_iff_toInt_lt] at d_hc48_21
        obtain ⟨fs, hr, hrun, hended, hW, hsame⟩ := X0.leave (v := some (.int (2 : Int32))) (fun h => by rw [Bd.returns] at h; cases h)
        refine ⟨_, _, ck20 _ ?_, hrun, hended, _, _, rfl, ?_, ⟨_, rfl⟩, hW, hsame.mono (by decide) (by decide)⟩
        · refine XS.icmpYes X0.here hx rfl (pc0 := 33) (pc' := 45) rfl (hb hby d8_33) rfl (flt hc33_19).2.1 (by decide) (by decide) ?_
          refine XS.iload X0.here hx rfl (hb hby d8_45) rfl ?_
          refine XS.iloadN X0.here hx rfl (hb hby d8_47) rfl ?_
          refine XS.icmpYes X0.here hx rfl (pc0 := 48) (pc' := 60) rfl (hb hby d8_48) rfl (flt hc48_21).2.2.2 (by decide) (by decide) ?_
          refine XS.iload X0.here hx rfl (hb hby d8_60) rfl ?_
          exact retOut X0 hx Bd.returns rfl (Or.inl ⟨rfl, Or.inl rfl, _, rfl⟩) (hb hby d8_62) hr
        · show own_BS (c0.toInt = q.toInt ∨ c1.toInt = q.toInt ∨ c2.toInt = q.toInt) h0 n0 _ s₁.heap _
          rw [e0]
          exact ⟨(2 : Int32), rfl, N0, rfl, (fun h => absurd h (by decide)), (fun _ => by omega)⟩
  · -- pc 33: no
    by_cases hc48_22 : q < c1
    · -- pc 48: yes
      have Vc23 := A_d
      obtain ⟨cl23, Ar23, q23, S23, N23_, H23_, G23⟩ := Vc23
      have hin23 : ¬ ((0 : Int32) < 0 ∨ cl23.slots.size ≤ ((0 : Int32)).toNatClampNeg) := inb_of S23 ⟨by decide, by decide⟩
      have hat23 : cl23.slots[((0 : Int32)).toNatClampNeg]? = some (.int c0) := Has.at H23_ hin23 rfl
      have ck25 : ∀ t, Steps p.tables e below (s₁.setTop (mkF m 33 #[.val (.ref d), .val (.int (0 : Int32)), .val (.int (3 : Int32)), .val (.int q), .val (.int (0 : Int32)), .val (.int (0 : Int32)), .val (.int (0 : Int32)), .val (.int c0)] [(.int q), (.int c0)])) t → Steps p.tables e below (s₁.setTop (entryFrame m #[(.ref d), (.int (0 : Int32)), (.int (3 : Int32)), (.int q)] 8)) t := by
        intro t kt
        refine ck17 _ ?_
        refine XS.icmpYes X0.here hx rfl (pc0 := 33) (pc' := 45) rfl (hb hby d8_33) rfl (flt hc33_16).2.1 (by decide) (by decide) ?_
        refine XS.iload X0.here hx rfl (hb hby d8_45) rfl ?_
        refine XS.iloadN X0.here hx rfl (hb hby d8_47) rfl ?_
        refine XS.icmpNo X0.here hx rfl (hb hby d8_48) rfl (tlt hc48_22).2.2.2 ?_
        refine XS.iload X0.here hx rfl (hb hby d8_51) rfl ?_
        refine XS.iconst X0.here hx rfl (hb hby d8_53) ?_
        refine XS.isub X0.here hx rfl (hb hby d8_54) rfl ?_
        refine XS.istore X0.here hx rfl (hb hby d8_55) rfl (l' := #[.val (.ref d), .val (.int (0 : Int32)), .val (.int (3 : Int32)), .val (.int q), .val (.int (0 : Int32)), .val (.int (0 : Int32)), .val (.int (1 : Int32)), .val (.int c1)]) rfl ?_
        refine XS.goto X0.here hx rfl (pc0 := 57) (pc' := 63) rfl (hb hby d8_57) (by decide) (by decide) ?_
        refine XS.goto X0.here hx rfl (pc0 := 63) (pc' := 8) rfl (hb hby d8_63) (by decide) (by decide) ?_
        refine XS.iload X0.here hx rfl (hb hby d8_8) rfl ?_
        refine XS.iload X0.here hx rfl (hb hby d8_10) rfl ?_
        refine XS.icmpNo X0.here hx rfl (hb hby d8_12) rfl (flt (by decide : ¬ ((0 : Int32) < (0 : Int32)))).2.2.1 ?_
        refine XS.iload X0.here hx rfl (hb hby d8_15) rfl ?_
        refine XS.iload X0.here hx rfl (hb hby d8_17) rfl ?_
        refine XS.iadd X0.here hx rfl (hb hby d8_19) rfl ?_
        refine XS.iconst X0.here hx rfl (hb hby d8_20) ?_
        refine XS.iushr X0.here hx rfl (hb hby d8_21) rfl ?_
        show Steps p.tables e below (s₁.setTop (mkF m 22 #[.val (.ref d), .val (.int (0 : Int32)), .val (.int (3 : Int32)), .val (.int q), .val (.int (0 : Int32)), .val (.int (0 : Int32)), .val (.int (1 : Int32)), .val (.int c1)] [(.int (((0 : Int32).toUInt32 >>> ((1 : Int32) &&& 31).toUInt32).toInt32))])) _
        rw [(by decide : (((0 : Int32).toUInt32 >>> ((1 : Int32) &&& 31).toUInt32).toInt32) = (0 : Int32))]
        show Steps p.tables e below (s₁.setTop (mkF m 22 #[.val (.ref d), .val (.int (0 : Int32)), .val (.int (3 : Int32)), .val (.int q), .val (.int (0 : Int32)), .val (.int (0 : Int32)), .val (.int (1 : Int32)), .val (.int c1)] [(.int (0 : Int32))])) _
        refine XS.istore X0.here hx rfl (hb hby d8_22) rfl (l' := #[.val (.ref d), .val (.int (0 : Int32)), .val (.int (3 : Int32)), .val (.int q), .val (.int (0 : Int32)), .val (.int (0 : Int32)), .val (.int (0 : Int32)), .val (.int c1)]) rfl ?_
        refine XS.aloadN X0.here hx rfl (hb hby d8_24) rfl rfl ?_
        refine XS.iload X0.here hx rfl (hb hby d8_25) rfl ?_
        refine X0.iaload hx (j := (0 : Int32)) (v := (.int c0)) (by rw [e0]; exact Ar23.1) (State.isArrayOf_alike hZ.alike Ar23.2.1) Ar23.2.2 hin23 hat23 (g := (mkF m 27 #[.val (.ref d), .val (.int (0 : Int32)), .val (.int (3 : Int32)), .val (.int q), .val (.int (0 : Int32)), .val (.int (0 : Int32)), .val (.int (0 : Int32)), .val (.int c1)] [(.int (0 : Int32)), (.ref d)])) rfl rfl (hb hby d8_27) _ ?_
        show Steps p.tables e below (s₁.setTop (mkF m 28 #[.val (.ref d), .val (.int (0 : Int32)), .val (.int (3 : Int32)), .val (.int q), .val (.int (0 : Int32)), .val (.int (0 : Int32)), .val (.int (0 : Int32)), .val (.int c1)] [(.int c0)])) _
        refine XS.istore X0.here hx rfl (hb hby d8_28) rfl (l' := #[.val (.ref d), .val (.int (0 : Int32)), .val (.int (3 : Int32)), .val (.int q), .val (.int (0 : Int32)), .val (.int (0 : Int32)), .val (.int (0 : Int32)), .val (.int c0)]) rfl ?_
        refine XS.iload X0.here hx rfl (hb hby d8_30) rfl ?_
        refine XS.iloadN X0.here hx rfl (hb hby d8_32) rfl ?_
        exact kt
      (try clear hat23); (try clear hin23); (try clear G23); (try clear H23_); (try clear N23_); (try clear S23); (try clear q23); (try clear Ar23); (try clear cl23)
      by_cases hc33_24 : c0 < q
      · -- pc 33: yes
        have ff1 := rng32 c1
        have ff2 := rng32 q
        have d_hc33_16 := hc33_16; rw [Int32.lt_iff_toInt_lt] at d_hc33_16
        have d_hc48_22 := hc48_22; rw [Int32.lt_iff_toInt_lt] at d_hc48_22
        have ff3 := rng32 c0
        have d_hc33_24 := hc33_24; rw [Int32.lt_iff_toInt_lt] at d_hc33_24
        obtain ⟨fs, hr, hrun, hended, hW, hsame⟩ := X0.leave (v := some (.int (-2 : Int32))) (fun h => by rw [Bd.returns] at h; cases h)
        refine ⟨_, _, ck25 _ ?_, hrun, hended, _, _, rfl, ?_, ⟨_, rfl⟩, hW, hsame.mono (by decide) (by decide)⟩
        · refine XS.icmpNo X0.here hx rfl (hb hby d8_33) rfl (tlt hc33_24).2.1 ?_
          refine XS.iload X0.here hx rfl (hb hby d8_36) rfl ?_
          refine XS.iconst X0.here hx rfl (hb hby d8_38) ?_
          refine XS.iadd X0.here hx rfl (hb hby d8_39) rfl ?_
          refine XS.istore X0.here hx rfl (hb hby d8_40) rfl (l' := #[.val (.ref d), .val (.int (0 : Int32)), .val (.int (3 : Int32)), .val (.int q), .val (.int (1 : Int32)), .val (.int (0 : Int32)), .val (.int (0 : Int32)), .val (.int c0)]) rfl ?_
          refine XS.goto X0.here hx rfl (pc0 := 42) (pc' := 63) rfl (hb hby d8_42) (by decide) (by decide) ?_
          refine XS.goto X0.here hx rfl (pc0 := 63) (pc' := 8) rfl (hb hby d8_63) (by decide) (by decide) ?_
          refine XS.iload X0.here hx rfl (hb hby d8_8) rfl ?_
          refine XS.iload X0.here hx rfl (hb hby d8_10) rfl ?_
          refine XS.icmpYes X0.here hx rfl (pc0 := 12) (pc' := 66) rfl (hb hby d8_12) rfl (tlt (by decide : (0 : Int32) < (1 : Int32))).2.2.1 (by decide) (by decide) ?_
          refine XS.iload X0.here hx rfl (hb hby d8_66) rfl ?_
          refine XS.iconst X0.here hx rfl (hb hby d8_68) ?_
          refine XS.iadd X0.here hx rfl (hb hby d8_69) rfl ?_
          refine XS.ineg X0.here hx rfl (hb hby d8_70) rfl ?_
          exact retOut X0 hx Bd.returns rfl (Or.inl ⟨rfl, Or.inl rfl, _, rfl⟩) (hb hby d8_71) hr
        · show own_BS (c0.toInt = q.toInt ∨ c1.toInt = q.toInt ∨ c2.toInt = q.toInt) h0 n0 _ s₁.heap _
          rw [e0]
          exact ⟨(-2 : Int32), rfl, N0, rfl, (fun _ => by omega), (fun h => absurd (by decide) h)⟩
      · -- pc 33: no
        by_cases hc48_26 : q < c0
        · -- pc 48: yes
          have ff1 := rng32 c1
          have ff2 := rng32 q
          have d_hc33_16 := hc33_16; rw [Int32.lt_iff_toInt_lt] at d_hc33_16
          have d_hc48_22 := hc48_22; rw [Int32.lt_iff_toInt_lt] at d_hc48_22
          have ff3 := rng32 c0
          have d_hc33_24 := hc33_24; rw [Int32.lt_iff_toInt_lt] at d_hc33_24
          have d_hc48_26 := hc48_26; rw [Int32.lt_iff_toInt_lt] at d_hc48_26
          obtain ⟨fs, hr, hrun, hended, hW, hsame⟩ := X0.leave (v := some (.int (-1 : Int32))) (fun h => by rw [Bd.returns] at h; cases h)
          refine ⟨_, _, ck25 _ ?_, hrun, hended, _, _, rfl, ?_, ⟨_, rfl⟩, hW, hsame.mono (by decide) (by decide)⟩
          · refine XS.icmpYes X0.here hx rfl (pc0 := 33) (pc' := 45) rfl (hb hby d8_33) rfl (flt hc33_24).2.1 (by decide) (by decide) ?_
            refine XS.iload X0.here hx rfl (hb hby d8_45) rfl ?_
            refine XS.iloadN X0.here hx rfl (hb hby d8_47) rfl ?_
            refine XS.icmpNo X0.here hx rfl (hb hby d8_48) rfl (tlt hc48_26).2.2.2 ?_
            refine XS.iload X0.here hx rfl (hb hby d8_51) rfl ?_
            refine XS.iconst X0.here hx rfl (hb hby d8_53) ?_
            refine XS.isub X0.here hx rfl (hb hby d8_54) rfl ?_
            refine XS.istore X0.here hx rfl (hb hby d8_55) rfl (l' := #[.val (.ref d), .val (.int (0 : Int32)), .val (.int (3 : Int32)), .val (.int q), .val (.int (0 : Int32)), .val (.int (-1 : Int32)), .val (.int (0 : Int32)), .val (.int c0)]) rfl ?_
            refine XS.goto X0.here hx rfl (pc0 := 57) (pc' := 63) rfl (hb hby d8_57) (by decide) (by decide) ?_
            refine XS.goto X0.here hx rfl (pc0 := 63) (pc' := 8) rfl (hb hby d8_63) (by decide) (by decide) ?_
            refine XS.iload X0.here hx rfl (hb hby d8_8) rfl ?_
            refine XS.iload X0.here hx rfl (hb hby d8_10) rfl ?_
            refine XS.icmpYes X0.here hx rfl (pc0 := 12) (pc' := 66) rfl (hb hby d8_12) rfl (tlt (by decide : (-1 : Int32) < (0 : Int32))).2.2.1 (by decide) (by decide) ?_
            refine XS.iload X0.here hx rfl (hb hby d8_66) rfl ?_
            refine XS.iconst X0.here hx rfl (hb hby d8_68) ?_
            refine XS.iadd X0.here hx rfl (hb hby d8_69) rfl ?_
            refine XS.ineg X0.here hx rfl (hb hby d8_70) rfl ?_
            exact retOut X0 hx Bd.returns rfl (Or.inl ⟨rfl, Or.inl rfl, _, rfl⟩) (hb hby d8_71) hr
          · show own_BS (c0.toInt = q.toInt ∨ c1.toInt = q.toInt ∨ c2.toInt = q.toInt) h0 n0 _ s₁.heap _
            rw [e0]
            exact ⟨(-1 : Int32), rfl, N0, rfl, (fun _ => by omega), (fun h => absurd (by decide) h)⟩
        · -- pc 48: no
          have ff1 := rng32 c1
          have ff2 := rng32 q
          have d_hc33_16 := hc33_16; rw [Int32.lt_iff_toInt_lt] at d_hc33_16
          have d_hc48_22 := hc48_22; rw [Int32.lt_iff_toInt_lt] at d_hc48_22
          have ff3 := rng32 c0
          have d_hc33_24 := hc33_24; rw [Int32.lt_iff_toInt_lt] at d_hc33_24
          have d_hc48_26 := hc48_26; rw [Int32.lt_iff_toInt_lt] at d_hc48_26
          obtain ⟨fs, hr, hrun, hended, hW, hsame⟩ := X0.leave (v := some (.int (0 : Int32))) (fun h => by rw [Bd.returns] at h; cases h)
          refine ⟨_, _, ck25 _ ?_, hrun, hended, _, _, rfl, ?_, ⟨_, rfl⟩, hW, hsame.mono (by decide) (by decide)⟩
          · refine XS.icmpYes X0.here hx rfl (pc0 := 33) (pc' := 45) rfl (hb hby d8_33) rfl (flt hc33_24).2.1 (by decide) (by decide) ?_
            refine XS.iload X0.here hx rfl (hb hby d8_45) rfl ?_
            refine XS.iloadN X0.here hx rfl (hb hby d8_47) rfl ?_
            refine XS.icmpYes X0.here hx rfl (pc0 := 48) (pc' := 60) rfl (hb hby d8_48) rfl (flt hc48_26).2.2.2 (by decide) (by decide) ?_
            refine XS.iload X0.here hx rfl (hb hby d8_60) rfl ?_
            exact retOut X0 hx Bd.returns rfl (Or.inl ⟨rfl, Or.inl rfl, _, rfl⟩) (hb hby d8_62) hr
          · show own_BS (c0.toInt = q.toInt ∨ c1.toInt = q.toInt ∨ c2.toInt = q.toInt) h0 n0 _ s₁.heap _
            rw [e0]
            exact ⟨(0 : Int32), rfl, N0, rfl, (fun h => absurd h (by decide)), (fun _ => by omega)⟩
    · -- pc 48: no
      have ff1 := rng32 c1
      have ff2 := rng32 q
      have d_hc33_16 := hc33_16; rw [Int32.lt_iff_toInt_lt] at d_hc33_16
      have d_hc48_22 := hc48_22; rw [Int32.lt_iff_toInt_lt] at d_hc48_22
      obtain ⟨fs, hr, hrun, hended, hW, hsame⟩ := X0.leave (v := some (.int (1 : Int32))) (fun h => by rw [Bd.returns] at h; cases h)
      refine ⟨_, _, ck17 _ ?_, hrun, hended, _, _, rfl, ?_, ⟨_, rfl⟩, hW, hsame.mono (by decide) (by decide)⟩
      · refine XS.icmpYes X0.here hx rfl (pc0 := 33) (pc' := 45) rfl (hb hby d8_33) rfl (flt hc33_16).2.1 (by decide) (by decide) ?_
        refine XS.iload X0.here hx rfl (hb hby d8_45) rfl ?_
        refine XS.iloadN X0.here hx rfl (hb hby d8_47) rfl ?_
        refine XS.icmpYes X0.here hx rfl (pc0 := 48) (pc' := 60) rfl (hb hby d8_48) rfl (flt hc48_22).2.2.2 (by decide) (by decide) ?_
        refine XS.iload X0.here hx rfl (hb hby d8_60) rfl ?_
        exact retOut X0 hx Bd.returns rfl (Or.inl ⟨rfl, Or.inl rfl, _, rfl⟩) (hb hby d8_62) hr
      · show own_BS (c0.toInt = q.toInt ∨ c1.toInt = q.toInt ∨ c2.toInt = q.toInt) h0 n0 _ s₁.heap _
        rw [e0]
        exact ⟨(1 : Int32), rfl, N0, rfl, (fun h => absurd h (by decide)), (fun _ => by omega)⟩
theorem ef_rm_bs_3 (m : MethodId) (x0 : Addr) (x1 : Int32) : entryFrame m #[(.ref x0), (.int x1)] 2 = mkF m 0 #[.val (.ref x0), .val (.int x1)] [] := by first | (simp [entryFrame, mkF, argsToLocals, Value.category]; done) | rfl
set_option maxRecDepth 65536 in
set_option maxHeartbeats 40000000 in
theorem rm_bs_3 (l : Launch) (Z : State) (a0 : Array Value) (hw : ∀ d ∈ tables_1, d.before a0 Z = true) (ws : List Jvm.Cond) (d : Addr) (q : Int32) (h0 : Heap) (n0 : Nat) (Z0 : n0 ≤ h0.size) (kd : ClassId) (c0 c1 c2 : Int32) (A_d : Arv Z h0 d kd .int (3 : Int32) [(.int c0), (.int c1), (.int c2)] (.int (0 : Int32))) (hs : 0 ≤ c0.toInt ∧ c0.toInt ≤ c1.toInt ∧ c1.toInt ≤ c2.toInt) :
    MetFree l (⟨"java/util/Arrays", "binarySearch", "([II)I"⟩ : MethodName) (head1 (Jvm.Cond.code (⟨"java/util/Arrays", "binarySearch", "([II)I"⟩ : MethodName) jdk_65_method_57_code 2 (some .int) :: ws) ({ frames := 1, cells := 0, slots := 0, locals := 19 } : Room)) (fun aQ UQ => aQ = #[(.ref d), (.int q)] ∧ Z.Warmed39 UQ.vm ∧ UQ.heap = h0) (fun _ _ _ _ _ => True) (fun _ UQ oQ UR => ∃ vQ LQ, oQ = .returned vQ ∧ own_BS (c0.toInt = q.toInt ∨ c1.toInt = q.toInt ∨ c2.toInt = q.toInt) h0 n0 vQ UR.heap LQ ∧ FrameEnd UQ oQ UR LQ ({ frames := 1, cells := 0, slots := 0, locals := 19 } : Room).cells ({ frames := 1, cells := 0, slots := 0, locals := 19 } : Room).slots) := by
  refine MetFree.of_bodySF (plainFor_of_name pn_29) hisR ?_
  intro p e s m args below meth c s₁ Bd hml0 hP hK
  obtain ⟨rfl, hZ, hh⟩ := hP
  have hx := Bd.exec
  have hby := Bd.bytes
  have hml : c.maxLocals = 2 := hml0
  have hown : s.vm.findClass "java/util/Arrays" = some m.cls := findClass_of_methodNamed Bd.named
  have hnm := (name_of_methodNamed Bd.named Bd.method).1
  have X0 : Stand p l e ({ frames := 1, cells := 0, slots := 0, locals := 19 } : Room) s m #[(.ref d), (.int q)] below meth c s₁ [] 0 0 := Stand.of_body Bd
  have e0 : s₁.heap = h0 := by rw [← hh, Bd.state]; rfl
  have N0 := Fr.nil n0
  have pre0 : ∀ t, Steps p.tables e below (s₁.setTop (mkF m 0 #[.val (.ref d), .val (.int q)] [])) t → Steps p.tables e below (s₁.setTop (entryFrame m #[(.ref d), (.int q)] 2)) t := fun t kq => castTop (ef_rm_bs_3 m d q) kq
  have Vc27 := A_d
  obtain ⟨cl27, Ar27, q27, S27, N27_, H27_, G27⟩ := Vc27
  obtain ⟨_, _, ⟨T28, L28, k28, n28⟩, -, X28, ⟨Lc28, hQ28, l28, y28, z28⟩, st28⟩ := Jvm.LawKit.callS X0 hx (y := (⟨"java/util/Arrays", "binarySearch0", "([IIII)I"⟩ : MethodName)) hown (mvT hZ (own_q hw 42 rfl)) (mvT hZ (own_q hw 43 rfl)) (mvT hZ (own_q hw 40 rfl)) (mvT hZ (own_q hw 44 rfl)) (by decide) (backOf (W := 0) (rm_bs0_3 l Z a0 hw [] d q h0 n0 Z0 kd c0 c1 c2 A_d hs) hZ (own_q hw 44 rfl) (own_q hw 40 rfl) (by decide) (by decide)) (g := (mkF m 5 #[.val (.ref d), .val (.int q)] [(.int q), (.int (3 : Int32)), (.int (0 : Int32)), (.ref d)])) rfl (by rw [hml]; rfl) (argsL := [(.ref d), (.int (0 : Int32)), (.int (3 : Int32)), (.int q)]) (rest := []) (lenOf pd_35 rfl) rfl (by show 2 * 0 + _ ≤ _; exact Nat.le_of_eq rfl) (hb hby d7_5) (fun _ _ => ⟨rfl, e0, (by decide : 0 + 0 ≤ _), (by decide : 0 + 0 ≤ _)⟩)
  dsimp only [Pt.U, Pt.locs, Pt.cells, Pt.slots] at X28 l28 y28 z28 st28 hQ28
  subst l28 y28 z28
  obtain ⟨ri, rfl, N28q, e28, hr1, hr2⟩ := hQ28
  have N28 := Fr.app N0 N28q
  obtain ⟨fs, hr, hrun, hended, hW, hsame⟩ := X28.leave (v := some (.int ri)) (fun h => by rw [Bd.returns] at h; cases h)
  refine ⟨_, _, pre0 _ ?_, hrun, hended, _, _, rfl, ?_, ⟨_, rfl⟩, hW, hsame.mono (by decide) (by decide)⟩
  · refine XS.aloadN X0.here hx rfl (hb hby d7_0) rfl rfl ?_
    refine XS.iconst X0.here hx rfl (hb hby d7_1) ?_
    refine XS.aloadN X0.here hx rfl (hb hby d7_2) rfl rfl ?_
    refine X0.arraylength hx (by rw [e0]; exact Ar27.1) (State.isArrayOf_alike hZ.alike Ar27.2.1) (g := (mkF m 3 #[.val (.ref d), .val (.int q)] [(.ref d), (.int (0 : Int32)), (.ref d)])) rfl rfl (hb hby d7_3) _ ?_
    rw [len_of S27 N27_]
    show Steps p.tables e below (s₁.setTop (mkF m 4 #[.val (.ref d), .val (.int q)] [(.int (3 : Int32)), (.int (0 : Int32)), (.ref d)])) _
    refine XS.iloadN X0.here hx rfl (hb hby d7_4) rfl ?_
    refine st28 _ ?_
    show Steps p.tables e below (T28.setTop (mkF m 8 #[.val (.ref d), .val (.int q)] [(.int ri)])) _
    exact retOut X28 hx Bd.returns rfl (Or.inl ⟨rfl, Or.inl rfl, _, rfl⟩) (hb hby d7_8) hr
  · show own_BS (c0.toInt = q.toInt ∨ c1.toInt = q.toInt ∨ c2.toInt = q.toInt) h0 n0 _ T28.heap _
    rw [e28]
    exact ⟨ri, rfl, N28, rfl, hr1, hr2⟩
theorem ef_rm_bs0_4 (m : MethodId) (x0 : Addr) (x3 : Int32) : entryFrame m #[(.ref x0), (.int (0 : Int32)), (.int (4 : Int32)), (.int x3)] 8 = mkF m 0 #[.val (.ref x0), .val (.int (0 : Int32)), .val (.int (4 : Int32)), .val (.int x3), .unset, .unset, .unset, .unset] [] := by first | (simp [entryFrame, mkF, argsToLocals, Value.category]; done) | rfl
set_option maxRecDepth 65536 in
set_option maxHeartbeats 40000000 in
theorem rm_bs0_4 (l : Launch) (Z : State) (a0 : Array Value) (hw : ∀ d ∈ tables_1, d.before a0 Z = true) (ws : List Jvm.Cond) (d : Addr) (q : Int32) (h0 : Heap) (n0 : Nat) (Z0 : n0 ≤ h0.size) (kd : ClassId) (c0 c1 c2 c3 : Int32) (A_d : Arv Z h0 d kd .int (4 : Int32) [(.int c0), (.int c1), (.int c2), (.int c3)] (.int (0 : Int32))) (hs : 0 ≤ c0.toInt ∧ c0.toInt ≤ c1.toInt ∧ c1.toInt ≤ c2.toInt ∧ c2.toInt ≤ c3.toInt) :
    MetFree l (⟨"java/util/Arrays", "binarySearch0", "([IIII)I"⟩ : MethodName) (head1 (Jvm.Cond.code (⟨"java/util/Arrays", "binarySearch0", "([IIII)I"⟩ : MethodName) jdk_65_method_59_code 8 (some .int) :: ws) ({ frames := 0, cells := 0, slots := 0, locals := 0 } : Room)) (fun aQ UQ => aQ = #[(.ref d), (.int (0 : Int32)), (.int (4 : Int32)), (.int q)] ∧ Z.Warmed39 UQ.vm ∧ UQ.heap = h0) (fun _ _ _ _ _ => True) (fun _ UQ oQ UR => ∃ vQ LQ, oQ = .returned vQ ∧ own_BS (c0.toInt = q.toInt ∨ c1.toInt = q.toInt ∨ c2.toInt = q.toInt ∨ c3.toInt = q.toInt) h0 n0 vQ UR.heap LQ ∧ FrameEnd UQ oQ UR LQ ({ frames := 0, cells := 0, slots := 0, locals := 0 } : Room).cells ({ frames := 0, cells := 0, slots := 0, locals := 0 } : Room).slots) := by
  refine MetFree.of_bodySF (plainFor_of_name pn_29) hisR ?_
  intro p e s m args below meth c s₁ Bd hml0 hP hK
  obtain ⟨rfl, hZ, hh⟩ := hP
  have hx := Bd.exec
  have hby := Bd.bytes
  have hml : c.maxLocals = 8 := hml0
  have hown : s.vm.findClass "java/util/Arrays" = some m.cls := findClass_of_methodNamed Bd.named
  have hnm := (name_of_methodNamed Bd.named Bd.method).1
  have X0 : Stand p l e ({ frames := 0, cells := 0, slots := 0, locals := 0 } : Room) s m #[(.ref d), (.int (0 : Int32)), (.int (4 : Int32)), (.int q)] below meth c s₁ [] 0 0 := Stand.of_body Bd
  have e0 : s₁.heap = h0 := by rw [← hh, Bd.state]; rfl
  have N0 := Fr.nil n0
  have pre0 : ∀ t, Steps p.tables e below (s₁.setTop (mkF m 0 #[.val (.ref d), .val (.int (0 : Int32)), .val (.int (4 : Int32)), .val (.int q), .unset, .unset, .unset, .unset] [])) t → Steps p.tables e below (s₁.setTop (entryFrame m #[(.ref d), (.int (0 : Int32)), (.int (4 : Int32)), (.int q)] 8)) t := fun t kq => castTop (ef_rm_bs0_4 m d q) kq
  have Vc29 := A_d
  obtain ⟨cl29, Ar29, q29, S29, N29_, H29_, G29⟩ := Vc29
  have hin29 : ¬ ((1 : Int32) < 0 ∨ cl29.slots.size ≤ ((1 : Int32)).toNatClampNeg) := inb_of S29 ⟨by decide, by decide⟩
  have hat29 : cl29.slots[((1 : Int32)).toNatClampNeg]? = some (.int c1) := Has.at H29_ hin29 rfl
  have ck31 : ∀ t, Steps p.tables e below (s₁.setTop (mkF m 33 #[.val (.ref d), .val (.int (0 : Int32)), .val (.int (4 : Int32)), .val (.int q), .val (.int (0 : Int32)), .val (.int (3 : Int32)), .val (.int (1 : Int32)), .val (.int c1)] [(.int q), (.int c1)])) t → Steps p.tables e below (s₁.setTop (entryFrame m #[(.ref d), (.int (0 : Int32)), (.int (4 : Int32)), (.int q)] 8)) t := by
    intro t kt
    refine pre0 _ ?_
    refine XS.iloadN X0.here hx rfl (hb hby d8_0) rfl ?_
    refine XS.istore X0.here hx rfl (hb hby d8_1) rfl (l' := #[.val (.ref d), .val (.int (0 : Int32)), .val (.int (4 : Int32)), .val (.int q), .val (.int (0 : Int32)), .unset, .unset, .unset]) rfl ?_
    refine XS.iloadN X0.here hx rfl (hb hby d8_3) rfl ?_
    refine XS.iconst X0.here hx rfl (hb hby d8_4) ?_
    refine XS.isub X0.here hx rfl (hb hby d8_5) rfl ?_
    refine XS.istore X0.here hx rfl (hb hby d8_6) rfl (l' := #[.val (.ref d), .val (.int (0 : Int32)), .val (.int (4 : Int32)), .val (.int q), .val (.int (0 : Int32)), .val (.int (3 : Int32)), .unset, .unset]) rfl ?_
    refine XS.iload X0.here hx rfl (hb hby d8_8) rfl ?_
    refine XS.iload X0.here hx rfl (hb hby d8_10) rfl ?_
    refine XS.icmpNo X0.here hx rfl (hb hby d8_12) rfl (flt (by decide : ¬ ((3 : Int32) < (0 : Int32)))).2.2.1 ?_
    refine XS.iload X0.here hx rfl (hb hby d8_15) rfl ?_
    refine XS.iload X0.here hx rfl (hb hby d8_17) rfl ?_
    refine XS.iadd X0.here hx rfl (hb hby d8_19) rfl ?_
    refine XS.iconst X0.here hx rfl (hb hby d8_20) ?_
    refine XS.iushr X0.here hx rfl (hb hby d8_21) rfl ?_
    show Steps p.tables e below (s₁.setTop (mkF m 22 #[.val (.ref d), .val (.int (0 : Int32)), .val (.int (4 : Int32)), .val (.int q), .val (.int (0 : Int32)), .val (.int (3 : Int32)), .unset, .unset] [(.int (((3 : Int32).toUInt32 >>> ((1 : Int32) &&& 31).toUInt32).toInt32))])) _
    rw [(by decide : (((3 : Int32).toUInt32 >>> ((1 : Int32) &&& 31).toUInt32).toInt32) = (1 : Int32))]
    show Steps p.tables e below (s₁.setTop (mkF m 22 #[.val (.ref d), .val (.int (0 : Int32)), .val (.int (4 : Int32)), .val (.int q), .val (.int (0 : Int32)), .val (.int (3 : Int32)), .unset, .unset] [(.int (1 : Int32))])) _
    refine XS.istore X0.here hx rfl (hb hby d8_22) rfl (l' := #[.val (.ref d), .val (.int (0 : Int32)), .val (.int (4 : Int32)), .val (.int q), .val (.int (0 : Int32)), .val (.int (3 : Int32)), .val (.int (1 : Int32)), .unset]) rfl ?_
    refine XS.aloadN X0.here hx rfl (hb hby d8_24) rfl rfl ?_
    refine XS.iload X0.here hx rfl (hb hby d8_25) rfl ?_
    refine X0.iaload hx (j := (1 : Int32)) (v := (.int c1)) (by rw [e0]; exact Ar29.1) (State.isArrayOf_alike hZ.alike Ar29.2.1) Ar29.2.2 hin29 hat29 (g := (mkF m 27 #[.val (.ref d), .val (.int (0 : Int32)), .val (.int (4 : Int32)), .val (.int q), .val (.int (0 : Int32)), .val (.int (3 : Int32)), .val (.int (1 : Int32)), .unset] [(.int (1 : Int32)), (.ref d)])) rfl rfl (hb hby d8_27) _ ?_
    show Steps p.tables e below (s₁.setTop (mkF m 28 #[.val (.ref d), .val (.int (0 : Int32)), .val (.int (4 : Int32)), .val (.int q), .val (.int (0 : Int32)), .val (.int (3 : Int32)), .val (.int (1 : Int32)), .unset] [(.int c1)])) _
    refine XS.istore X0.here hx rfl (hb hby d8_28) rfl (l' := #[.val (.ref d), .val (.int (0 : Int32)), .val (.int (4 : Int32)), .val (.int q), .val (.int (0 : Int32)), .val (.int (3 : Int32)), .val (.int (1 : Int32)), .val (.int c1)]) rfl ?_
    refine XS.iload X0.here hx rfl (hb hby d8_30) rfl ?_
    refine XS.iloadN X0.here hx rfl (hb hby d8_32) rfl ?_
    exact kt
  (try clear hat29); (try clear hin29); (try clear G29); (try clear H29_); (try clear N29_); (try clear S29); (try clear q29); (try clear Ar29); (try clear cl29)
  by_cases hc33_30 : c1 < q
  · -- pc 33: yes
    have Vc32 := A_d
    obtain ⟨cl32, Ar32, q32, S32, N32_, H32_, G32⟩ := Vc32
    have hin32 : ¬ ((2 : Int32) < 0 ∨ cl32.slots.size ≤ ((2 : Int32)).toNatClampNeg) := inb_of S32 ⟨by decide, by decide⟩
    have hat32 : cl32.slots[((2 : Int32)).toNatClampNeg]? = some (.int c2) := Has.at H32_ hin32 rfl
    have ck34 : ∀ t, Steps p.tables e below (s₁.setTop (mkF m 33 #[.val (.ref d), .val (.int (0 : Int32)), .val (.int (4 : Int32)), .val (.int q), .val (.int (2 : Int32)), .val (.int (3 : Int32)), .val (.int (2 : Int32)), .val (.int c2)] [(.int q), (.int c2)])) t → Steps p.tables e below (s₁.setTop (entryFrame m #[(.ref d), (.int (0 : Int32)), (.int (4 : Int32)), (.int q)] 8)) t := by
      intro t kt
      refine ck31 _ ?_
      refine XS.icmpNo X0.here hx rfl (hb hby d8_33) rfl (tlt hc33_30).2.1 ?_
      refine XS.iload X0.here hx rfl (hb hby d8_36) rfl ?_
      refine XS.iconst X0.here hx rfl (hb hby d8_38) ?_
      refine XS.iadd X0.here hx rfl (hb hby d8_39) rfl ?_
      refine XS.istore X0.here hx rfl (hb hby d8_40) rfl (l' := #[.val (.ref d), .val (.int (0 : Int32)), .val (.int (4 : Int32)), .val (.int q), .val (.int (2 : Int32)), .val (.int (3 : Int32)), .val (.int (1 : Int32)), .val (.int c1)]) rfl ?_
      refine XS.goto X0.here hx rfl (pc0 := 42) (pc' := 63) rfl (hb hby d8_42) (by decide) (by decide) ?_
      refine XS.goto X0.here hx rfl (pc0 := 63) (pc' := 8) rfl (hb hby d8_63) (by decide) (by decide) ?_
      refine XS.iload X0.here hx rfl (hb hby d8_8) rfl ?_
      refine XS.iload X0.here hx rfl (hb hby d8_10) rfl ?_
      refine XS.icmpNo X0.here hx rfl (hb hby d8_12) rfl (flt (by decide : ¬ ((3 : Int32) < (2 : Int32)))).2.2.1 ?_
      refine XS.iload X0.here hx rfl (hb hby d8_15) rfl ?_
      refine XS.iload X0.here hx rfl (hb hby d8_17) rfl ?_
      refine XS.iadd X0.here hx rfl (hb hby d8_19) rfl ?_
      refine XS.iconst X0.here hx rfl (hb hby d8_20) ?_
      refine XS.iushr X0.here hx rfl (hb hby d8_21) rfl ?_
      show Steps p.tables e below (s₁.setTop (mkF m 22 #[.val (.ref d), .val (.int (0 : Int32)), .val (.int (4 : Int32)), .val (.int q), .val (.int (2 : Int32)), .val (.int (3 : Int32)), .val (.int (1 : Int32)), .val (.int c1)] [(.int (((5 : Int32).toUInt32 >>> ((1 : Int32) &&& 31).toUInt32).toInt32))])) _
      rw [(by decide : (((5 : Int32).toUInt32 >>> ((1 : Int32) &&& 31).toUInt32).toInt32) = (2 : Int32))]
      show Steps p.tables e below (s₁.setTop (mkF m 22 #[.val (.ref d), .val (.int (0 : Int32)), .val (.int (4 : Int32)), .val (.int q), .val (.int (2 : Int32)), .val (.int (3 : Int32)), .val (.int (1 : Int32)), .val (.int c1)] [(.int (2 : Int32))])) _
      refine XS.istore X0.here hx rfl (hb hby d8_22) rfl (l' := #[.val (.ref d), .val (.int (0 : Int32)), .val (.int (4 : Int32)), .val (.int q), .val (.int (2 : Int32)), .val (.int (3 : Int32)), .val (.int (2 : Int32)), .val (.int c1)]) rfl ?_
      refine XS.aloadN X0.here hx rfl (hb hby d8_24) rfl rfl ?_
      refine XS.iload X0.here hx rfl (hb hby d8_25) rfl ?_
      refine X0.iaload hx (j := (2 : Int32)) (v := (.int c2)) (by rw [e0]; exact Ar32.1) (State.isArrayOf_alike hZ.alike Ar32.2.1) Ar32.2.2 hin32 hat32 (g := (mkF m 27 #[.val (.ref d), .val (.int (0 : Int32)), .val (.int (4 : Int32)), .val (.int q), .val (.int (2 : Int32)), .val (.int (3 : Int32)), .val (.int (2 : Int32)), .val (.int c1)] [(.int (2 : Int32)), (.ref d)])) rfl rfl (hb hby d8_27) _ ?_
      show Steps p.tables e below (s₁.setTop (mkF m 28 #[.val (.ref d), .val (.int (0 : Int32)), .val (.int (4 : Int32)), .val (.int q), .val (.int (2 : Int32)), .val (.int (3 : Int32)), .val (.int (2 : Int32)), .val (.int c1)] [(.int c2)])) _
      refine XS.istore X0.here hx rfl (hb hby d8_28) rfl (l' := #[.val (.ref d), .val (.int (0 : Int32)), .val (.int (4 : Int32)), .val (.int q), .val (.int (2 : Int32)), .val (.int (3 : Int32)), .val (.int (2 : Int32)), .val (.int c2)]) rfl ?_
      refine XS.iload X0.here hx rfl (hb hby d8_30) rfl ?_
      refine XS.iloadN X0.here hx rfl (hb hby d8_32) rfl ?_
      exact kt
    (try clear hat32); (try clear hin32); (try clear G32); (try clear H32_); (try clear N32_); (try clear S32); (try clear q32); (try clear Ar32); (try clear cl32)
    by_cases hc33_33 : c2 < q
    · -- pc 33: yes
      have Vc35 := A_d
      obtain ⟨cl35, Ar35, q35, S35, N35_, H35_, G35⟩ := Vc35
      have hin35 : ¬ ((3 : Int32) < 0 ∨ cl35.slots.size ≤ ((3 : Int32)).toNatClampNeg) := inb_of S35 ⟨by decide, by decide⟩
      have hat35 : cl35.slots[((3 : Int32)).toNatClampNeg]? = some (.int c3) := Has.at H35_ hin35 rfl
      have ck37 : ∀ t, Steps p.tables e below (s₁.setTop (mkF m 33 #[.val (.ref d), .val (.int (0 : Int32)), .val (.int (4 : Int32)), .val (.int q), .val (.int (3 : Int32)), .val (.int (3 : Int32)), .val (.int (3 : Int32)), .val (.int c3)] [(.int q), (.int c3)])) t → Steps p.tables e below (s₁.setTop (entryFrame m #[(.ref d), (.int (0 : Int32)), (.int (4 : Int32)), (.int q)] 8)) t := by
        intro t kt
        refine ck34 _ ?_
        refine XS.icmpNo X0.here hx rfl (hb hby d8_33) rfl (tlt hc33_33).2.1 ?_
        refine XS.iload X0.here hx rfl (hb hby d8_36) rfl ?_
        refine XS.iconst X0.here hx rfl (hb hby d8_38) ?_
        refine XS.iadd X0.here hx rfl (hb hby d8_39) rfl ?_
        refine XS.istore X0.here hx rfl (hb hby d8_40) rfl (l' := #[.val (.ref d), .val (.int (0 : Int32)), .val (.int (4 : Int32)), .val (.int q), .val (.int (3 : Int32)), .val (.int (3 : Int32)), .val (.int (2 : Int32)), .val (.int c2)]) rfl ?_
        refine XS.goto X0.here hx rfl (pc0 := 42) (pc' := 63) rfl (hb hby d8_42) (by decide) (by decide) ?_
        refine XS.goto X0.here hx rfl (pc0 := 63) (pc' := 8) rfl (hb hby d8_63) (by decide) (by decide) ?_
        refine XS.iload X0.here hx rfl (hb hby d8_8) rfl ?_
        refine XS.iload X0.here hx rfl (hb hby d8_10) rfl ?_
        refine XS.icmpNo X0.here hx rfl (hb hby d8_12) rfl (flt (by decide : ¬ ((3 : Int32) < (3 : Int32)))).2.2.1 ?_
        refine XS.iload X0.here hx rfl (hb hby d8_15) rfl ?_
        refine XS.iload X0.here hx rfl (hb hby d8_17) rfl ?_
        refine XS.iadd X0.here hx rfl (hb hby d8_19) rfl ?_
        refine XS.iconst X0.here hx rfl (hb hby d8_20) ?_
        refine XS.iushr X0.here hx rfl (hb hby d8_21) rfl ?_
        show Steps p.tables e below (s₁.setTop (mkF m 22 #[.val (.ref d), .val (.int (0 : Int32)), .val (.int (4 : Int32)), .val (.int q), .val (.int (3 : Int32)), .val (.int (3 : Int32)), .val (.int (2 : Int32)), .val (.int c2)] [(.int (((6 : Int32).toUInt32 >>> ((1 : Int32) &&& 31).toUInt32).toInt32))])) _
        rw [(by decide : (((6 : Int32).toUInt32 >>> ((1 : Int32) &&& 31).toUInt32).toInt32) = (3 : Int32))]
        show Steps p.tables e below (s₁.setTop (mkF m 22 #[.val (.ref d), .val (.int (0 : Int32)), .val (.int (4 : Int32)), .val (.int q), .val (.int (3 : Int32)), .val (.int (3 : Int32)), .val (.int (2 : Int32)), .val (.int c2)] [(.int (3 : Int32))])) _
        refine XS.istore X0.here hx rfl (hb hby d8_22) rfl (l' := #[.val (.ref d), .val (.int (0 : Int32)), .val (.int (4 : Int32)), .val (.int q), .val (.int (3 : Int32)), .val (.int (3 : Int32)), .val (.int (3 : Int32)), .val (.int c2)]) rfl ?_
        refine XS.aloadN X0.here hx rfl (hb hby d8_24) rfl rfl ?_
        refine XS.iload X0.here hx rfl (hb hby d8_25) rfl ?_
        refine X0.iaload hx (j := (3 : Int32)) (v := (.int c3)) (by rw [e0]; exact Ar35.1) (State.isArrayOf_alike hZ.alike Ar35.2.1) Ar35.2.2 hin35 hat35 (g := (mkF m 27 #[.val (.ref d), .val (.int (0 : Int32)), .val (.int (4 : Int32)), .val (.int q), .val (.int (3 : Int32)), .val (.int (3 : Int32)), .val (.int (3 : Int32)), .val (.int c2)] [(.int (3 : Int32)), (.ref d)])) rfl rfl (hb hby d8_27) _ ?_
        show Steps p.tables e below (s₁.setTop (mkF m 28 #[.val (.ref d), .val (.int (0 : Int32)), .val (.int (4 : Int32)), .val (.int q), .val (.int (3 : Int32)), .val (.int (3 : Int32)), .val (.int (3 : Int32)), .val (.int c2)] [(.int c3)])) _
        refine XS.istore X0.here hx rfl (hb hby d8_28) rfl (l' := #[.val (.ref d), .val (.int (0 : Int32)), .val (.int (4 : Int32)), .val (.int q), .val (.int (3 : Int32)), .val (.int (3 : Int32)), .val (.int (3 : Int32)), .val (.int c3)]) rfl ?_
        refine XS.iload X0.here hx rfl (hb hby d8_30) rfl ?_
        refine XS.iloadN X0.here hx rfl (hb hby d8_32) rfl ?_
        exact kt
      (try clear hat35); (try clear hin35); (try clear G35); (try clear H35_); (try clear N35_); (try clear S35); (try clear q35); (try clear Ar35); (try clear cl35)
      by_cases hc33_36 : c3 < q
      · -- pc 33: yes
        have ff1 := rng32 c1
        have ff2 := rng32 q
        have d_hc33_30 := hc33_30; rw [Int32.lt_iff_toInt_lt] at d_hc33_30
        have ff3 := rng32 c2
        have d_hc33_33 := hc33_33; rw [Int32.lt_iff_toInt_lt] at d_hc33_33
        have ff4 := rng32 c3
        have d_hc33_36 := hc33_36; rw [Int32.lt_iff_toInt_lt] at d_hc33_36
        obtain ⟨fs, hr, hrun, hended, hW, hsame⟩ := X0.leave (v := some (.int (-5 : Int32))) (fun h => by rw [Bd.returns] at h; cases h)
        refine ⟨_, _, ck37 _ ?_, hrun, hended, _, _, rfl, ?_, ⟨_, rfl⟩, hW, hsame.mono (by decide) (by decide)⟩
        · refine XS.icmpNo X0.here hx rfl (hb hby d8_33) rfl (tlt hc33_36).2.1 ?_
          refine XS.iload X0.here hx rfl (hb hby d8_36) rfl ?_
          refine XS.iconst X0.here hx rfl (hb hby d8_38) ?_
          refine XS.iadd X0.here hx rfl (hb hby d8_39) rfl ?_
          refine XS.istore X0.here hx rfl (hb hby d8_40) rfl (l' := #[.val (.ref d), .val (.int (0 : Int32)), .val (.int (4 : Int32)), .val (.int q), .val (.int (4 : Int32)), .val (.int (3 : Int32)), .val (.int (3 : Int32)), .val (.int c3)]) rfl ?_
          refine XS.goto X0.here hx rfl (pc0 := 42) (pc' := 63) rfl (hb hby d8_42) (by decide) (by decide) ?_
          refine XS.goto X0.here hx rfl (pc0 := 63) (pc' := 8) rfl (hb hby d8_63) (by decide) (by decide) ?_
          refine XS.iload X0.here hx rfl (hb hby d8_8) rfl ?_
          refine XS.iload X0.here hx rfl (hb hby d8_10) rfl ?_
          refine XS.icmpYes X0.here hx rfl (pc0 := 12) (pc' := 66) rfl (hb hby d8_12) rfl (tlt (by decide : (3 : Int32) < (4 : Int32))).2.2.1 (by decide) (by decide) ?_
          refine XS.iload X0.here hx rfl (hb hby d8_66) rfl ?_
          refine XS.iconst X0.here hx rfl (hb hby d8_68) ?_
          refine XS.iadd X0.here hx rfl (hb hby d8_69) rfl ?_
          refine XS.ineg X0.here hx rfl (hb hby d8_70) rfl ?_
          exact retOut X0 hx Bd.returns rfl (Or.inl ⟨rfl, Or.inl rfl, _, rfl⟩) (hb hby d8_71) hr
        · show own_BS (c0.toInt = q.toInt ∨ c1.toInt = q.toInt ∨ c2.toInt = q.toInt ∨ c3.toInt = q.toInt) h0 n0 _ s₁.heap _
          rw [e0]
          exact ⟨(-5 : Int32), rfl, N0, rfl, (fun _ => by omega), (fun h => absurd (by decide) h)⟩
      · -- pc 33: no
        by_cases hc48_38 : q < c3
        · -- pc 48: yes
          have ff1 := rng32 c1
          have ff2 := rng32 q
          have d_hc33_30 := hc33_30; rw [Int32.lt_iff_toInt_lt] at d_hc33_30
          have ff3 := rng32 c2
          have d_hc33_33 := hc33_33; rw [Int32.lt_iff_toInt_lt] at d_hc33_33
          have ff4 := rng32 c3
          have d_hc33_36 := hc33_36; rw [Int32.lt_iff_toInt_lt] at d_hc33_36
          have d_hc48_38 := hc48_38; rw [Int32.lt_iff_toInt_lt] at d_hc48_38
          obtain ⟨fs, hr, hrun, hended, hW, hsame⟩ := X0.leave (v := some (.int (-4 : Int32))) (fun h => by rw [Bd.returns] at h; cases h)
          refine ⟨_, _, ck37 _ ?_, hrun, hended, _, _, rfl, ?_, ⟨_, rfl⟩, hW, hsame.mono (by decide) (by decide)⟩
          · refine XS.icmpYes X0.here hx rfl (pc0 := 33) (pc' := 45) rfl (hb hby d8_33) rfl (flt hc33_36).2.1 (by decide) (by decide) ?_
            refine XS.iload X0.here hx rfl (hb hby d8_45) rfl ?_
            refine XS.iloadN X0.here hx rfl (hb hby d8_47) rfl ?_
            refine XS.icmpNo X0.here hx rfl (hb hby d8_48) rfl (tlt hc48_38).2.2.2 ?_
            refine XS.iload X0.here hx rfl (hb hby d8_51) rfl ?_
            refine XS.iconst X0.here hx rfl (hb hby d8_53) ?_
            refine XS.isub X0.here hx rfl (hb hby d8_54) rfl ?_
            refine XS.istore X0.here hx rfl (hb hby d8_55) rfl (l' := #[.val (.ref d), .val (.int (0 : Int32)), .val (.int (4 : Int32)), .val (.int q), .val (.int (3 : Int32)), .val (.int (2 : Int32)), .val (.int (3 : Int32)), .val (.int c3)]) rfl ?_
            refine XS.goto X0.here hx rfl (pc0 := 57) (pc' := 63) rfl (hb hby d8_57) (by decide) (by decide) ?_
            refine XS.goto X0.here hx rfl (pc0 := 63) (pc' := 8) rfl (hb hby d8_63) (by decide) (by decide) ?_
            refine XS.iload X0.here hx rfl (hb hby d8_8) rfl ?_
            refine XS.iload X0.here hx rfl (hb hby d8_10) rfl ?_
            refine XS.icmpYes X0.here hx rfl (pc0 := 12) (pc' := 66) rfl (hb hby d8_12) rfl (tlt (by decide : (2 : Int32) < (3 : Int32))).2.2.1 (by decide) (by decide) ?_
            refine XS.iload X0.here hx rfl (hb hby d8_66) rfl ?_
            refine XS.iconst X0.here hx rfl (hb hby d8_68) ?_
            refine XS.iadd X0.here hx rfl (hb hby d8_69) rfl ?_
            refine XS.ineg X0.here hx rfl (hb hby d8_70) rfl ?_
            exact retOut X0 hx Bd.returns rfl (Or.inl ⟨rfl, Or.inl rfl, _, rfl⟩) (hb hby d8_71) hr
          · show own_BS (c0.toInt = q.toInt ∨ c1.toInt = q.toInt ∨ c2.toInt = q.toInt ∨ c3.toInt = q.toInt) h0 n0 _ s₁.heap _
            rw [e0]
            exact ⟨(-4 : Int32), rfl, N0, rfl, (fun _ => by omega), (fun h => absurd (by decide) h)⟩
        · -- pc 48: no
          have ff1 := rng32 c1
          have ff2 := rng32 q
          have d_hc33_30 := hc33_30; rw [Int32.lt_iff_toInt_lt] at d_hc33_30
          have ff3 := rng32 c2
          have d_hc33_33 := hc33_33; rw [Int32.lt_iff_toInt_lt] at d_hc33_33
          have ff4 := rng32 c3
          have d_hc33_36 := hc33_36; rw [Int32.lt_iff_toInt_lt] at d_hc33_36
          have d_hc48_38 := hc48_38; rw [Int32.lt_iff_toInt_lt] at d_hc48_38
          obtain ⟨fs, hr, hrun, hended, hW, hsame⟩ := X0.leave (v := some (.int (3 : Int32))) (fun h => by rw [Bd.returns] at h; cases h)
          refine ⟨_, _, ck37 _ ?_, hrun, hended, _, _, rfl, ?_, ⟨_, rfl⟩, hW, hsame.mono (by decide) (by decide)⟩
          · refine XS.icmpYes X0.here hx rfl (pc0 := 33) (pc' := 45) rfl (hb hby d8_33) rfl (flt hc33_36).2.1 (by decide) (by decide) ?_
            refine XS.iload X0.here hx rfl (hb hby d8_45) rfl ?_
            refine XS.iloadN X0.here hx rfl (hb hby d8_47) rfl ?_
            refine XS.icmpYes X0.here hx rfl (pc0 := 48) (pc' := 60) rfl (hb hby d8_48) rfl (flt hc48_38).2.2.2 (by decide) (by decide) ?_
            refine XS.iload X0.here hx rfl (hb hby d8_60) rfl ?_
            exact retOut X0 hx Bd.returns rfl (Or.inl ⟨rfl, Or.inl rfl, _, rfl⟩) (hb hby d8_62) hr
          · show own_BS (c0.toInt = q.toInt ∨ c1.toInt = q.toInt ∨ c2.toInt = q.toInt ∨ c3.toInt = q.toInt) h0 n0 _ s₁.heap _
            rw [e0]
            exact ⟨(3 : Int32), rfl, N0, rfl, (fun h => absurd h (by decide)), (fun _ => by omega)⟩
    · -- pc 33: no
      by_cases hc48_39 : q < c2
      · -- pc 48: yes
        have ff1 := rng32 c1
        have ff2 := rng32 q
        have d_hc33_30 := hc33_30; rw [Int32.lt_iff_toInt_lt] at d_hc33_30
        have ff3 := rng32 c2
        have d_hc33_33 := hc33_33; rw [Int32.lt_iff_toInt_lt] at d_hc33_33
        have d_hc48_39 := hc48_39; rw [Int32.lt_iff_toInt_lt] at d_hc48_39
        obtain ⟨fs, hr, hrun, hended, hW, hsame⟩ := X0.leave (v := some (.int (-3 : Int32))) (fun h => by rw [Bd.returns] at h; cases h)
        refine ⟨_, _, ck34 _ ?_, hrun, hended, _, _, rfl, ?_, ⟨_, rfl⟩, hW, hsame.mono (by decide) (by decide)⟩
        · refine XS.icmpYes X0.here hx rfl (pc0 := 33) (pc' := 45) rfl (hb hby d8_33) rfl (flt hc33_33).2.1 (by decide) (by decide) ?_
          refine XS.iload X0.here hx rfl (hb hby d8_45) rfl ?_
          refine XS.iloadN X0.here hx rfl (hb hby d8_47) rfl ?_
          refine XS.icmpNo X0.here hx rfl (hb hby d8_48) rfl (tlt hc48_39).2.2.2 ?_
          refine XS.iload X0.here hx rfl (hb hby d8_51) rfl ?_
          refine XS.iconst X0.here hx rfl (hb hby d8_53) ?_
          refine XS.isub X0.here hx rfl (hb hby d8_54) rfl ?_
          refine XS.istore X0.here hx rfl (hb hby d8_55) rfl (l' := #[.val (.ref d), .val (.int (0 : Int32)), .val (.int (4 : Int32)), .val (.int q), .val (.int (2 : Int32)), .val (.int (1 : Int32)), .val (.int (2 : Int32)), .val (.int c2)]) rfl ?_
          refine XS.goto X0.here hx rfl (pc0 := 57) (pc' := 63) rfl (hb hby d8_57) (by decide) (by decide) ?_
          refine XS.goto X0.here hx rfl (pc0 := 63) (pc' := 8) rfl (hb hby d8_63) (by decide) (by decide) ?_
          refine XS.iload X0.here hx rfl (hb hby d8_8) rfl ?_
          refine XS.iload X0.here hx rfl (hb hby d8_10) rfl ?_
          refine XS.icmpYes X0.here hx rfl (pc0 := 12) (pc' := 66) rfl (hb hby d8_12) rfl (tlt (by decide : (1 : Int32) < (2 : Int32))).2.2.1 (by decide) (by decide) ?_
          refine XS.iload X0.here hx rfl (hb hby d8_66) rfl ?_
          refine XS.iconst X0.here hx rfl (hb hby d8_68) ?_
          refine XS.iadd X0.here hx rfl (hb hby d8_69) rfl ?_
          refine XS.ineg X0.here hx rfl (hb hby d8_70) rfl ?_
          exact retOut X0 hx Bd.returns rfl (Or.inl ⟨rfl, Or.inl rfl, _, rfl⟩) (hb hby d8_71) hr
        · show own_BS (c0.toInt = q.toInt ∨ c1.toInt = q.toInt ∨ c2.toInt = q.toInt ∨ c3.toInt = q.toInt) h0 n0 _ s₁.heap _
          rw [e0]
          exact ⟨(-3 : Int32), rfl, N0, rfl, (fun _ => by omega), (fun h => absurd (by decide) h)⟩
      · -- pc 48: no
        have ff1 := rng32 c1
        have ff2 := rng32 q
        have d_hc33_30 := hc33_30; rw [Int32.lt_iff_toInt_lt] at d_hc33_30
        have ff3 := rng32 c2
        have d_hc33_33 := hc33_33; rw [Int32.lt_iff_toInt_lt] at d_hc33_33
        have d_hc48_39 := hc48_39; rw [Int32.lt_iff_toInt_lt] at d_hc48_39
        obtain ⟨fs, hr, hrun, hended, hW, hsame⟩ := X0.leave (v := some (.int (2 : Int32))) (fun h => by rw [Bd.returns] at h; cases h)
        refine ⟨_, _, ck34 _ ?_, hrun, hended, _, _, rfl, ?_, ⟨_, rfl⟩, hW, hsame.mono (by decide) (by decide)⟩
        · refine XS.icmpYes X0.here hx rfl (pc0 := 33) (pc' := 45) rfl (hb hby d8_33) rfl (flt hc33_33).2.1 (by decide) (by decide) ?_
          refine XS.iload X0.here hx rfl (hb hby d8_45) rfl ?_
          refine XS.iloadN X0.here hx rfl (hb hby d8_47) rfl ?_
          refine XS.icmpYes X0.here hx rfl (pc0 := 48) (pc' := 60) rfl (hb hby d8_48) rfl (flt hc48_39).2.2.2 (by decide) (by decide) ?_
          refine XS.iload X0.here hx rfl (hb hby d8_60) rfl ?_
          exact retOut X0 hx Bd.returns rfl (Or.inl ⟨rfl, Or.inl rfl, _, rfl⟩) (hb hby d8_62) hr
        · show own_BS (c0.toInt = q.toInt ∨ c1.toInt = q.toInt ∨ c2.toInt = q.toInt ∨ c3.toInt = q.toInt) h0 n0 _ s₁.heap _
          rw [e0]
          exact ⟨(2 : Int32), rfl, N0, rfl, (fun h => absurd h (by decide)), (fun _ => by omega)⟩
  · -- pc 33: no
    by_cases hc48_40 : q < c1
    · -- pc 48: yes
      have Vc41 := A_d
      obtain ⟨cl41, Ar41, q41, S41, N41_, H41_, G41⟩ := Vc41
      have hin41 : ¬ ((0 : Int32) < 0 ∨ cl41.slots.size ≤ ((0 : Int32)).toNatClampNeg) := inb_of S41 ⟨by decide, by decide⟩
      have hat41 : cl41.slots[((0 : Int32)).toNatClampNeg]? = some (.int c0) := Has.at H41_ hin41 rfl
      have ck43 : ∀ t, Steps p.tables e below (s₁.setTop (mkF m 33 #[.val (.ref d), .val (.int (0 : Int32)), .val (.int (4 : Int32)), .val (.int q), .val (.int (0 : Int32)), .val (.int (0 : Int32)), .val (.int (0 : Int32)), .val (.int c0)] [(.int q), (.int c0)])) t → Steps p.tables e below (s₁.setTop (entryFrame m #[(.ref d), (.int (0 : Int32)), (.int (4 : Int32)), (.int q)] 8)) t := by
        intro t kt
        refine ck31 _ ?_
        refine XS.icmpYes X0.here hx rfl (pc0 := 33) (pc' := 45) rfl (hb hby d8_33) rfl (flt hc33_30).2.1 (by decide) (by decide) ?_
        refine XS.iload X0.here hx rfl (hb hby d8_45) rfl ?_
        refine XS.iloadN X0.here hx rfl (hb hby d8_47) rfl ?_
        refine XS.icmpNo X0.here hx rfl (hb hby d8_48) rfl (tlt hc48_40).2.2.2 ?_
        refine XS.iload X0.here hx rfl (hb hby d8_51) rfl ?_
        refine XS.iconst X0.here hx rfl (hb hby d8_53) ?_
        refine XS.isub X0.here hx rfl (hb hby d8_54) rfl ?_
        refine XS.istore X0.here hx rfl (hb hby d8_55) rfl (l' := #[.val (.ref d), .val (.int (0 : Int32)), .val (.int (4 : Int32)), .val (.int q), .val (.int (0 : Int32)), .val (.int (0 : Int32)), .val (.int (1 : Int32)), .val (.int c1)]) rfl ?_
        refine XS.goto X0.here hx rfl (pc0 := 57) (pc' := 63) rfl (hb hby d8_57) (by decide) (by decide) ?_
        refine XS.goto X0.here hx rfl (pc0 := 63) (pc' := 8) rfl (hb hby d8_63) (by decide) (by decide) ?_
        refine XS.iload X0.here hx rfl (hb hby d8_8) rfl ?_
        refine XS.iload X0.here hx rfl (hb hby d8_10) rfl ?_
        refine XS.icmpNo X0.here hx rfl (hb hby d8_12) rfl (flt (by decide : ¬ ((0 : Int32) < (0 : Int32)))).2.2.1 ?_
        refine XS.iload X0.here hx rfl (hb hby d8_15) rfl ?_
        refine XS.iload X0.here hx rfl (hb hby d8_17) rfl ?_
        refine XS.iadd X0.here hx rfl (hb hby d8_19) rfl ?_
        refine XS.iconst X0.here hx rfl (hb hby d8_20) ?_
        refine XS.iushr X0.here hx rfl (hb hby d8_21) rfl ?_
        show Steps p.tables e below (s₁.setTop (mkF m 22 #[.val (.ref d), .val (.int (0 : Int32)), .val (.int (4 : Int32)), .val (.int q), .val (.int (0 : Int32)), .val (.int (0 : Int32)), .val (.int (1 : Int32)), .val (.int c1)] [(.int (((0 : Int32).toUInt32 >>> ((1 : Int32) &&& 31).toUInt32).toInt32))])) _
        rw [(by decide : (((0 : Int32).toUInt32 >>> ((1 : Int32) &&& 31).toUInt32).toInt32) = (0 : Int32))]
        show Steps p.tables e below (s₁.setTop (mkF m 22 #[.val (.ref d), .val (.int (0 : Int32)), .val (.int (4 : Int32)), .val (.int q), .val (.int (0 : Int32)), .val (.int (0 : Int32)), .val (.int (1 : Int32)), .val (.int c1)] [(.int (0 : Int32))])) _
        refine XS.istore X0.here hx rfl (hb hby d8_22) rfl (l' := #[.val (.ref d), .val (.int (0 : Int32)), .val (.int (4 : Int32)), .val (.int q), .val (.int (0 : Int32)), .val (.int (0 : Int32)), .val (.int (0 : Int32)), .val (.int c1)]) rfl ?_
        refine XS.aloadN X0.here hx rfl (hb hby d8_24) rfl rfl ?_
        refine XS.iload X0.here hx rfl (hb hby d8_25) rfl ?_
        refine X0.iaload hx (j := (0 : Int32)) (v := (.int c0)) (by rw [e0]; exact Ar41.1) (State.isArrayOf_alike hZ.alike Ar41.2.1) Ar41.2.2 hin41 hat41 (g := (mkF m 27 #[.val (.ref d), .val (.int (0 : Int32)), .val (.int (4 : Int32)), .val (.int q), .val (.int (0 : Int32)), .val (.int (0 : Int32)), .val (.int (0 : Int32)), .val (.int c1)] [(.int (0 : Int32)), (.ref d)])) rfl rfl (hb hby d8_27) _ ?_
        show Steps p.tables e below (s₁.setTop (mkF m 28 #[.val (.ref d), .val (.int (0 : Int32)), .val (.int (4 : Int32)), .val (.int q), .val (.int (0 : Int32)), .val (.int (0 : Int32)), .val (.int (0 : Int32)), .val (.int c1)] [(.int c0)])) _
        refine XS.istore X0.here hx rfl (hb hby d8_28) rfl (l' := #[.val (.ref d), .val (.int (0 : Int32)), .val (.int (4 : Int32)), .val (.int q), .val (.int (0 : Int32)), .val (.int (0 : Int32)), .val (.int (0 : Int32)), .val (.int c0)]) rfl ?_
        refine XS.iload X0.here hx rfl (hb hby d8_30) rfl ?_
        refine XS.iloadN X0.here hx rfl (hb hby d8_32) rfl ?_
        exact kt
      (try clear hat41); (try clear hin41); (try clear G41); (try clear H41_); (try clear N41_); (try clear S41); (try clear q41); (try clear Ar41); (try clear cl41)
      by_cases hc33_42 : c0 < q
      · -- pc 33: yes
        have ff1 := rng32 c1
        have ff2 := rng32 q
        have d_hc33_30 := hc33_30; rw [Int32.lt_iff_toInt_lt] at d_hc33_30
        have d_hc48_40 := hc48_40; rw [Int32.lt_iff_toInt_lt] at d_hc48_40
        have ff3 := rng32 c0
        have d_hc33_42 := hc33_42; rw [Int32.lt_iff_toInt_lt] at d_hc33_42
        obtain ⟨fs, hr, hrun, hended, hW, hsame⟩ := X0.leave (v := some (.int (-2 : Int32))) (fun h => by rw [Bd.returns] at h; cases h)
        refine ⟨_, _, ck43 _ ?_, hrun, hended, _, _, rfl, ?_, ⟨_, rfl⟩, hW, hsame.mono (by decide) (by decide)⟩
        · refine XS.icmpNo X0.here hx rfl (hb hby d8_33) rfl (tlt hc33_42).2.1 ?_
          refine XS.iload X0.here hx rfl (hb hby d8_36) rfl ?_
          refine XS.iconst X0.here hx rfl (hb hby d8_38) ?_
          refine XS.iadd X0.here hx rfl (hb hby d8_39) rfl ?_
          refine XS.istore X0.here hx rfl (hb hby d8_40) rfl (l' := #[.val (.ref d), .val (.int (0 : Int32)), .val (.int (4 : Int32)), .val (.int q), .val (.int (1 : Int32)), .val (.int (0 : Int32)), .val (.int (0 : Int32)), .val (.int c0)]) rfl ?_
          refine XS.goto X0.here hx rfl (pc0 := 42) (pc' := 63) rfl (hb hby d8_42) (by decide) (by decide) ?_
          refine XS.goto X0.here hx rfl (pc0 := 63) (pc' := 8) rfl (hb hby d8_63) (by decide) (by decide) ?_
          refine XS.iload X0.here hx rfl (hb hby d8_8) rfl ?_
          refine XS.iload X0.here hx rfl (hb hby d8_10) rfl ?_
          refine XS.icmpYes X0.here hx rfl (pc0 := 12) (pc' := 66) rfl (hb hby d8_12) rfl (tlt (by decide : (0 : Int32) < (1 : Int32))).2.2.1 (by decide) (by decide) ?_
          refine XS.iload X0.here hx rfl (hb hby d8_66) rfl ?_
          refine XS.iconst X0.here hx rfl (hb hby d8_68) ?_
          refine XS.iadd X0.here hx rfl (hb hby d8_69) rfl ?_
          refine XS.ineg X0.here hx rfl (hb hby d8_70) rfl ?_
          exact retOut X0 hx Bd.returns rfl (Or.inl ⟨rfl, Or.inl rfl, _, rfl⟩) (hb hby d8_71) hr
        · show own_BS (c0.toInt = q.toInt ∨ c1.toInt = q.toInt ∨ c2.toInt = q.toInt ∨ c3.toInt = q.toInt) h0 n0 _ s₁.heap _
          rw [e0]
          exact ⟨(-2 : Int32), rfl, N0, rfl, (fun _ => by omega), (fun h => absurd (by decide) h)⟩
      · -- pc 33: no
        by_cases hc48_44 : q < c0
        · -- pc 48: yes
          have ff1 := rng32 c1
          have ff2 := rng32 q
          have d_hc33_30 := hc33_30; rw [Int32.lt_iff_toInt_lt] at d_hc33_30
          have d_hc48_40 := hc48_40; rw [Int32.lt_iff_toInt_lt] at d_hc48_40
          have ff3 := rng32 c0
          have d_hc33_42 := hc33_42; rw [Int32.lt_iff_toInt_lt] at d_hc33_42
          have d_hc48_44 := hc48_44; rw [Int32.lt_iff_toInt_lt] at d_hc48_44
          obtain ⟨fs, hr, hrun, hended, hW, hsame⟩ := X0.leave (v := some (.int (-1 : Int32))) (fun h => by rw [Bd.returns] at h; cases h)
          refine ⟨_, _, ck43 _ ?_, hrun, hended, _, _, rfl, ?_, ⟨_, rfl⟩, hW, hsame.mono (by decide) (by decide)⟩
          · refine XS.icmpYes X0.here hx rfl (pc0 := 33) (pc' := 45) rfl (hb hby d8_33) rfl (flt hc33_42).2.1 (by decide) (by decide) ?_
            refine XS.iload X0.here hx rfl (hb hby d8_45) rfl ?_
            refine XS.iloadN X0.here hx rfl (hb hby d8_47) rfl ?_
            refine XS.icmpNo X0.here hx rfl (hb hby d8_48) rfl (tlt hc48_44).2.2.2 ?_
            refine XS.iload X0.here hx rfl (hb hby d8_51) rfl ?_
            refine XS.iconst X0.here hx rfl (hb hby d8_53) ?_
            refine XS.isub X0.here hx rfl (hb hby d8_54) rfl ?_
            refine XS.istore X0.here hx rfl (hb hby d8_55) rfl (l' := #[.val (.ref d), .val (.int (0 : Int32)), .val (.int (4 : Int32)), .val (.int q), .val (.int (0 : Int32)), .val (.int (-1 : Int32)), .val (.int (0 : Int32)), .val (.int c0)]) rfl ?_
            refine XS.goto X0.here hx rfl (pc0 := 57) (pc' := 63) rfl (hb hby d8_57) (by decide) (by decide) ?_
            refine XS.goto X0.here hx rfl (pc0 := 63) (pc' := 8) rfl (hb hby d8_63) (by decide) (by decide) ?_
            refine XS.iload X0.here hx rfl (hb hby d8_8) rfl ?_
            refine XS.iload X0.here hx rfl (hb hby d8_10) rfl ?_
            refine XS.icmpYes X0.here hx rfl (pc0 := 12) (pc' := 66) rfl (hb hby d8_12) rfl (tlt (by decide : (-1 : Int32) < (0 : Int32))).2.2.1 (by decide) (by decide) ?_
            refine XS.iload X0.here hx rfl (hb hby d8_66) rfl ?_
            refine XS.iconst X0.here hx rfl (hb hby d8_68) ?_
            refine XS.iadd X0.here hx rfl (hb hby d8_69) rfl ?_
            refine XS.ineg X0.here hx rfl (hb hby d8_70) rfl ?_
            exact retOut X0 hx Bd.returns rfl (Or.inl ⟨rfl, Or.inl rfl, _, rfl⟩) (hb hby d8_71) hr
          · show own_BS (c0.toInt = q.toInt ∨ c1.toInt = q.toInt ∨ c2.toInt = q.toInt ∨ c3.toInt = q.toInt) h0 n0 _ s₁.heap _
            rw [e0]
            exact ⟨(-1 : Int32), rfl, N0, rfl, (fun _ => by omega), (fun h => absurd (by decide) h)⟩
        · -- pc 48: no
          have ff1 := rng32 c1
          have ff2 := rng32 q
          have d_hc33_30 := hc33_30; rw [Int32.lt_iff_toInt_lt] at d_hc33_30
          have d_hc48_40 := hc48_40; rw [Int32.lt_iff_toInt_lt] at d_hc48_40
          have ff3 := rng32 c0
          have d_hc33_42 := hc33_42; rw [Int32.lt_iff_toInt_lt] at d_hc33_42
          have d_hc48_44 := hc48_44; rw [Int32.lt_iff_toInt_lt] at d_hc48_44
          obtain ⟨fs, hr, hrun, hended, hW, hsame⟩ := X0.leave (v := some (.int (0 : Int32))) (fun h => by rw [Bd.returns] at h; cases h)
          refine ⟨_, _, ck43 _ ?_, hrun, hended, _, _, rfl, ?_, ⟨_, rfl⟩, hW, hsame.mono (by decide) (by decide)⟩
          · refine XS.icmpYes X0.here hx rfl (pc0 := 33) (pc' := 45) rfl (hb hby d8_33) rfl (flt hc33_42).2.1 (by decide) (by decide) ?_
            refine XS.iload X0.here hx rfl (hb hby d8_45) rfl ?_
            refine XS.iloadN X0.here hx rfl (hb hby d8_47) rfl ?_
            refine XS.icmpYes X0.here hx rfl (pc0 := 48) (pc' := 60) rfl (hb hby d8_48) rfl (flt hc48_44).2.2.2 (by decide) (by decide) ?_
            refine XS.iload X0.here hx rfl (hb hby d8_60) rfl ?_
            exact retOut X0 hx Bd.returns rfl (Or.inl ⟨rfl, Or.inl rfl, _, rfl⟩) (hb hby d8_62) hr
          · show own_BS (c0.toInt = q.toInt ∨ c1.toInt = q.toInt ∨ c2.toInt = q.toInt ∨ c3.toInt = q.toInt) h0 n0 _ s₁.heap _
            rw [e0]
            exact ⟨(0 : Int32), rfl, N0, rfl, (fun h => absurd h (by decide)), (fun _ => by omega)⟩
    · -- pc 48: no
      have ff1 := rng32 c1
      have ff2 := rng32 q
      have d_hc33_30 := hc33_30; rw [Int32.lt_iff_toInt_lt] at d_hc33_30
      have d_hc48_40 := hc48_40; rw [Int32.lt_iff_toInt_lt] at d_hc48_40
      obtain ⟨fs, hr, hrun, hended, hW, hsame⟩ := X0.leave (v := some (.int (1 : Int32))) (fun h => by rw [Bd.returns] at h; cases h)
      refine ⟨_, _, ck31 _ ?_, hrun, hended, _, _, rfl, ?_, ⟨_, rfl⟩, hW, hsame.mono (by decide) (by decide)⟩
      · refine XS.icmpYes X0.here hx rfl (pc0 := 33) (pc' := 45) rfl (hb hby d8_33) rfl (flt hc33_30).2.1 (by decide) (by decide) ?_
        refine XS.iload X0.here hx rfl (hb hby d8_45) rfl ?_
        refine XS.iloadN X0.here hx rfl (hb hby d8_47) rfl ?_
        refine XS.icmpYes X0.here hx rfl (pc0 := 48) (pc' := 60) rfl (hb hby d8_48) rfl (flt hc48_40).2.2.2 (by decide) (by decide) ?_
        refine XS.iload X0.here hx rfl (hb hby d8_60) rfl ?_
        exact retOut X0 hx Bd.returns rfl (Or.inl ⟨rfl, Or.inl rfl, _, rfl⟩) (hb hby d8_62) hr
      · show own_BS (c0.toInt = q.toInt ∨ c1.toInt = q.toInt ∨ c2.toInt = q.toInt ∨ c3.toInt = q.toInt) h0 n0 _ s₁.heap _
        rw [e0]
        exact ⟨(1 : Int32), rfl, N0, rfl, (fun h => absurd h (by decide)), (fun _ => by omega)⟩
theorem ef_rm_bs_4 (m : MethodId) (x0 : Addr) (x1 : Int32) : entryFrame m #[(.ref x0), (.int x1)] 2 = mkF m 0 #[.val (.ref x0), .val (.int x1)] [] := by first | (simp [entryFrame, mkF, argsToLocals, Value.category]; done) | rfl
set_option maxRecDepth 65536 in
set_option maxHeartbeats 40000000 in
theorem rm_bs_4 (l : Launch) (Z : State) (a0 : Array Value) (hw : ∀ d ∈ tables_1, d.before a0 Z = true) (ws : List Jvm.Cond) (d : Addr) (q : Int32) (h0 : Heap) (n0 : Nat) (Z0 : n0 ≤ h0.size) (kd : ClassId) (c0 c1 c2 c3 : Int32) (A_d : Arv Z h0 d kd .int (4 : Int32) [(.int c0), (.int c1), (.int c2), (.int c3)] (.int (0 : Int32))) (hs : 0 ≤ c0.toInt ∧ c0.toInt ≤ c1.toInt ∧ c1.toInt ≤ c2.toInt ∧ c2.toInt ≤ c3.toInt) :
    MetFree l (⟨"java/util/Arrays", "binarySearch", "([II)I"⟩ : MethodName) (head1 (Jvm.Cond.code (⟨"java/util/Arrays", "binarySearch", "([II)I"⟩ : MethodName) jdk_65_method_57_code 2 (some .int) :: ws) ({ frames := 1, cells := 0, slots := 0, locals := 19 } : Room)) (fun aQ UQ => aQ = #[(.ref d), (.int q)] ∧ Z.Warmed39 UQ.vm ∧ UQ.heap = h0) (fun _ _ _ _ _ => True) (fun _ UQ oQ UR => ∃ vQ LQ, oQ = .returned vQ ∧ own_BS (c0.toInt = q.toInt ∨ c1.toInt = q.toInt ∨ c2.toInt = q.toInt ∨ c3.toInt = q.toInt) h0 n0 vQ UR.heap LQ ∧ FrameEnd UQ oQ UR LQ ({ frames := 1, cells := 0, slots := 0, locals := 19 } : Room).cells ({ frames := 1, cells := 0, slots := 0, locals := 19 } : Room).slots) := by
  refine MetFree.of_bodySF (plainFor_of_name pn_29) hisR ?_
  intro p e s m args below meth c s₁ Bd hml0 hP hK
  obtain ⟨rfl, hZ, hh⟩ := hP
  have hx := Bd.exec
  have hby := Bd.bytes
  have hml : c.maxLocals = 2 := hml0
  have hown : s.vm.findClass "java/util/Arrays" = some m.cls := findClass_of_methodNamed Bd.named
  have hnm := (name_of_methodNamed Bd.named Bd.method).1
  have X0 : Stand p l e ({ frames := 1, cells := 0, slots := 0, locals := 19 } : Room) s m #[(.ref d), (.int q)] below meth c s₁ [] 0 0 := Stand.of_body Bd
  have e0 : s₁.heap = h0 := by rw [← hh, Bd.state]; rfl
  have N0 := Fr.nil n0
  have pre0 : ∀ t, Steps p.tables e below (s₁.setTop (mkF m 0 #[.val (.ref d), .val (.int q)] [])) t → Steps p.tables e below (s₁.setTop (entryFrame m #[(.ref d), (.int q)] 2)) t := fun t kq => castTop (ef_rm_bs_4 m d q) kq
  have Vc45 := A_d
  obtain ⟨cl45, Ar45, q45, S45, N45_, H45_, G45⟩ := Vc45
  obtain ⟨_, _, ⟨T46, L46, k46, n46⟩, -, X46, ⟨Lc46, hQ46, l46, y46, z46⟩, st46⟩ := Jvm.LawKit.callS X0 hx (y := (⟨"java/util/Arrays", "binarySearch0", "([IIII)I"⟩ : MethodName)) hown (mvT hZ (own_q hw 42 rfl)) (mvT hZ (own_q hw 43 rfl)) (mvT hZ (own_q hw 40 rfl)) (mvT hZ (own_q hw 44 rfl)) (by decide) (backOf (W := 0) (rm_bs0_4 l Z a0 hw [] d q h0 n0 Z0 kd c0 c1 c2 c3 A_d hs) hZ (own_q hw 44 rfl) (own_q hw 40 rfl) (by decide) (by decide)) (g := (mkF m 5 #[.val (.ref d), .val (.int q)] [(.int q), (.int (4 : Int32)), (.int (0 : Int32)), (.ref d)])) rfl (by rw [hml]; rfl) (argsL := [(.ref d), (.int (0 : Int32)), (.int (4 : Int32)), (.int q)]) (rest := []) (lenOf pd_35 rfl) rfl (by show 2 * 0 + _ ≤ _; exact Nat.le_of_eq rfl) (hb hby d7_5) (fun _ _ => ⟨rfl, e0, (by decide : 0 + 0 ≤ _), (by decide : 0 + 0 ≤ _)⟩)
  dsimp only [Pt.U, Pt.locs, Pt.cells, Pt.slots] at X46 l46 y46 z46 st46 hQ46
  subst l46 y46 z46
  obtain ⟨ri, rfl, N46q, e46, hr1, hr2⟩ := hQ46
  have N46 := Fr.app N0 N46q
  obtain ⟨fs, hr, hrun, hended, hW, hsame⟩ := X46.leave (v := some (.int ri)) (fun h => by rw [Bd.returns] at h; cases h)
  refine ⟨_, _, pre0 _ ?_, hrun, hended, _, _, rfl, ?_, ⟨_, rfl⟩, hW, hsame.mono (by decide) (by decide)⟩
  · refine XS.aloadN X0.here hx rfl (hb hby d7_0) rfl rfl ?_
    refine XS.iconst X0.here hx rfl (hb hby d7_1) ?_
    refine XS.aloadN X0.here hx rfl (hb hby d7_2) rfl rfl ?_
    refine X0.arraylength hx (by rw [e0]; exact Ar45.1) (State.isArrayOf_alike hZ.alike Ar45.2.1) (g := (mkF m 3 #[.val (.ref d), .val (.int q)] [(.ref d), (.int (0 : Int32)), (.ref d)])) rfl rfl (hb hby d7_3) _ ?_
    rw [len_of S45 N45_]
    show Steps p.tables e below (s₁.setTop (mkF m 4 #[.val (.ref d), .val (.int q)] [(.int (4 : Int32)), (.int (0 : Int32)), (.ref d)])) _
    refine XS.iloadN X0.here hx rfl (hb hby d7_4) rfl ?_
    refine st46 _ ?_
    show Steps p.tables e below (T46.setTop (mkF m 8 #[.val (.ref d), .val (.int q)] [(.int ri)])) _
    exact retOut X46 hx Bd.returns rfl (Or.inl ⟨rfl, Or.inl rfl, _, rfl⟩) (hb hby d7_8) hr
  · show own_BS (c0.toInt = q.toInt ∨ c1.toInt = q.toInt ∨ c2.toInt = q.toInt ∨ c3.toInt = q.toInt) h0 n0 _ T46.heap _
    rw [e46]
    exact ⟨ri, rfl, N46, rfl, hr1, hr2⟩
theorem d5_0 : decode prog_13_method_4_code 0 = .ok (.aload_n 0, 1) := by decide +kernel
theorem d5_1 : decode prog_13_method_4_code 1 = .ok (.getfield 13, 3) := by decide +kernel
theorem d5_4 : decode prog_13_method_4_code 4 = .ok (.ifnonnull 5, 3) := by decide +kernel
theorem d5_7 : decode prog_13_method_4_code 7 = .ok (.iconst 1, 1) := by decide +kernel
theorem d5_8 : decode prog_13_method_4_code 8 = .ok (.ireturn, 1) := by decide +kernel
theorem pn_72 : plainName "com/example/cubelet/cubelet/CellStore$Step" = true := by first | (simp [plainName, overriddenIn]; done) | decide +kernel
theorem ef_rm_tk_null (m : MethodId) (x0 : Addr) (x1 : Int32) : entryFrame m #[(.ref x0), (.int x1)] 2 = mkF m 0 #[.val (.ref x0), .val (.int x1)] [] := by first | (simp [entryFrame, mkF, argsToLocals, Value.category]; done) | rfl
set_option maxRecDepth 65536 in
set_option maxHeartbeats 40000000 in
theorem rm_tk_null (l : Launch) (Z : State) (a0 : Array Value) (hw : ∀ d ∈ tables_1, d.before a0 Z = true) (ws : List Jvm.Cond) (a1 : Addr) (q : Int32) (h0 : Heap) (n0 : Nat) (Z0 : n0 ≤ h0.size) (F_c : Fld Z h0 a1 "com/example/cubelet/cubelet/CellStore$Step" "codes" "[I" .null) :
    MetFree l (⟨"com/example/cubelet/cubelet/CellStore$Step", "takes", "(I)Z"⟩ : MethodName) (head1 (Jvm.Cond.code (⟨"com/example/cubelet/cubelet/CellStore$Step", "takes", "(I)Z"⟩ : MethodName) prog_13_method_4_code 2 (some .boolean) :: ws) ({ frames := 0, cells := 0, slots := 0, locals := 0 } : Room)) (fun aQ UQ => aQ = #[(.ref a1), (.int q)] ∧ Z.Warmed39 UQ.vm ∧ UQ.heap = h0) (fun _ _ _ _ _ => True) (fun _ UQ oQ UR => ∃ vQ LQ, oQ = .returned vQ ∧ own_Pure (some (.int 1)) h0 n0 vQ UR.heap LQ ∧ FrameEnd UQ oQ UR LQ ({ frames := 0, cells := 0, slots := 0, locals := 0 } : Room).cells ({ frames := 0, cells := 0, slots := 0, locals := 0 } : Room).slots) := by
  refine MetFree.of_bodySF (plainFor_of_name pn_72) hisR ?_
  intro p e s m args below meth c s₁ Bd hml0 hP hK
  obtain ⟨rfl, hZ, hh⟩ := hP
  have hx := Bd.exec
  have hby := Bd.bytes
  have hml : c.maxLocals = 2 := hml0
  have hown : s.vm.findClass "com/example/cubelet/cubelet/CellStore$Step" = some m.cls := findClass_of_methodNamed Bd.named
  have hnm := (name_of_methodNamed Bd.named Bd.method).1
  have X0 : Stand p l e ({ frames := 0, cells := 0, slots := 0, locals := 0 } : Room) s m #[(.ref a1), (.int q)] below meth c s₁ [] 0 0 := Stand.of_body Bd
  have e0 : s₁.heap = h0 := by rw [← hh, Bd.state]; rfl
  have N0 := Fr.nil n0
  have pre0 : ∀ t, Steps p.tables e below (s₁.setTop (mkF m 0 #[.val (.ref a1), .val (.int q)] [])) t → Steps p.tables e below (s₁.setTop (entryFrame m #[(.ref a1), (.int q)] 2)) t := fun t kq => castTop (ef_rm_tk_null m a1 q) kq
  obtain ⟨T47, X47, e47, st47⟩ := getF X0 hx hZ hown (host := "") (Or.inl (own_q hw 20 rfl)) Via.refl e0 F_c (g := (mkF m 1 #[.val (.ref a1), .val (.int q)] [(.ref a1)])) rfl rfl (hb hby d5_1)
  obtain ⟨fs, hr, hrun, hended, hW, hsame⟩ := X47.leave (v := some (.int (1 : Int32))) (fun h => by rw [Bd.returns] at h; cases h)
  refine ⟨_, _, pre0 _ ?_, hrun, hended, _, _, rfl, ?_, ⟨_, rfl⟩, hW, hsame.mono (by decide) (by decide)⟩
  · refine XS.aloadN X0.here hx rfl (hb hby d5_0) rfl rfl ?_
    refine st47 _ ?_
    show Steps p.tables e below (T47.setTop (mkF m 4 #[.val (.ref a1), .val (.int q)] [.null])) _
    refine XS.ifnonnullNo X47.here hx rfl (hb hby d5_4) rfl ?_
    refine XS.iconst X47.here hx rfl (hb hby d5_7) ?_
    exact retN X47 hx (t := .boolean) Bd.returns (by simp) (hb hby d5_8) hr
  · show own_Pure (some (.int 1)) h0 n0 _ T47.heap _
    rw [e47]
    exact ⟨rfl, N0, rfl⟩
theorem d5_9 : decode prog_13_method_4_code 9 = .ok (.aload_n 0, 1) := by decide +kernel
theorem d5_10 : decode prog_13_method_4_code 10 = .ok (.getfield 27, 3) := by decide +kernel
theorem d5_13 : decode prog_13_method_4_code 13 = .ok (.ifnull 39, 3) := by decide +kernel
theorem d5_52 : decode prog_13_method_4_code 52 = .ok (.aload_n 0, 1) := by decide +kernel
theorem d5_53 : decode prog_13_method_4_code 53 = .ok (.getfield 13, 3) := by decide +kernel
theorem d5_56 : decode prog_13_method_4_code 56 = .ok (.arraylength, 1) := by decide +kernel
theorem d5_57 : decode prog_13_method_4_code 57 = .ok (.iconst 1, 1) := by decide +kernel
theorem d5_58 : decode prog_13_method_4_code 58 = .ok (.if_icmp .ne 21, 3) := by decide +kernel
theorem d5_79 : decode prog_13_method_4_code 79 = .ok (.aload_n 0, 1) := by decide +kernel
theorem d5_80 : decode prog_13_method_4_code 80 = .ok (.getfield 13, 3) := by decide +kernel
theorem d5_83 : decode prog_13_method_4_code 83 = .ok (.iload_n 1, 1) := by decide +kernel
theorem pd_84 : parseMethodDescriptor "([II)I" = some ⟨[(.array .int), .int], some .int⟩ := by decide +kernel
theorem d5_84 : decode prog_13_method_4_code 84 = .ok (.invokestatic 34, 3) := by decide +kernel
theorem d5_87 : decode prog_13_method_4_code 87 = .ok (.ifCond .lt 7, 3) := by decide +kernel
theorem d5_94 : decode prog_13_method_4_code 94 = .ok (.iconst 0, 1) := by decide +kernel
theorem d5_95 : decode prog_13_method_4_code 95 = .ok (.ireturn, 1) := by decide +kernel
theorem d5_90 : decode prog_13_method_4_code 90 = .ok (.iconst 1, 1) := by decide +kernel
theorem d5_91 : decode prog_13_method_4_code 91 = .ok (.goto 4, 3) := by decide +kernel
theorem ef_rm_tkS_0 (m : MethodId) (x0 : Addr) (x1 : Int32) : entryFrame m #[(.ref x0), (.int x1)] 2 = mkF m 0 #[.val (.ref x0), .val (.int x1)] [] := by first | (simp [entryFrame, mkF, argsToLocals, Value.category]; done) | rfl
set_option maxRecDepth 65536 in
set_option maxHeartbeats 40000000 in
theorem rm_tkS_0 (l : Launch) (Z : State) (a0 : Array Value) (hw : ∀ d ∈ tables_1, d.before a0 Z = true) (ws : List Jvm.Cond) (a1 : Addr) (q : Int32) (h0 : Heap) (n0 : Nat) (Z0 : n0 ≤ h0.size) (d : Addr) (kd : ClassId)  (A_d : Arv Z h0 d kd .int (0 : Int32) [] (.int (0 : Int32)))  (F_c : Fld Z h0 a1 "com/example/cubelet/cubelet/CellStore$Step" "codes" "[I" (.ref d)) (F_b : Fld Z h0 a1 "com/example/cubelet/cubelet/CellStore$Step" "bits" "[J" .null) (r : Int32) (hmem : ((False) → r = 1) ∧ (¬ (False) → r = 0)) :
    MetFree l (⟨"com/example/cubelet/cubelet/CellStore$Step", "takes", "(I)Z"⟩ : MethodName) (head1 (Jvm.Cond.code (⟨"com/example/cubelet/cubelet/CellStore$Step", "takes", "(I)Z"⟩ : MethodName) prog_13_method_4_code 2 (some .boolean) :: ws) ({ frames := 2, cells := 0, slots := 0, locals := 32 } : Room)) (fun aQ UQ => aQ = #[(.ref a1), (.int q)] ∧ Z.Warmed39 UQ.vm ∧ UQ.heap = h0) (fun _ _ _ _ _ => True) (fun _ UQ oQ UR => ∃ vQ LQ, oQ = .returned vQ ∧ own_Pure (some (.int r)) h0 n0 vQ UR.heap LQ ∧ FrameEnd UQ oQ UR LQ ({ frames := 2, cells := 0, slots := 0, locals := 32 } : Room).cells ({ frames := 2, cells := 0, slots := 0, locals := 32 } : Room).slots) := by
  refine MetFree.of_bodySF (plainFor_of_name pn_72) hisR ?_
  intro p e s m args below meth c s₁ Bd hml0 hP hK
  obtain ⟨rfl, hZ, hh⟩ := hP
  have hx := Bd.exec
  have hby := Bd.bytes
  have hml : c.maxLocals = 2 := hml0
  have hown : s.vm.findClass "com/example/cubelet/cubelet/CellStore$Step" = some m.cls := findClass_of_methodNamed Bd.named
  have hnm := (name_of_methodNamed Bd.named Bd.method).1
  have X0 : Stand p l e ({ frames := 2, cells := 0, slots := 0, locals := 32 } : Room) s m #[(.ref a1), (.int q)] below meth c s₁ [] 0 0 := Stand.of_body Bd
  have e0 : s₁.heap = h0 := by rw [← hh, Bd.state]; rfl
  have N0 := Fr.nil n0
  have pre0 : ∀ t, Steps p.tables e below (s₁.setTop (mkF m 0 #[.val (.ref a1), .val (.int q)] [])) t → Steps p.tables e below (s₁.setTop (entryFrame m #[(.ref a1), (.int q)] 2)) t := fun t kq => castTop (ef_rm_tkS_0 m a1 q) kq
  obtain ⟨T48, X48, e48, st48⟩ := getF X0 hx hZ hown (host := "") (Or.inl (own_q hw 20 rfl)) Via.refl e0 F_c (g := (mkF m 1 #[.val (.ref a1), .val (.int q)] [(.ref a1)])) rfl rfl (hb hby d5_1)
  obtain ⟨T49, X49, e49, st49⟩ := getF X48 hx hZ hown (host := "") (Or.inl (own_q hw 27 rfl)) Via.refl e48 F_b (g := (mkF m 10 #[.val (.ref a1), .val (.int q)] [(.ref a1)])) rfl rfl (hb hby d5_10)
  obtain ⟨T50, X50, e50, st50⟩ := getF X49 hx hZ hown (host := "") (Or.inl (own_q hw 20 rfl)) Via.refl e49 F_c (g := (mkF m 53 #[.val (.ref a1), .val (.int q)] [(.ref a1)])) rfl rfl (hb hby d5_53)
  have Vc51 := A_d
  obtain ⟨cl51, Ar51, q51, S51, N51_, H51_, G51⟩ := Vc51
  obtain ⟨T52, X52, e52, st52⟩ := getF X50 hx hZ hown (host := "") (Or.inl (own_q hw 20 rfl)) Via.refl e50 F_c (g := (mkF m 80 #[.val (.ref a1), .val (.int q)] [(.ref a1)])) rfl rfl (hb hby d5_80)
  obtain ⟨_, _, ⟨T53, L53, k53, n53⟩, -, X53, ⟨Lc53, hQ53, l53, y53, z53⟩, st53⟩ := Jvm.LawKit.callS X52 hx (y := (⟨"java/util/Arrays", "binarySearch", "([II)I"⟩ : MethodName)) hown (mvT hZ (own_q hw 38 rfl)) (mvT hZ (own_q hw 39 rfl)) (mvT hZ (own_q hw 40 rfl)) (mvT hZ (own_q hw 41 rfl)) (by decide) (backOf (W := 0) (rm_bs_0 l Z a0 hw [] d q h0 n0 Z0 kd A_d) hZ (own_q hw 41 rfl) (own_q hw 40 rfl) (by decide) (by decide)) (g := (mkF m 84 #[.val (.ref a1), .val (.int q)] [(.int q), (.ref d)])) rfl (by rw [hml]; rfl) (argsL := [(.ref d), (.int q)]) (rest := []) (lenOf pd_84 rfl) rfl (by show 2 * 0 + _ ≤ _; exact Nat.le_of_eq rfl) (hb hby d5_84) (fun _ _ => ⟨rfl, e52, (by decide : 0 + 0 ≤ _), (by decide : 0 + 0 ≤ _)⟩)
  dsimp only [Pt.U, Pt.locs, Pt.cells, Pt.slots] at X53 l53 y53 z53 st53 hQ53
  subst l53 y53 z53
  obtain ⟨ri, rfl, N53q, e53, hr1, hr2⟩ := hQ53
  have N53 := Fr.app N0 N53q
  have ck55 : ∀ t, Steps p.tables e below (T53.setTop (mkF m 87 #[.val (.ref a1), .val (.int q)] [(.int ri)])) t → Steps p.tables e below (s₁.setTop (entryFrame m #[(.ref a1), (.int q)] 2)) t := by
    intro t kt
    refine pre0 _ ?_
    refine XS.aloadN X0.here hx rfl (hb hby d5_0) rfl rfl ?_
    refine st48 _ ?_
    show Steps p.tables e below (T48.setTop (mkF m 4 #[.val (.ref a1), .val (.int q)] [(.ref d)])) _
    refine XS.ifnonnullYes X48.here hx rfl (pc0 := 4) (pc' := 9) rfl (hb hby d5_4) rfl (by decide) (by decide) ?_
    refine XS.aloadN X48.here hx rfl (hb hby d5_9) rfl rfl ?_
    refine st49 _ ?_
    show Steps p.tables e below (T49.setTop (mkF m 13 #[.val (.ref a1), .val (.int q)] [.null])) _
    refine XS.ifnullYes X49.here hx rfl (pc0 := 13) (pc' := 52) rfl (hb hby d5_13) rfl (by decide) (by decide) ?_
    refine XS.aloadN X49.here hx rfl (hb hby d5_52) rfl rfl ?_
    refine st50 _ ?_
    show Steps p.tables e below (T50.setTop (mkF m 56 #[.val (.ref a1), .val (.int q)] [(.ref d)])) _
    refine X50.arraylength hx (by rw [e50]; exact Ar51.1) (State.isArrayOf_alike hZ.alike Ar51.2.1) (g := (mkF m 56 #[.val (.ref a1), .val (.int q)] [(.ref d)])) rfl rfl (hb hby d5_56) _ ?_
    rw [len_of S51 N51_]
    show Steps p.tables e below (T50.setTop (mkF m 57 #[.val (.ref a1), .val (.int q)] [(.int (0 : Int32))])) _
    refine XS.iconst X50.here hx rfl (hb hby d5_57) ?_
    refine XS.icmpYes X50.here hx rfl (pc0 := 58) (pc' := 79) rfl (hb hby d5_58) rfl (feq (by decide : ¬ ((0 : Int32) = (1 : Int32)))).2 (by decide) (by decide) ?_
    refine XS.aloadN X50.here hx rfl (hb hby d5_79) rfl rfl ?_
    refine st52 _ ?_
    show Steps p.tables e below (T52.setTop (mkF m 83 #[.val (.ref a1), .val (.int q)] [(.ref d)])) _
    refine XS.iloadN X52.here hx rfl (hb hby d5_83) rfl ?_
    refine st53 _ ?_
    exact kt
  (try clear N53q); (try clear st53); (try clear Lc53); (try clear n53); (try clear k53); (try clear L53); (try clear st52); (try clear e52); (try clear X52); (try clear T52); (try clear G51); (try clear H51_); (try clear N51_); (try clear S51); (try clear q51); (try clear Ar51); (try clear cl51); (try clear st50); (try clear e50); (try clear X50); (try clear T50); (try clear st49); (try clear e49); (try clear X49); (try clear T49); (try clear st48); (try clear e48); (try clear X48); (try clear T48)
  by_cases hc87_54 : ri < (0 : Int32)
  · -- pc 87: yes
    obtain ⟨fs, hr, hrun, hended, hW, hsame⟩ := X53.leave (v := some (.int (0 : Int32))) (fun h => by rw [Bd.returns] at h; cases h)
    refine ⟨_, _, ck55 _ ?_, hrun, hended, _, _, rfl, ?_, ⟨_, rfl⟩, hW, hsame.mono (by decide) (by decide)⟩
    · refine XS.ifYes X53.here hx rfl (pc0 := 87) (pc' := 94) rfl (hb hby d5_87) rfl ((if0 _ _).trans (tlt hc87_54).1) (by decide) (by decide) ?_
      refine XS.iconst X53.here hx rfl (hb hby d5_94) ?_
      exact retN X53 hx (t := .boolean) Bd.returns (by simp) (hb hby d5_95) hr
    · show own_Pure (some (.int r)) h0 n0 _ T53.heap _
      rw [e53]
      exact ⟨congrArg (fun z => some (Value.int z)) (hmem.2 (hr1 hc87_54)).symm, N53, rfl⟩
  · -- pc 87: no
    obtain ⟨fs, hr, hrun, hended, hW, hsame⟩ := X53.leave (v := some (.int (1 : Int32))) (fun h => by rw [Bd.returns] at h; cases h)
    refine ⟨_, _, ck55 _ ?_, hrun, hended, _, _, rfl, ?_, ⟨_, rfl⟩, hW, hsame.mono (by decide) (by decide)⟩
    · refine XS.ifNo X53.here hx rfl (hb hby d5_87) rfl ((if0 _ _).trans (flt hc87_54).1) ?_
      refine XS.iconst X53.here hx rfl (hb hby d5_90) ?_
      refine XS.goto X53.here hx rfl (pc0 := 91) (pc' := 95) rfl (hb hby d5_91) (by decide) (by decide) ?_
      exact retN X53 hx (t := .boolean) Bd.returns (by simp) (hb hby d5_95) hr
    · show own_Pure (some (.int r)) h0 n0 _ T53.heap _
      rw [e53]
      exact ⟨congrArg (fun z => some (Value.int z)) (hmem.1 (hr2 hc87_54)).symm, N53, rfl⟩
theorem d5_61 : decode prog_13_method_4_code 61 = .ok (.aload_n 0, 1) := by decide +kernel
theorem d5_62 : decode prog_13_method_4_code 62 = .ok (.getfield 13, 3) := by decide +kernel
theorem d5_65 : decode prog_13_method_4_code 65 = .ok (.iconst 0, 1) := by decide +kernel
theorem d5_66 : decode prog_13_method_4_code 66 = .ok (.iaload, 1) := by decide +kernel
theorem d5_67 : decode prog_13_method_4_code 67 = .ok (.iload_n 1, 1) := by decide +kernel
theorem d5_68 : decode prog_13_method_4_code 68 = .ok (.if_icmp .ne 7, 3) := by decide +kernel
theorem d5_71 : decode prog_13_method_4_code 71 = .ok (.iconst 1, 1) := by decide +kernel
theorem d5_72 : decode prog_13_method_4_code 72 = .ok (.goto 23, 3) := by decide +kernel
theorem d5_75 : decode prog_13_method_4_code 75 = .ok (.iconst 0, 1) := by decide +kernel
theorem d5_76 : decode prog_13_method_4_code 76 = .ok (.goto 19, 3) := by decide +kernel
theorem ef_rm_tkS_1 (m : MethodId) (x0 : Addr) (x1 : Int32) : entryFrame m #[(.ref x0), (.int x1)] 2 = mkF m 0 #[.val (.ref x0), .val (.int x1)] [] := by first | (simp [entryFrame, mkF, argsToLocals, Value.category]; done) | rfl
set_option maxRecDepth 65536 in
set_option maxHeartbeats 40000000 in
theorem rm_tkS_1 (l : Launch) (Z : State) (a0 : Array Value) (hw : ∀ d ∈ tables_1, d.before a0 Z = true) (ws : List Jvm.Cond) (a1 : Addr) (q : Int32) (h0 : Heap) (n0 : Nat) (Z0 : n0 ≤ h0.size) (d : Addr) (kd : ClassId) (c0 : Int32) (A_d : Arv Z h0 d kd .int (1 : Int32) [(.int c0)] (.int (0 : Int32))) (hs : 0 ≤ c0.toInt) (F_c : Fld Z h0 a1 "com/example/cubelet/cubelet/CellStore$Step" "codes" "[I" (.ref d)) (F_b : Fld Z h0 a1 "com/example/cubelet/cubelet/CellStore$Step" "bits" "[J" .null) (r : Int32) (hmem : ((c0.toInt = q.toInt) → r = 1) ∧ (¬ (c0.toInt = q.toInt) → r = 0)) :
    MetFree l (⟨"com/example/cubelet/cubelet/CellStore$Step", "takes", "(I)Z"⟩ : MethodName) (head1 (Jvm.Cond.code (⟨"com/example/cubelet/cubelet/CellStore$Step", "takes", "(I)Z"⟩ : MethodName) prog_13_method_4_code 2 (some .boolean) :: ws) ({ frames := 0, cells := 0, slots := 0, locals := 0 } : Room)) (fun aQ UQ => aQ = #[(.ref a1), (.int q)] ∧ Z.Warmed39 UQ.vm ∧ UQ.heap = h0) (fun _ _ _ _ _ => True) (fun _ UQ oQ UR => ∃ vQ LQ, oQ = .returned vQ ∧ own_Pure (some (.int r)) h0 n0 vQ UR.heap LQ ∧ FrameEnd UQ oQ UR LQ ({ frames := 0, cells := 0, slots := 0, locals := 0 } : Room).cells ({ frames := 0, cells := 0, slots := 0, locals := 0 } : Room).slots) := by
  refine MetFree.of_bodySF (plainFor_of_name pn_72) hisR ?_
  intro p e s m args below meth c s₁ Bd hml0 hP hK
  obtain ⟨rfl, hZ, hh⟩ := hP
  have hx := Bd.exec
  have hby := Bd.bytes
  have hml : c.maxLocals = 2 := hml0
  have hown : s.vm.findClass "com/example/cubelet/cubelet/CellStore$Step" = some m.cls := findClass_of_methodNamed Bd.named
  have hnm := (name_of_methodNamed Bd.named Bd.method).1
  have X0 : Stand p l e ({ frames := 0, cells := 0, slots := 0, locals := 0 } : Room) s m #[(.ref a1), (.int q)] below meth c s₁ [] 0 0 := Stand.of_body Bd
  have e0 : s₁.heap = h0 := by rw [← hh, Bd.state]; rfl
  have N0 := Fr.nil n0
  have pre0 : ∀ t, Steps p.tables e below (s₁.setTop (mkF m 0 #[.val (.ref a1), .val (.int q)] [])) t → Steps p.tables e below (s₁.setTop (entryFrame m #[(.ref a1), (.int q)] 2)) t := fun t kq => castTop (ef_rm_tkS_1 m a1 q) kq
  obtain ⟨T56, X56, e56, st56⟩ := getF X0 hx hZ hown (host := "") (Or.inl (own_q hw 20 rfl)) Via.refl e0 F_c (g := (mkF m 1 #[.val (.ref a1), .val (.int q)] [(.ref a1)])) rfl rfl (hb hby d5_1)
  obtain ⟨T57, X57, e57, st57⟩ := getF X56 hx hZ hown (host := "") (Or.inl (own_q hw 27 rfl)) Via.refl e56 F_b (g := (mkF m 10 #[.val (.ref a1), .val (.int q)] [(.ref a1)])) rfl rfl (hb hby d5_10)
  obtain ⟨T58, X58, e58, st58⟩ := getF X57 hx hZ hown (host := "") (Or.inl (own_q hw 20 rfl)) Via.refl e57 F_c (g := (mkF m 53 #[.val (.ref a1), .val (.int q)] [(.ref a1)])) rfl rfl (hb hby d5_53)
  have Vc59 := A_d
  obtain ⟨cl59, Ar59, q59, S59, N59_, H59_, G59⟩ := Vc59
  obtain ⟨T60, X60, e60, st60⟩ := getF X58 hx hZ hown (host := "") (Or.inl (own_q hw 20 rfl)) Via.refl e58 F_c (g := (mkF m 62 #[.val (.ref a1), .val (.int q)] [(.ref a1)])) rfl rfl (hb hby d5_62)
  have Vc61 := A_d
  obtain ⟨cl61, Ar61, q61, S61, N61_, H61_, G61⟩ := Vc61
  have hin61 : ¬ ((0 : Int32) < 0 ∨ cl61.slots.size ≤ ((0 : Int32)).toNatClampNeg) := inb_of S61 ⟨by decide, by decide⟩
  have hat61 : cl61.slots[((0 : Int32)).toNatClampNeg]? = some (.int c0) := Has.at H61_ hin61 rfl
  have ck63 : ∀ t, Steps p.tables e below (T60.setTop (mkF m 68 #[.val (.ref a1), .val (.int q)] [(.int q), (.int c0)])) t → Steps p.tables e below (s₁.setTop (entryFrame m #[(.ref a1), (.int q)] 2)) t := by
    intro t kt
    refine pre0 _ ?_
    refine XS.aloadN X0.here hx rfl (hb hby d5_0) rfl rfl ?_
    refine st56 _ ?_
    show Steps p.tables e below (T56.setTop (mkF m 4 #[.val (.ref a1), .val (.int q)] [(.ref d)])) _
    refine XS.ifnonnullYes X56.here hx rfl (pc0 := 4) (pc' := 9) rfl (hb hby d5_4) rfl (by decide) (by decide) ?_
    refine XS.aloadN X56.here hx rfl (hb hby d5_9) rfl rfl ?_
    refine st57 _ ?_
    show Steps p.tables e below (T57.setTop (mkF m 13 #[.val (.ref a1), .val (.int q)] [.null])) _
    refine XS.ifnullYes X57.here hx rfl (pc0 := 13) (pc' := 52) rfl (hb hby d5_13) rfl (by decide) (by decide) ?_
    refine XS.aloadN X57.here hx rfl (hb hby d5_52) rfl rfl ?_
    refine st58 _ ?_
    show Steps p.tables e below (T58.setTop (mkF m 56 #[.val (.ref a1), .val (.int q)] [(.ref d)])) _
    refine X58.arraylength hx (by rw [e58]; exact Ar59.1) (State.isArrayOf_alike hZ.alike Ar59.2.1) (g := (mkF m 56 #[.val (.ref a1), .val (.int q)] [(.ref d)])) rfl rfl (hb hby d5_56) _ ?_
    rw [len_of S59 N59_]
    show Steps p.tables e below (T58.setTop (mkF m 57 #[.val (.ref a1), .val (.int q)] [(.int (1 : Int32))])) _
    refine XS.iconst X58.here hx rfl (hb hby d5_57) ?_
    refine XS.icmpNo X58.here hx rfl (hb hby d5_58) rfl (teq (by decide : (1 : Int32) = (1 : Int32))).2 ?_
    refine XS.aloadN X58.here hx rfl (hb hby d5_61) rfl rfl ?_
    refine st60 _ ?_
    show Steps p.tables e below (T60.setTop (mkF m 65 #[.val (.ref a1), .val (.int q)] [(.ref d)])) _
    refine XS.iconst X60.here hx rfl (hb hby d5_65) ?_
    refine X60.iaload hx (j := (0 : Int32)) (v := (.int c0)) (by rw [e60]; exact Ar61.1) (State.isArrayOf_alike hZ.alike Ar61.2.1) Ar61.2.2 hin61 hat61 (g := (mkF m 66 #[.val (.ref a1), .val (.int q)] [(.int (0 : Int32)), (.ref d)])) rfl rfl (hb hby d5_66) _ ?_
    show Steps p.tables e below (T60.setTop (mkF m 67 #[.val (.ref a1), .val (.int q)] [(.int c0)])) _
    refine XS.iloadN X60.here hx rfl (hb hby d5_67) rfl ?_
    exact kt
  (try clear hat61); (try clear hin61); (try clear G61); (try clear H61_); (try clear N61_); (try clear S61); (try clear q61); (try clear Ar61); (try clear cl61); (try clear st60); (try clear G59); (try clear H59_); (try clear N59_); (try clear S59); (try clear q59); (try clear Ar59); (try clear cl59); (try clear st58); (try clear e58); (try clear X58); (try clear T58); (try clear st57); (try clear e57); (try clear X57); (try clear T57); (try clear st56); (try clear e56); (try clear X56); (try clear T56)
  by_cases hc68_62 : c0 = q
  · -- pc 68: yes
    have ff1 := rng32 c0
    have ff2 := rng32 q
    have d_hc68_62 := congrArg Int32.toInt hc68_62
    obtain ⟨fs, hr, hrun, hended, hW, hsame⟩ := X60.leave (v := some (.int (1 : Int32))) (fun h => by rw [Bd.returns] at h; cases h)
    refine ⟨_, _, ck63 _ ?_, hrun, hended, _, _, rfl, ?_, ⟨_, rfl⟩, hW, hsame.mono (by decide) (by decide)⟩
    · refine XS.icmpNo X60.here hx rfl (hb hby d5_68) rfl (teq hc68_62).2 ?_
      refine XS.iconst X60.here hx rfl (hb hby d5_71) ?_
      refine XS.goto X60.here hx rfl (pc0 := 72) (pc' := 95) rfl (hb hby d5_72) (by decide) (by decide) ?_
      exact retN X60 hx (t := .boolean) Bd.returns (by simp) (hb hby d5_95) hr
    · show own_Pure (some (.int r)) h0 n0 _ T60.heap _
      rw [e60]
      exact ⟨congrArg (fun z => some (Value.int z)) (hmem.1 (by omega)).symm, N0, rfl⟩
  · -- pc 68: no
    have ff1 := rng32 c0
    have ff2 := rng32 q
    have d_hc68_62 : ¬ (c0.toInt = q.toInt) := fun q => hc68_62 (Int32.toInt_inj.mp q)
    obtain ⟨fs, hr, hrun, hended, hW, hsame⟩ := X60.leave (v := some (.int (0 : Int32))) (fun h => by rw [Bd.returns] at h; cases h)
    refine ⟨_, _, ck63 _ ?_, hrun, hended, _, _, rfl, ?_, ⟨_, rfl⟩, hW, hsame.mono (by decide) (by decide)⟩
    · refine XS.icmpYes X60.here hx rfl (pc0 := 68) (pc' := 75) rfl (hb hby d5_68) rfl (feq hc68_62).2 (by decide) (by decide) ?_
      refine XS.iconst X60.here hx rfl (hb hby d5_75) ?_
      refine XS.goto X60.here hx rfl (pc0 := 76) (pc' := 95) rfl (hb hby d5_76) (by decide) (by decide) ?_
      exact retN X60 hx (t := .boolean) Bd.returns (by simp) (hb hby d5_95) hr
    · show own_Pure (some (.int r)) h0 n0 _ T60.heap _
      rw [e60]
      exact ⟨congrArg (fun z => some (Value.int z)) (hmem.2 (by omega)).symm, N0, rfl⟩
theorem ef_rm_tkS_2 (m : MethodId) (x0 : Addr) (x1 : Int32) : entryFrame m #[(.ref x0), (.int x1)] 2 = mkF m 0 #[.val (.ref x0), .val (.int x1)] [] := by first | (simp [entryFrame, mkF, argsToLocals, Value.category]; done) | rfl
set_option maxRecDepth 65536 in
set_option maxHeartbeats 40000000 in
theorem rm_tkS_2 (l : Launch) (Z : State) (a0 : Array Value) (hw : ∀ d ∈ tables_1, d.before a0 Z = true) (ws : List Jvm.Cond) (a1 : Addr) (q : Int32) (h0 : Heap) (n0 : Nat) (Z0 : n0 ≤ h0.size) (d : Addr) (kd : ClassId) (c0 c1 : Int32) (A_d : Arv Z h0 d kd .int (2 : Int32) [(.int c0), (.int c1)] (.int (0 : Int32))) (hs : 0 ≤ c0.toInt ∧ c0.toInt ≤ c1.toInt) (F_c : Fld Z h0 a1 "com/example/cubelet/cubelet/CellStore$Step" "codes" "[I" (.ref d)) (F_b : Fld Z h0 a1 "com/example/cubelet/cubelet/CellStore$Step" "bits" "[J" .null) (r : Int32) (hmem : ((c0.toInt = q.toInt ∨ c1.toInt = q.toInt) → r = 1) ∧ (¬ (c0.toInt = q.toInt ∨ c1.toInt = q.toInt) → r = 0)) :
    MetFree l (⟨"com/example/cubelet/cubelet/CellStore$Step", "takes", "(I)Z"⟩ : MethodName) (head1 (Jvm.Cond.code (⟨"com/example/cubelet/cubelet/CellStore$Step", "takes", "(I)Z"⟩ : MethodName) prog_13_method_4_code 2 (some .boolean) :: ws) ({ frames := 2, cells := 0, slots := 0, locals := 32 } : Room)) (fun aQ UQ => aQ = #[(.ref a1), (.int q)] ∧ Z.Warmed39 UQ.vm ∧ UQ.heap = h0) (fun _ _ _ _ _ => True) (fun _ UQ oQ UR => ∃ vQ LQ, oQ = .returned vQ ∧ own_Pure (some (.int r)) h0 n0 vQ UR.heap LQ ∧ FrameEnd UQ oQ UR LQ ({ frames := 2, cells := 0, slots := 0, locals := 32 } : Room).cells ({ frames := 2, cells := 0, slots := 0, locals := 32 } : Room).slots) := by
  refine MetFree.of_bodySF (plainFor_of_name pn_72) hisR ?_
  intro p e s m args below meth c s₁ Bd hml0 hP hK
  obtain ⟨rfl, hZ, hh⟩ := hP
  have hx := Bd.exec
  have hby := Bd.bytes
  have hml : c.maxLocals = 2 := hml0
  have hown : s.vm.findClass "com/example/cubelet/cubelet/CellStore$Step" = some m.cls := findClass_of_methodNamed Bd.named
  have hnm := (name_of_methodNamed Bd.named Bd.method).1
  have X0 : Stand p l e ({ frames := 2, cells := 0, slots := 0, locals := 32 } : Room) s m #[(.ref a1), (.int q)] below meth c s₁ [] 0 0 := Stand.of_body Bd
  have e0 : s₁.heap = h0 := by rw [← hh, Bd.state]; rfl
  have N0 := Fr.nil n0
  have pre0 : ∀ t, Steps p.tables e below (s₁.setTop (mkF m 0 #[.val (.ref a1), .val (.int q)] [])) t → Steps p.tables e below (s₁.setTop (entryFrame m #[(.ref a1), (.int q)] 2)) t := fun t kq => castTop (ef_rm_tkS_2 m a1 q) kq
  obtain ⟨T64, X64, e64, st64⟩ := getF X0 hx hZ hown (host := "") (Or.inl (own_q hw 20 rfl)) Via.refl e0 F_c (g := (mkF m 1 #[.val (.ref a1), .val (.int q)] [(.ref a1)])) rfl rfl (hb hby d5_1)
  obtain ⟨T65, X65, e65, st65⟩ := getF X64 hx hZ hown (host := "") (Or.inl (own_q hw 27 rfl)) Via.refl e64 F_b (g := (mkF m 10 #[.val (.ref a1), .val (.int q)] [(.ref a1)])) rfl rfl (hb hby d5_10)
  obtain ⟨T66, X66, e66, st66⟩ := getF X65 hx hZ hown (host := "") (Or.inl (own_q hw 20 rfl)) Via.refl e65 F_c (g := (mkF m 53 #[.val (.ref a1), .val (.int q)] [(.ref a1)])) rfl rfl (hb hby d5_53)
  have Vc67 := A_d
  obtain ⟨cl67, Ar67, q67, S67, N67_, H67_, G67⟩ := Vc67
  obtain ⟨T68, X68, e68, st68⟩ := getF X66 hx hZ hown (host := "") (Or.inl (own_q hw 20 rfl)) Via.refl e66 F_c (g := (mkF m 80 #[.val (.ref a1), .val (.int q)] [(.ref a1)])) rfl rfl (hb hby d5_80)
  obtain ⟨_, _, ⟨T69, L69, k69, n69⟩, -, X69, ⟨Lc69, hQ69, l69, y69, z69⟩, st69⟩ := Jvm.LawKit.callS X68 hx (y := (⟨"java/util/Arrays", "binarySearch", "([II)I"⟩ : MethodName)) hown (mvT hZ (own_q hw 38 rfl)) (mvT hZ (own_q hw 39 rfl)) (mvT hZ (own_q hw 40 rfl)) (mvT hZ (own_q hw 41 rfl)) (by decide) (backOf (W := 0) (rm_bs_2 l Z a0 hw [] d q h0 n0 Z0 kd c0 c1 A_d hs) hZ (own_q hw 41 rfl) (own_q hw 40 rfl) (by decide) (by decide)) (g := (mkF m 84 #[.val (.ref a1), .val (.int q)] [(.int q), (.ref d)])) rfl (by rw [hml]; rfl) (argsL := [(.ref d), (.int q)]) (rest := []) (lenOf pd_84 rfl) rfl (by show 2 * 0 + _ ≤ _; exact Nat.le_of_eq rfl) (hb hby d5_84) (fun _ _ => ⟨rfl, e68, (by decide : 0 + 0 ≤ _), (by decide : 0 + 0 ≤ _)⟩)
  dsimp only [Pt.U, Pt.locs, Pt.cells, Pt.slots] at X69 l69 y69 z69 st69 hQ69
  subst l69 y69 z69
  obtain ⟨ri, rfl, N69q, e69, hr1, hr2⟩ := hQ69
  have N69 := Fr.app N0 N69q
  have ck71 : ∀ t, Steps p.tables e below (T69.setTop (mkF m 87 #[.val (.ref a1), .val (.int q)] [(.int ri)])) t → Steps p.tables e below (s₁.setTop (entryFrame m #[(.ref a1), (.int q)] 2)) t := by
    intro t kt
    refine pre0 _ ?_
    refine XS.aloadN X0.here hx rfl (hb hby d5_0) rfl rfl ?_
    refine st64 _ ?_
    show Steps p.tables e below (T64.setTop (mkF m 4 #[.val (.ref a1), .val (.int q)] [(.ref d)])) _
    refine XS.ifnonnullYes X64.here hx rfl (pc0 := 4) (pc' := 9) rfl (hb hby d5_4) rfl (by decide) (by decide) ?_
    refine XS.aloadN X64.here hx rfl (hb hby d5_9) rfl rfl ?_
    refine st65 _ ?_
    show Steps p.tables e below (T65.setTop (mkF m 13 #[.val (.ref a1), .val (.int q)] [.null])) _
    refine XS.ifnullYes X65.here hx rfl (pc0 := 13) (pc' := 52) rfl (hb hby d5_13) rfl (by decide) (by decide) ?_
    refine XS.aloadN X65.here hx rfl (hb hby d5_52) rfl rfl ?_
    refine st66 _ ?_
    show Steps p.tables e below (T66.setTop (mkF m 56 #[.val (.ref a1), .val (.int q)] [(.ref d)])) _
    refine X66.arraylength hx (by rw [e66]; exact Ar67.1) (State.isArrayOf_alike hZ.alike Ar67.2.1) (g := (mkF m 56 #[.val (.ref a1), .val (.int q)] [(.ref d)])) rfl rfl (hb hby d5_56) _ ?_
    rw [len_of S67 N67_]
    show Steps p.tables e below (T66.setTop (mkF m 57 #[.val (.ref a1), .val (.int q)] [(.int (2 : Int32))])) _
    refine XS.iconst X66.here hx rfl (hb hby d5_57) ?_
    refine XS.icmpYes X66.here hx rfl (pc0 := 58) (pc' := 79) rfl (hb hby d5_58) rfl (feq (by decide : ¬ ((2 : Int32) = (1 : Int32)))).2 (by decide) (by decide) ?_
    refine XS.aloadN X66.here hx rfl (hb hby d5_79) rfl rfl ?_
    refine st68 _ ?_
    show Steps p.tables e below (T68.setTop (mkF m 83 #[.val (.ref a1), .val (.int q)] [(.ref d)])) _
    refine XS.iloadN X68.here hx rfl (hb hby d5_83) rfl ?_
    refine st69 _ ?_
    exact kt
  (try clear N69q); (try clear st69); (try clear Lc69); (try clear n69); (try clear k69); (try clear L69); (try clear st68); (try clear e68); (try clear X68); (try clear T68); (try clear G67); (try clear H67_); (try clear N67_); (try clear S67); (try clear q67); (try clear Ar67); (try clear cl67); (try clear st66); (try clear e66); (try clear X66); (try clear T66); (try clear st65); (try clear e65); (try clear X65); (try clear T65); (try clear st64); (try clear e64); (try clear X64); (try clear T64)
  by_cases hc87_70 : ri < (0 : Int32)
  · -- pc 87: yes
    obtain ⟨fs, hr, hrun, hended, hW, hsame⟩ := X69.leave (v := some (.int (0 : Int32))) (fun h => by rw [Bd.returns] at h; cases h)
    refine ⟨_, _, ck71 _ ?_, hrun, hended, _, _, rfl, ?_, ⟨_, rfl⟩, hW, hsame.mono (by decide) (by decide)⟩
    · refine XS.ifYes X69.here hx rfl (pc0 := 87) (pc' := 94) rfl (hb hby d5_87) rfl ((if0 _ _).trans (tlt hc87_70).1) (by decide) (by decide) ?_
      refine XS.iconst X69.here hx rfl (hb hby d5_94) ?_
      exact retN X69 hx (t := .boolean) Bd.returns (by simp) (hb hby d5_95) hr
    · show own_Pure (some (.int r)) h0 n0 _ T69.heap _
      rw [e69]
      exact ⟨congrArg (fun z => some (Value.int z)) (hmem.2 (hr1 hc87_70)).symm, N69, rfl⟩
  · -- pc 87: no
    obtain ⟨fs, hr, hrun, hended, hW, hsame⟩ := X69.leave (v := some (.int (1 : Int32))) (fun h => by rw [Bd.returns] at h; cases h)
    refine ⟨_, _, ck71 _ ?_, hrun, hended, _, _, rfl, ?_, ⟨_, rfl⟩, hW, hsame.mono (by decide) (by decide)⟩
    · refine XS.ifNo X69.here hx rfl (hb hby d5_87) rfl ((if0 _ _).trans (flt hc87_70).1) ?_
      refine XS.iconst X69.here hx rfl (hb hby d5_90) ?_
      refine XS.goto X69.here hx rfl (pc0 := 91) (pc' := 95) rfl (hb hby d5_91) (by decide) (by decide) ?_
      exact retN X69 hx (t := .boolean) Bd.returns (by simp) (hb hby d5_95) hr
    · show own_Pure (some (.int r)) h0 n0 _ T69.heap _
      rw [e69]
      exact ⟨congrArg (fun z => some (Value.int z)) (hmem.1 (hr2 hc87_70)).symm, N69, rfl⟩
theorem d5_16 : decode prog_13_method_4_code 16 = .ok (.iload_n 1, 1) := by decide +kernel
theorem d5_17 : decode prog_13_method_4_code 17 = .ok (.bipush 64, 2) := by decide +kernel
theorem d5_19 : decode prog_13_method_4_code 19 = .ok (.idiv, 1) := by decide +kernel
theorem d5_20 : decode prog_13_method_4_code 20 = .ok (.aload_n 0, 1) := by decide +kernel
theorem d5_21 : decode prog_13_method_4_code 21 = .ok (.getfield 27, 3) := by decide +kernel
theorem d5_24 : decode prog_13_method_4_code 24 = .ok (.arraylength, 1) := by decide +kernel
theorem d5_25 : decode prog_13_method_4_code 25 = .ok (.if_icmp .ge 25, 3) := by decide +kernel
theorem d5_28 : decode prog_13_method_4_code 28 = .ok (.aload_n 0, 1) := by decide +kernel
theorem d5_29 : decode prog_13_method_4_code 29 = .ok (.getfield 27, 3) := by decide +kernel
theorem d5_32 : decode prog_13_method_4_code 32 = .ok (.iload_n 1, 1) := by decide +kernel
theorem d5_33 : decode prog_13_method_4_code 33 = .ok (.bipush 64, 2) := by decide +kernel
theorem d5_35 : decode prog_13_method_4_code 35 = .ok (.idiv, 1) := by decide +kernel
theorem d5_36 : decode prog_13_method_4_code 36 = .ok (.laload, 1) := by decide +kernel
theorem d5_37 : decode prog_13_method_4_code 37 = .ok (.lconst 1, 1) := by decide +kernel
theorem d5_38 : decode prog_13_method_4_code 38 = .ok (.iload_n 1, 1) := by decide +kernel
theorem d5_39 : decode prog_13_method_4_code 39 = .ok (.lshl, 1) := by decide +kernel
theorem d5_40 : decode prog_13_method_4_code 40 = .ok (.land, 1) := by decide +kernel
theorem d5_41 : decode prog_13_method_4_code 41 = .ok (.lconst 0, 1) := by decide +kernel
theorem d5_42 : decode prog_13_method_4_code 42 = .ok (.lcmp, 1) := by decide +kernel
theorem d5_43 : decode prog_13_method_4_code 43 = .ok (.ifCond .eq 7, 3) := by decide +kernel
theorem d5_50 : decode prog_13_method_4_code 50 = .ok (.iconst 0, 1) := by decide +kernel
theorem d5_51 : decode prog_13_method_4_code 51 = .ok (.ireturn, 1) := by decide +kernel
theorem d5_46 : decode prog_13_method_4_code 46 = .ok (.iconst 1, 1) := by decide +kernel
theorem d5_47 : decode prog_13_method_4_code 47 = .ok (.goto 4, 3) := by decide +kernel
theorem ef_rm_tkB_2 (m : MethodId) (x0 : Addr) (x1 : Int32) : entryFrame m #[(.ref x0), (.int x1)] 2 = mkF m 0 #[.val (.ref x0), .val (.int x1)] [] := by first | (simp [entryFrame, mkF, argsToLocals, Value.category]; done) | rfl
set_option maxRecDepth 65536 in
set_option maxHeartbeats 40000000 in
theorem rm_tkB_2 (l : Launch) (Z : State) (a0 : Array Value) (hw : ∀ d ∈ tables_1, d.before a0 Z = true) (ws : List Jvm.Cond) (a1 : Addr) (q : Int32) (h0 : Heap) (n0 : Nat) (Z0 : n0 ≤ h0.size) (d : Addr) (kd : ClassId) (c0 c1 : Int32) (A_d : Arv Z h0 d kd .int (2 : Int32) [(.int c0), (.int c1)] (.int (0 : Int32))) (hs : 0 ≤ c0.toInt ∧ c0.toInt ≤ c1.toInt) (F_c : Fld Z h0 a1 "com/example/cubelet/cubelet/CellStore$Step" "codes" "[I" (.ref d)) (bb : Addr) (kb : ClassId) (zb : Int32) (g : Nat → Int64) (F_b : Fld Z h0 a1 "com/example/cubelet/cubelet/CellStore$Step" "bits" "[J" (.ref bb)) (B_b : own_FL Z h0 bb kb zb g) (hzb : zb.toInt = c1.toInt / 64 + 1) (hS : own_Says g (fun q => c0.toInt = q ∨ c1.toInt = q)) (hq : 0 ≤ q.toInt) (r : Int32) (hmem : ((c0.toInt = q.toInt ∨ c1.toInt = q.toInt) → r = 1) ∧ (¬ (c0.toInt = q.toInt ∨ c1.toInt = q.toInt) → r = 0)) :
    MetFree l (⟨"com/example/cubelet/cubelet/CellStore$Step", "takes", "(I)Z"⟩ : MethodName) (head1 (Jvm.Cond.code (⟨"com/example/cubelet/cubelet/CellStore$Step", "takes", "(I)Z"⟩ : MethodName) prog_13_method_4_code 2 (some .boolean) :: ws) ({ frames := 0, cells := 0, slots := 0, locals := 0 } : Room)) (fun aQ UQ => aQ = #[(.ref a1), (.int q)] ∧ Z.Warmed39 UQ.vm ∧ UQ.heap = h0) (fun _ _ _ _ _ => True) (fun _ UQ oQ UR => ∃ vQ LQ, oQ = .returned vQ ∧ own_Pure (some (.int r)) h0 n0 vQ UR.heap LQ ∧ FrameEnd UQ oQ UR LQ ({ frames := 0, cells := 0, slots := 0, locals := 0 } : Room).cells ({ frames := 0, cells := 0, slots := 0, locals := 0 } : Room).slots) := by
  refine MetFree.of_bodySF (plainFor_of_name pn_72) hisR ?_
  intro p e s m args below meth c s₁ Bd hml0 hP hK
  obtain ⟨rfl, hZ, hh⟩ := hP
  have hx := Bd.exec
  have hby := Bd.bytes
  have hml : c.maxLocals = 2 := hml0
  have hown : s.vm.findClass "com/example/cubelet/cubelet/CellStore$Step" = some m.cls := findClass_of_methodNamed Bd.named
  have hnm := (name_of_methodNamed Bd.named Bd.method).1
  have X0 : Stand p l e ({ frames := 0, cells := 0, slots := 0, locals := 0 } : Room) s m #[(.ref a1), (.int q)] below meth c s₁ [] 0 0 := Stand.of_body Bd
  have e0 : s₁.heap = h0 := by rw [← hh, Bd.state]; rfl
  have N0 := Fr.nil n0
  have pre0 : ∀ t, Steps p.tables e below (s₁.setTop (mkF m 0 #[.val (.ref a1), .val (.int q)] [])) t → Steps p.tables e below (s₁.setTop (entryFrame m #[(.ref a1), (.int q)] 2)) t := fun t kq => castTop (ef_rm_tkB_2 m a1 q) kq
  obtain ⟨T72, X72, e72, st72⟩ := getF X0 hx hZ hown (host := "") (Or.inl (own_q hw 20 rfl)) Via.refl e0 F_c (g := (mkF m 1 #[.val (.ref a1), .val (.int q)] [(.ref a1)])) rfl rfl (hb hby d5_1)
  obtain ⟨T73, X73, e73, st73⟩ := getF X72 hx hZ hown (host := "") (Or.inl (own_q hw 27 rfl)) Via.refl e72 F_b (g := (mkF m 10 #[.val (.ref a1), .val (.int q)] [(.ref a1)])) rfl rfl (hb hby d5_10)
  obtain ⟨T74, X74, e74, st74⟩ := getF X73 hx hZ hown (host := "") (Or.inl (own_q hw 27 rfl)) Via.refl e73 F_b (g := (mkF m 21 #[.val (.ref a1), .val (.int q)] [(.ref a1), (.int (q / (64 : Int32)))])) rfl rfl (hb hby d5_21)
  have Vc75 := B_b
  obtain ⟨cl75, Ar75, q75, S75, N75_, H75_, G75⟩ := Vc75
  have ck77 : ∀ t, Steps p.tables e below (T74.setTop (mkF m 25 #[.val (.ref a1), .val (.int q)] [(.int zb), (.int (q / (64 : Int32)))])) t → Steps p.tables e below (s₁.setTop (entryFrame m #[(.ref a1), (.int q)] 2)) t := by
    intro t kt
    refine pre0 _ ?_
    refine XS.aloadN X0.here hx rfl (hb hby d5_0) rfl rfl ?_
    refine st72 _ ?_
    show Steps p.tables e below (T72.setTop (mkF m 4 #[.val (.ref a1), .val (.int q)] [(.ref d)])) _
    refine XS.ifnonnullYes X72.here hx rfl (pc0 := 4) (pc' := 9) rfl (hb hby d5_4) rfl (by decide) (by decide) ?_
    refine XS.aloadN X72.here hx rfl (hb hby d5_9) rfl rfl ?_
    refine st73 _ ?_
    show Steps p.tables e below (T73.setTop (mkF m 13 #[.val (.ref a1), .val (.int q)] [(.ref bb)])) _
    refine XS.ifnullNo X73.here hx rfl (hb hby d5_13) rfl ?_
    refine XS.iloadN X73.here hx rfl (hb hby d5_16) rfl ?_
    refine XS.bipush X73.here hx rfl (hb hby d5_17) ?_
    refine XS.idiv X73.here hx rfl (hb hby d5_19) rfl (by decide) ?_
    refine XS.aloadN X73.here hx rfl (hb hby d5_20) rfl rfl ?_
    refine st74 _ ?_
    show Steps p.tables e below (T74.setTop (mkF m 24 #[.val (.ref a1), .val (.int q)] [(.ref bb), (.int (q / (64 : Int32)))])) _
    refine X74.arraylength hx (by rw [e74]; exact Ar75.1) (State.isArrayOf_alike hZ.alike Ar75.2.1) (g := (mkF m 24 #[.val (.ref a1), .val (.int q)] [(.ref bb), (.int (q / (64 : Int32)))])) rfl rfl (hb hby d5_24) _ ?_
    rw [len_of S75 N75_]
    exact kt
  (try clear G75); (try clear H75_); (try clear N75_); (try clear S75); (try clear q75); (try clear Ar75); (try clear cl75); (try clear st74); (try clear st73); (try clear e73); (try clear X73); (try clear T73); (try clear st72); (try clear e72); (try clear X72); (try clear T72)
  by_cases hc25_76 : (q / (64 : Int32)) < zb
  · -- pc 25: yes
    obtain ⟨T78, X78, e78, st78⟩ := getF X74 hx hZ hown (host := "") (Or.inl (own_q hw 27 rfl)) Via.refl e74 F_b (g := (mkF m 29 #[.val (.ref a1), .val (.int q)] [(.ref a1)])) rfl rfl (hb hby d5_29)
    have Vc79 := B_b
    obtain ⟨cl79, Ar79, q79, S79, N79_, H79_, G79⟩ := Vc79
    have hin79 : ¬ ((q / (64 : Int32)) < 0 ∨ cl79.slots.size ≤ ((q / (64 : Int32))).toNatClampNeg) := inb_of S79 ⟨(own_nn (by have := own_div64 q hq; omega)), hc25_76⟩
    have ck81 : ∀ t, Steps p.tables e below (T78.setTop (mkF m 43 #[.val (.ref a1), .val (.int q)] [(.int (lcmpW ((g ((q / (64 : Int32))).toNatClampNeg) &&& ((1 : Int64) <<< (q &&& 0x3f).toInt64)) (0 : Int64)))])) t → Steps p.tables e below (s₁.setTop (entryFrame m #[(.ref a1), (.int q)] 2)) t := by
      intro t kt
      refine ck77 _ ?_
      refine XS.icmpNo X74.here hx rfl (hb hby d5_25) rfl (tlt hc25_76).2.1 ?_
      refine XS.aloadN X74.here hx rfl (hb hby d5_28) rfl rfl ?_
      refine st78 _ ?_
      show Steps p.tables e below (T78.setTop (mkF m 32 #[.val (.ref a1), .val (.int q)] [(.ref bb)])) _
      refine XS.iloadN X78.here hx rfl (hb hby d5_32) rfl ?_
      refine XS.bipush X78.here hx rfl (hb hby d5_33) ?_
      refine XS.idiv X78.here hx rfl (hb hby d5_35) rfl (by decide) ?_
      refine X78.laload hx (j := (q / (64 : Int32))) (v := (.long (g ((q / (64 : Int32))).toNatClampNeg))) (by rw [e78]; exact Ar79.1) (State.isArrayOf_alike hZ.alike Ar79.2.1) Ar79.2.2 hin79 (own_FL.at H79_ hin79) (g := (mkF m 36 #[.val (.ref a1), .val (.int q)] [(.int (q / (64 : Int32))), (.ref bb)])) rfl rfl (hb hby d5_36) _ ?_
      show Steps p.tables e below (T78.setTop (mkF m 37 #[.val (.ref a1), .val (.int q)] [(.long (g ((q / (64 : Int32))).toNatClampNeg))])) _
      refine XS.lconst X78.here hx rfl (hb hby d5_37) ?_
      refine XS.iloadN X78.here hx rfl (hb hby d5_38) rfl ?_
      refine XS.lshl X78.here hx rfl (hb hby d5_39) rfl ?_
      refine XS.land X78.here hx rfl (hb hby d5_40) rfl ?_
      refine XS.lconst X78.here hx rfl (hb hby d5_41) ?_
      refine XS.lcmp X78.here hx rfl (hb hby d5_42) rfl ?_
      exact kt
    (try clear hin79); (try clear G79); (try clear H79_); (try clear N79_); (try clear S79); (try clear q79); (try clear Ar79); (try clear cl79); (try clear st78)
    by_cases hc43_80 : (lcmpW ((g ((q / (64 : Int32))).toNatClampNeg) &&& ((1 : Int64) <<< (q &&& 0x3f).toInt64)) (0 : Int64)) = (0 : Int32)
    · -- pc 43: yes
      have hq64 := own_div64 q hq
      have d_hc25_76 := hc25_76; rw [Int32.lt_iff_toInt_lt] at d_hc25_76
      have hz_hc43_80 := (lw_eq _ _).mp hc43_80
      obtain ⟨fs, hr, hrun, hended, hW, hsame⟩ := X78.leave (v := some (.int (0 : Int32))) (fun h => by rw [Bd.returns] at h; cases h)
      refine ⟨_, _, ck81 _ ?_, hrun, hended, _, _, rfl, ?_, ⟨_, rfl⟩, hW, hsame.mono (by decide) (by decide)⟩
      · refine XS.ifYes X78.here hx rfl (pc0 := 43) (pc' := 50) rfl (hb hby d5_43) rfl ((if0 _ _).trans (teq hc43_80).1) (by decide) (by decide) ?_
        refine XS.iconst X78.here hx rfl (hb hby d5_50) ?_
        exact retN X78 hx (t := .boolean) Bd.returns (by simp) (hb hby d5_51) hr
      · show own_Pure (some (.int r)) h0 n0 _ T78.heap _
        rw [e78]
        exact ⟨congrArg (fun z => some (Value.int z)) (hmem.2 ((hS q hq).mp hz_hc43_80)).symm, N0, rfl⟩
    · -- pc 43: no
      have hq64 := own_div64 q hq
      have d_hc25_76 := hc25_76; rw [Int32.lt_iff_toInt_lt] at d_hc25_76
      have hz_hc43_80 := fun z => hc43_80 ((lw_eq _ _).mpr z)
      obtain ⟨fs, hr, hrun, hended, hW, hsame⟩ := X78.leave (v := some (.int (1 : Int32))) (fun h => by rw [Bd.returns] at h; cases h)
      refine ⟨_, _, ck81 _ ?_, hrun, hended, _, _, rfl, ?_, ⟨_, rfl⟩, hW, hsame.mono (by decide) (by decide)⟩
      · refine XS.ifNo X78.here hx rfl (hb hby d5_43) rfl ((if0 _ _).trans (feq hc43_80).1) ?_
        refine XS.iconst X78.here hx rfl (hb hby d5_46) ?_
        refine XS.goto X78.here hx rfl (pc0 := 47) (pc' := 51) rfl (hb hby d5_47) (by decide) (by decide) ?_
        exact retN X78 hx (t := .boolean) Bd.returns (by simp) (hb hby d5_51) hr
      · show own_Pure (some (.int r)) h0 n0 _ T78.heap _
        rw [e78]
        exact ⟨congrArg (fun z => some (Value.int z)) (hmem.1 (Decidable.byContradiction fun z => hz_hc43_80 ((hS q hq).mpr z))).symm, N0, rfl⟩
  · -- pc 25: no
    have hq64 := own_div64 q hq
    have d_hc25_76 := hc25_76; rw [Int32.lt_iff_toInt_lt] at d_hc25_76
    obtain ⟨fs, hr, hrun, hended, hW, hsame⟩ := X74.leave (v := some (.int (0 : Int32))) (fun h => by rw [Bd.returns] at h; cases h)
    refine ⟨_, _, ck77 _ ?_, hrun, hended, _, _, rfl, ?_, ⟨_, rfl⟩, hW, hsame.mono (by decide) (by decide)⟩
    · refine XS.icmpYes X74.here hx rfl (pc0 := 25) (pc' := 50) rfl (hb hby d5_25) rfl (flt hc25_76).2.1 (by decide) (by decide) ?_
      refine XS.iconst X74.here hx rfl (hb hby d5_50) ?_
      exact retN X74 hx (t := .boolean) Bd.returns (by simp) (hb hby d5_51) hr
    · show own_Pure (some (.int r)) h0 n0 _ T74.heap _
      rw [e74]
      exact ⟨congrArg (fun z => some (Value.int z)) (hmem.2 (by omega)).symm, N0, rfl⟩
theorem ef_rm_tkS_3 (m : MethodId) (x0 : Addr) (x1 : Int32) : entryFrame m #[(.ref x0), (.int x1)] 2 = mkF m 0 #[.val (.ref x0), .val (.int x1)] [] := by first | (simp [entryFrame, mkF, argsToLocals, Value.category]; done) | rfl
set_option maxRecDepth 65536 in
set_option maxHeartbeats 40000000 in
theorem rm_tkS_3 (l : Launch) (Z : State) (a0 : Array Value) (hw : ∀ d ∈ tables_1, d.before a0 Z = true) (ws : List Jvm.Cond) (a1 : Addr) (q : Int32) (h0 : Heap) (n0 : Nat) (Z0 : n0 ≤ h0.size) (d : Addr) (kd : ClassId) (c0 c1 c2 : Int32) (A_d : Arv Z h0 d kd .int (3 : Int32) [(.int c0), (.int c1), (.int c2)] (.int (0 : Int32))) (hs : 0 ≤ c0.toInt ∧ c0.toInt ≤ c1.toInt ∧ c1.toInt ≤ c2.toInt) (F_c : Fld Z h0 a1 "com/example/cubelet/cubelet/CellStore$Step" "codes" "[I" (.ref d)) (F_b : Fld Z h0 a1 "com/example/cubelet/cubelet/CellStore$Step" "bits" "[J" .null) (r : Int32) (hmem : ((c0.toInt = q.toInt ∨ c1.toInt = q.toInt ∨ c2.toInt = q.toInt) → r = 1) ∧ (¬ (c0.toInt = q.toInt ∨ c1.toInt = q.toInt ∨ c2.toInt = q.toInt) → r = 0)) :
    MetFree l (⟨"com/example/cubelet/cubelet/CellStore$Step", "takes", "(I)Z"⟩ : MethodName) (head1 (Jvm.Cond.code (⟨"com/example/cubelet/cubelet/CellStore$Step", "takes", "(I)Z"⟩ : MethodName) prog_13_method_4_code 2 (some .boolean) :: ws) ({ frames := 2, cells := 0, slots := 0, locals := 32 } : Room)) (fun aQ UQ => aQ = #[(.ref a1), (.int q)] ∧ Z.Warmed39 UQ.vm ∧ UQ.heap = h0) (fun _ _ _ _ _ => True) (fun _ UQ oQ UR => ∃ vQ LQ, oQ = .returned vQ ∧ own_Pure (some (.int r)) h0 n0 vQ UR.heap LQ ∧ FrameEnd UQ oQ UR LQ ({ frames := 2, cells := 0, slots := 0, locals := 32 } : Room).cells ({ frames := 2, cells := 0, slots := 0, locals := 32 } : Room).slots) := by
  refine MetFree.of_bodySF (plainFor_of_name pn_72) hisR ?_
  intro p e s m args below meth c s₁ Bd hml0 hP hK
  obtain ⟨rfl, hZ, hh⟩ := hP
  have hx := Bd.exec
  have hby := Bd.bytes
  have hml : c.maxLocals = 2 := hml0
  have hown : s.vm.findClass "com/example/cubelet/cubelet/CellStore$Step" = some m.cls := findClass_of_methodNamed Bd.named
  have hnm := (name_of_methodNamed Bd.named Bd.method).1
  have X0 : Stand p l e ({ frames := 2, cells := 0, slots := 0, locals := 32 } : Room) s m #[(.ref a1), (.int q)] below meth c s₁ [] 0 0 := Stand.of_body Bd
  have e0 : s₁.heap = h0 := by rw [← hh, Bd.state]; rfl
  have N0 := Fr.nil n0
  have pre0 : ∀ t, Steps p.tables e below (s₁.setTop (mkF m 0 #[.val (.ref a1), .val (.int q)] [])) t → Steps p.tables e below (s₁.setTop (entryFrame m #[(.ref a1), (.int q)] 2)) t := fun t kq => castTop (ef_rm_tkS_3 m a1 q) kq
  obtain ⟨T82, X82, e82, st82⟩ := getF X0 hx hZ hown (host := "") (Or.inl (own_q hw 20 rfl)) Via.refl e0 F_c (g := (mkF m 1 #[.val (.ref a1), .val (.int q)] [(.ref a1)])) rfl rfl (hb hby d5_1)
  obtain ⟨T83, X83, e83, st83⟩ := getF X82 hx hZ hown (host := "") (Or.inl (own_q hw 27 rfl)) Via.refl e82 F_b (g := (mkF m 10 #[.val (.ref a1), .val (.int q)] [(.ref a1)])) rfl rfl (hb hby d5_10)
  obtain ⟨T84, X84, e84, st84⟩ := getF X83 hx hZ hown (host := "") (Or.inl (own_q hw 20 rfl)) Via.refl e83 F_c (g := (mkF m 53 #[.val (.ref a1), .val (.int q)] [(.ref a1)])) rfl rfl (hb hby d5_53)
  have Vc85 := A_d
  obtain ⟨cl85, Ar85, q85, S85, N85_, H85_, G85⟩ := Vc85
  obtain ⟨T86, X86, e86, st86⟩ := getF X84 hx hZ hown (host := "") (Or.inl (own_q hw 20 rfl)) Via.refl e84 F_c (g := (mkF m 80 #[.val (.ref a1), .val (.int q)] [(.ref a1)])) rfl rfl (hb hby d5_80)
  obtain ⟨_, _, ⟨T87, L87, k87, n87⟩, -, X87, ⟨Lc87, hQ87, l87, y87, z87⟩, st87⟩ := Jvm.LawKit.callS X86 hx (y := (⟨"java/util/Arrays", "binarySearch", "([II)I"⟩ : MethodName)) hown (mvT hZ (own_q hw 38 rfl)) (mvT hZ (own_q hw 39 rfl)) (mvT hZ (own_q hw 40 rfl)) (mvT hZ (own_q hw 41 rfl)) (by decide) (backOf (W := 0) (rm_bs_3 l Z a0 hw [] d q h0 n0 Z0 kd c0 c1 c2 A_d hs) hZ (own_q hw 41 rfl) (own_q hw 40 rfl) (by decide) (by decide)) (g := (mkF m 84 #[.val (.ref a1), .val (.int q)] [(.int q), (.ref d)])) rfl (by rw [hml]; rfl) (argsL := [(.ref d), (.int q)]) (rest := []) (lenOf pd_84 rfl) rfl (by show 2 * 0 + _ ≤ _; exact Nat.le_of_eq rfl) (hb hby d5_84) (fun _ _ => ⟨rfl, e86, (by decide : 0 + 0 ≤ _), (by decide : 0 + 0 ≤ _)⟩)
  dsimp only [Pt.U, Pt.locs, Pt.cells, Pt.slots] at X87 l87 y87 z87 st87 hQ87
  subst l87 y87 z87
  obtain ⟨ri, rfl, N87q, e87, hr1, hr2⟩ := hQ87
  have N87 := Fr.app N0 N87q
  have ck89 : ∀ t, Steps p.tables e below (T87.setTop (mkF m 87 #[.val (.ref a1), .val (.int q)] [(.int ri)])) t → Steps p.tables e below (s₁.setTop (entryFrame m #[(.ref a1), (.int q)] 2)) t := by
    intro t kt
    refine pre0 _ ?_
    refine XS.aloadN X0.here hx rfl (hb hby d5_0) rfl rfl ?_
    refine st82 _ ?_
    show Steps p.tables e below (T82.setTop (mkF m 4 #[.val (.ref a1), .val (.int q)] [(.ref d)])) _
    refine XS.ifnonnullYes X82.here hx rfl (pc0 := 4) (pc' := 9) rfl (hb hby d5_4) rfl (by decide) (by decide) ?_
    refine XS.aloadN X82.here hx rfl (hb hby d5_9) rfl rfl ?_
    refine st83 _ ?_
    show Steps p.tables e below (T83.setTop (mkF m 13 #[.val (.ref a1), .val (.int q)] [.null])) _
    refine XS.ifnullYes X83.here hx rfl (pc0 := 13) (pc' := 52) rfl (hb hby d5_13) rfl (by decide) (by decide) ?_
    refine XS.aloadN X83.here hx rfl (hb hby d5_52) rfl rfl ?_
    refine st84 _ ?_
    show Steps p.tables e below (T84.setTop (mkF m 56 #[.val (.ref a1), .val (.int q)] [(.ref d)])) _
    refine X84.arraylength hx (by rw [e84]; exact Ar85.1) (State.isArrayOf_alike hZ.alike Ar85.2.1) (g := (mkF m 56 #[.val (.ref a1), .val (.int q)] [(.ref d)])) rfl rfl (hb hby d5_56) _ ?_
    rw [len_of S85 N85_]
    show Steps p.tables e below (T84.setTop (mkF m 57 #[.val (.ref a1), .val (.int q)] [(.int (3 : Int32))])) _
    refine XS.iconst X84.here hx rfl (hb hby d5_57) ?_
    refine XS.icmpYes X84.here hx rfl (pc0 := 58) (pc' := 79) rfl (hb hby d5_58) rfl (feq (by decide : ¬ ((3 : Int32) = (1 : Int32)))).2 (by decide) (by decide) ?_
    refine XS.aloadN X84.here hx rfl (hb hby d5_79) rfl rfl ?_
    refine st86 _ ?_
    show Steps p.tables e below (T86.setTop (mkF m 83 #[.val (.ref a1), .val (.int q)] [(.ref d)])) _
    refine XS.iloadN X86.here hx rfl (hb hby d5_83) rfl ?_
    refine st87 _ ?_
    exact kt
  (try clear N87q); (try clear st87); (try clear Lc87); (try clear n87); (try clear k87); (try clear L87); (try clear st86); (try clear e86); (try clear X86); (try clear T86); (try clear G85); (try clear H85_); (try clear N85_); (try clear S85); (try clear q85); (try clear Ar85); (try clear cl85); (try clear st84); (try clear e84); (try clear X84); (try clear T84); (try clear st83); (try clear e83); (try clear X83); (try clear T83); (try clear st82); (try clear e82); (try clear X82); (try clear T82)
  by_cases hc87_88 : ri < (0 : Int32)
  · -- pc 87: yes
    obtain ⟨fs, hr, hrun, hended, hW, hsame⟩ := X87.leave (v := some (.int (0 : Int32))) (fun h => by rw [Bd.returns] at h; cases h)
    refine ⟨_, _, ck89 _ ?_, hrun, hended, _, _, rfl, ?_, ⟨_, rfl⟩, hW, hsame.mono (by decide) (by decide)⟩
    · refine XS.ifYes X87.here hx rfl (pc0 := 87) (pc' := 94) rfl (hb hby d5_87) rfl ((if0 _ _).trans (tlt hc87_88).1) (by decide) (by decide) ?_
      refine XS.iconst X87.here hx rfl (hb hby d5_94) ?_
      exact retN X87 hx (t := .boolean) Bd.returns (by simp) (hb hby d5_95) hr
    · show own_Pure (some (.int r)) h0 n0 _ T87.heap _
      rw [e87]
      exact ⟨congrArg (fun z => some (Value.int z)) (hmem.2 (hr1 hc87_88)).symm, N87, rfl⟩
  · -- pc 87: no
    obtain ⟨fs, hr, hrun, hended, hW, hsame⟩ := X87.leave (v := some (.int (1 : Int32))) (fun h => by rw [Bd.returns] at h; cases h)
    refine ⟨_, _, ck89 _ ?_, hrun, hended, _, _, rfl, ?_, ⟨_, rfl⟩, hW, hsame.mono (by decide) (by decide)⟩
    · refine XS.ifNo X87.here hx rfl (hb hby d5_87) rfl ((if0 _ _).trans (flt hc87_88).1) ?_
      refine XS.iconst X87.here hx rfl (hb hby d5_90) ?_
      refine XS.goto X87.here hx rfl (pc0 := 91) (pc' := 95) rfl (hb hby d5_91) (by decide) (by decide) ?_
      exact retN X87 hx (t := .boolean) Bd.returns (by simp) (hb hby d5_95) hr
    · show own_Pure (some (.int r)) h0 n0 _ T87.heap _
      rw [e87]
      exact ⟨congrArg (fun z => some (Value.int z)) (hmem.1 (hr2 hc87_88)).symm, N87, rfl⟩
theorem ef_rm_tkB_3 (m : MethodId) (x0 : Addr) (x1 : Int32) : entryFrame m #[(.ref x0), (.int x1)] 2 = mkF m 0 #[.val (.ref x0), .val (.int x1)] [] := by first | (simp [entryFrame, mkF, argsToLocals, Value.category]; done) | rfl
set_option maxRecDepth 65536 in
set_option maxHeartbeats 40000000 in
theorem rm_tkB_3 (l : Launch) (Z : State) (a0 : Array Value) (hw : ∀ d ∈ tables_1, d.before a0 Z = true) (ws : List Jvm.Cond) (a1 : Addr) (q : Int32) (h0 : Heap) (n0 : Nat) (Z0 : n0 ≤ h0.size) (d : Addr) (kd : ClassId) (c0 c1 c2 : Int32) (A_d : Arv Z h0 d kd .int (3 : Int32) [(.int c0), (.int c1), (.int c2)] (.int (0 : Int32))) (hs : 0 ≤ c0.toInt ∧ c0.toInt ≤ c1.toInt ∧ c1.toInt ≤ c2.toInt) (F_c : Fld Z h0 a1 "com/example/cubelet/cubelet/CellStore$Step" "codes" "[I" (.ref d)) (bb : Addr) (kb : ClassId) (zb : Int32) (g : Nat → Int64) (F_b : Fld Z h0 a1 "com/example/cubelet/cubelet/CellStore$Step" "bits" "[J" (.ref bb)) (B_b : own_FL Z h0 bb kb zb g) (hzb : zb.toInt = c2.toInt / 64 + 1) (hS : own_Says g (fun q => c0.toInt = q ∨ c1.toInt = q ∨ c2.toInt = q)) (hq : 0 ≤ q.toInt) (r : Int32) (hmem : ((c0.toInt = q.toInt ∨ c1.toInt = q.toInt ∨ c2.toInt = q.toInt) → r = 1) ∧ (¬ (c0.toInt = q.toInt ∨ c1.toInt = q.toInt ∨ c2.toInt = q.toInt) → r = 0)) :
    MetFree l (⟨"com/example/cubelet/cubelet/CellStore$Step", "takes", "(I)Z"⟩ : MethodName) (head1 (Jvm.Cond.code (⟨"com/example/cubelet/cubelet/CellStore$Step", "takes", "(I)Z"⟩ : MethodName) prog_13_method_4_code 2 (some .boolean) :: ws) ({ frames := 0, cells := 0, slots := 0, locals := 0 } : Room)) (fun aQ UQ => aQ = #[(.ref a1), (.int q)] ∧ Z.Warmed39 UQ.vm ∧ UQ.heap = h0) (fun _ _ _ _ _ => True) (fun _ UQ oQ UR => ∃ vQ LQ, oQ = .returned vQ ∧ own_Pure (some (.int r)) h0 n0 vQ UR.heap LQ ∧ FrameEnd UQ oQ UR LQ ({ frames := 0, cells := 0, slots := 0, locals := 0 } : Room).cells ({ frames := 0, cells := 0, slots := 0, locals := 0 } : Room).slots) := by
  refine MetFree.of_bodySF (plainFor_of_name pn_72) hisR ?_
  intro p e s m args below meth c s₁ Bd hml0 hP hK
  obtain ⟨rfl, hZ, hh⟩ := hP
  have hx := Bd.exec
  have hby := Bd.bytes
  have hml : c.maxLocals = 2 := hml0
  have hown : s.vm.findClass "com/example/cubelet/cubelet/CellStore$Step" = some m.cls := findClass_of_methodNamed Bd.named
  have hnm := (name_of_methodNamed Bd.named Bd.method).1
  have X0 : Stand p l e ({ frames := 0, cells := 0, slots := 0, locals := 0 } : Room) s m #[(.ref a1), (.int q)] below meth c s₁ [] 0 0 := Stand.of_body Bd
  have e0 : s₁.heap = h0 := by rw [← hh, Bd.state]; rfl
  have N0 := Fr.nil n0
  have pre0 : ∀ t, Steps p.tables e below (s₁.setTop (mkF m 0 #[.val (.ref a1), .val (.int q)] [])) t → Steps p.tables e below (s₁.setTop (entryFrame m #[(.ref a1), (.int q)] 2)) t := fun t kq => castTop (ef_rm_tkB_3 m a1 q) kq
  obtain ⟨T90, X90, e90, st90⟩ := getF X0 hx hZ hown (host := "") (Or.inl (own_q hw 20 rfl)) Via.refl e0 F_c (g := (mkF m 1 #[.val (.ref a1), .val (.int q)] [(.ref a1)])) rfl rfl (hb hby d5_1)
  obtain ⟨T91, X91, e91, st91⟩ := getF X90 hx hZ hown (host := "") (Or.inl (own_q hw 27 rfl)) Via.refl e90 F_b (g := (mkF m 10 #[.val (.ref a1), .val (.int q)] [(.ref a1)])) rfl rfl (hb hby d5_10)
  obtain ⟨T92, X92, e92, st92⟩ := getF X91 hx hZ hown (host := "") (Or.inl (own_q hw 27 rfl)) Via.refl e91 F_b (g := (mkF m 21 #[.val (.ref a1), .val (.int q)] [(.ref a1), (.int (q / (64 : Int32)))])) rfl rfl (hb hby d5_21)
  have Vc93 := B_b
  obtain ⟨cl93, Ar93, q93, S93, N93_, H93_, G93⟩ := Vc93
  have ck95 : ∀ t, Steps p.tables e below (T92.setTop (mkF m 25 #[.val (.ref a1), .val (.int q)] [(.int zb), (.int (q / (64 : Int32)))])) t → Steps p.tables e below (s₁.setTop (entryFrame m #[(.ref a1), (.int q)] 2)) t := by
    intro t kt
    refine pre0 _ ?_
    refine XS.aloadN X0.here hx rfl (hb hby d5_0) rfl rfl ?_
    refine st90 _ ?_
    show Steps p.tables e below (T90.setTop (mkF m 4 #[.val (.ref a1), .val (.int q)] [(.ref d)])) _
    refine XS.ifnonnullYes X90.here hx rfl (pc0 := 4) (pc' := 9) rfl (hb hby d5_4) rfl (by decide) (by decide) ?_
    refine XS.aloadN X90.here hx rfl (hb hby d5_9) rfl rfl ?_
    refine st91 _ ?_
    show Steps p.tables e below (T91.setTop (mkF m 13 #[.val (.ref a1), .val (.int q)] [(.ref bb)])) _
    refine XS.ifnullNo X91.here hx rfl (hb hby d5_13) rfl ?_
    refine XS.iloadN X91.here hx rfl (hb hby d5_16) rfl ?_
    refine XS.bipush X91.here hx rfl (hb hby d5_17) ?_
    refine XS.idiv X91.here hx rfl (hb hby d5_19) rfl (by decide) ?_
    refine XS.aloadN X91.here hx rfl (hb hby d5_20) rfl rfl ?_
    refine st92 _ ?_
    show Steps p.tables e below (T92.setTop (mkF m 24 #[.val (.ref a1), .val (.int q)] [(.ref bb), (.int (q / (64 : Int32)))])) _
    refine X92.arraylength hx (by rw [e92]; exact Ar93.1) (State.isArrayOf_alike hZ.alike Ar93.2.1) (g := (mkF m 24 #[.val (.ref a1), .val (.int q)] [(.ref bb), (.int (q / (64 : Int32)))])) rfl rfl (hb hby d5_24) _ ?_
    rw [len_of S93 N93_]
    exact kt
  (try clear G93); (try clear H93_); (try clear N93_); (try clear S93); (try clear q93); (try clear Ar93); (try clear cl93); (try clear st92); (try clear st91); (try clear e91); (try clear X91); (try clear T91); (try clear st90); (try clear e90); (try clear X90); (try clear T90)
  by_cases hc25_94 : (q / (64 : Int32)) < zb
  · -- pc 25: yes
    obtain ⟨T96, X96, e96, st96⟩ := getF X92 hx hZ hown (host := "") (Or.inl (own_q hw 27 rfl)) Via.refl e92 F_b (g := (mkF m 29 #[.val (.ref a1), .val (.int q)] [(.ref a1)])) rfl rfl (hb hby d5_29)
    have Vc97 := B_b
    obtain ⟨cl97, Ar97, q97, S97, N97_, H97_, G97⟩ := Vc97
    have hin97 : ¬ ((q / (64 : Int32)) < 0 ∨ cl97.slots.size ≤ ((q / (64 : Int32))).toNatClampNeg) := inb_of S97 ⟨(own_nn (by have := own_div64 q hq; omega)), hc25_94⟩
    have ck99 : ∀ t, Steps p.tables e below (T96.setTop (mkF m 43 #[.val (.ref a1), .val (.int q)] [(.int (lcmpW ((g ((q / (64 : Int32))).toNatClampNeg) &&& ((1 : Int64) <<< (q &&& 0x3f).toInt64)) (0 : Int64)))])) t → Steps p.tables e below (s₁.setTop (entryFrame m #[(.ref a1), (.int q)] 2)) t := by
      intro t kt
      refine ck95 _ ?_
      refine XS.icmpNo X92.here hx rfl (hb hby d5_25) rfl (tlt hc25_94).2.1 ?_
      refine XS.aloadN X92.here hx rfl (hb hby d5_28) rfl rfl ?_
      refine st96 _ ?_
      show Steps p.tables e below (T96.setTop (mkF m 32 #[.val (.ref a1), .val (.int q)] [(.ref bb)])) _
      refine XS.iloadN X96.here hx rfl (hb hby d5_32) rfl ?_
      refine XS.bipush X96.here hx rfl (hb hby d5_33) ?_
      refine XS.idiv X96.here hx rfl (hb hby d5_35) rfl (by decide) ?_
      refine X96.laload hx (j := (q / (64 : Int32))) (v := (.long (g ((q / (64 : Int32))).toNatClampNeg))) (by rw [e96]; exact Ar97.1) (State.isArrayOf_alike hZ.alike Ar97.2.1) Ar97.2.2 hin97 (own_FL.at H97_ hin97) (g := (mkF m 36 #[.val (.ref a1), .val (.int q)] [(.int (q / (64 : Int32))), (.ref bb)])) rfl rfl (hb hby d5_36) _ ?_
      show Steps p.tables e below (T96.setTop (mkF m 37 #[.val (.ref a1), .val (.int q)] [(.long (g ((q / (64 : Int32))).toNatClampNeg))])) _
      refine XS.lconst X96.here hx rfl (hb hby d5_37) ?_
      refine XS.iloadN X96.here hx rfl (hb hby d5_38) rfl ?_
      refine XS.lshl X96.here hx rfl (hb hby d5_39) rfl ?_
      refine XS.land X96.here hx rfl (hb hby d5_40) rfl ?_
      refine XS.lconst X96.here hx rfl (hb hby d5_41) ?_
      refine XS.lcmp X96.here hx rfl (hb hby d5_42) rfl ?_
      exact kt
    (try clear hin97); (try clear G97); (try clear H97_); (try clear N97_); (try clear S97); (try clear q97); (try clear Ar97); (try clear cl97); (try clear st96)
    by_cases hc43_98 : (lcmpW ((g ((q / (64 : Int32))).toNatClampNeg) &&& ((1 : Int64) <<< (q &&& 0x3f).toInt64)) (0 : Int64)) = (0 : Int32)
    · -- pc 43: yes
      have hq64 := own_div64 q hq
      have d_hc25_94 := hc25_94; rw [Int32.lt_iff_toInt_lt] at d_hc25_94
      have hz_hc43_98 := (lw_eq _ _).mp hc43_98
      obtain ⟨fs, hr, hrun, hended, hW, hsame⟩ := X96.leave (v := some (.int (0 : Int32))) (fun h => by rw [Bd.returns] at h; cases h)
      refine ⟨_, _, ck99 _ ?_, hrun, hended, _, _, rfl, ?_, ⟨_, rfl⟩, hW, hsame.mono (by decide) (by decide)⟩
      · refine XS.ifYes X96.here hx rfl (pc0 := 43) (pc' := 50) rfl (hb hby d5_43) rfl ((if0 _ _).trans (teq hc43_98).1) (by decide) (by decide) ?_
        refine XS.iconst X96.here hx rfl (hb hby d5_50) ?_
        exact retN X96 hx (t := .boolean) Bd.returns (by simp) (hb hby d5_51) hr
      · show own_Pure (some (.int r)) h0 n0 _ T96.heap _
        rw [e96]
        exact ⟨congrArg (fun z => some (Value.int z)) (hmem.2 ((hS q hq).mp hz_hc43_98)).symm, N0, rfl⟩
    · -- pc 43: no
      have hq64 := own_div64 q hq
      have d_hc25_94 := hc25_94; rw [Int32.lt_iff_toInt_lt] at d_hc25_94
      have hz_hc43_98 := fun z => hc43_98 ((lw_eq _ _).mpr z)
      obtain ⟨fs, hr, hrun, hended, hW, hsame⟩ := X96.leave (v := some (.int (1 : Int32))) (fun h => by rw [Bd.returns] at h; cases h)
      refine ⟨_, _, ck99 _ ?_, hrun, hended, _, _, rfl, ?_, ⟨_, rfl⟩, hW, hsame.mono (by decide) (by decide)⟩
      · refine XS.ifNo X96.here hx rfl (hb hby d5_43) rfl ((if0 _ _).trans (feq hc43_98).1) ?_
        refine XS.iconst X96.here hx rfl (hb hby d5_46) ?_
        refine XS.goto X96.here hx rfl (pc0 := 47) (pc' := 51) rfl (hb hby d5_47) (by decide) (by decide) ?_
        exact retN X96 hx (t := .boolean) Bd.returns (by simp) (hb hby d5_51) hr
      · show own_Pure (some (.int r)) h0 n0 _ T96.heap _
        rw [e96]
        exact ⟨congrArg (fun z => some (Value.int z)) (hmem.1 (Decidable.byContradiction fun z => hz_hc43_98 ((hS q hq).mpr z))).symm, N0, rfl⟩
  · -- pc 25: no
    have hq64 := own_div64 q hq
    have d_hc25_94 := hc25_94; rw [Int32.lt_iff_toInt_lt] at d_hc25_94
    obtain ⟨fs, hr, hrun, hended, hW, hsame⟩ := X92.leave (v := some (.int (0 : Int32))) (fun h => by rw [Bd.returns] at h; cases h)
    refine ⟨_, _, ck95 _ ?_, hrun, hended, _, _, rfl, ?_, ⟨_, rfl⟩, hW, hsame.mono (by decide) (by decide)⟩
    · refine XS.icmpYes X92.here hx rfl (pc0 := 25) (pc' := 50) rfl (hb hby d5_25) rfl (flt hc25_94).2.1 (by decide) (by decide) ?_
      refine XS.iconst X92.here hx rfl (hb hby d5_50) ?_
      exact retN X92 hx (t := .boolean) Bd.returns (by simp) (hb hby d5_51) hr
    · show own_Pure (some (.int r)) h0 n0 _ T92.heap _
      rw [e92]
      exact ⟨congrArg (fun z => some (Value.int z)) (hmem.2 (by omega)).symm, N0, rfl⟩
theorem ef_rm_tkS_4 (m : MethodId) (x0 : Addr) (x1 : Int32) : entryFrame m #[(.ref x0), (.int x1)] 2 = mkF m 0 #[.val (.ref x0), .val (.int x1)] [] := by first | (simp [entryFrame, mkF, argsToLocals, Value.category]; done) | rfl
set_option maxRecDepth 65536 in
set_option maxHeartbeats 40000000 in
theorem rm_tkS_4 (l : Launch) (Z : State) (a0 : Array Value) (hw : ∀ d ∈ tables_1, d.before a0 Z = true) (ws : List Jvm.Cond) (a1 : Addr) (q : Int32) (h0 : Heap) (n0 : Nat) (Z0 : n0 ≤ h0.size) (d : Addr) (kd : ClassId) (c0 c1 c2 c3 : Int32) (A_d : Arv Z h0 d kd .int (4 : Int32) [(.int c0), (.int c1), (.int c2), (.int c3)] (.int (0 : Int32))) (hs : 0 ≤ c0.toInt ∧ c0.toInt ≤ c1.toInt ∧ c1.toInt ≤ c2.toInt ∧ c2.toInt ≤ c3.toInt) (F_c : Fld Z h0 a1 "com/example/cubelet/cubelet/CellStore$Step" "codes" "[I" (.ref d)) (F_b : Fld Z h0 a1 "com/example/cubelet/cubelet/CellStore$Step" "bits" "[J" .null) (r : Int32) (hmem : ((c0.toInt = q.toInt ∨ c1.toInt = q.toInt ∨ c2.toInt = q.toInt ∨ c3.toInt = q.toInt) → r = 1) ∧ (¬ (c0.toInt = q.toInt ∨ c1.toInt = q.toInt ∨ c2.toInt = q.toInt ∨ c3.toInt = q.toInt) → r = 0)) :
    MetFree l (⟨"com/example/cubelet/cubelet/CellStore$Step", "takes", "(I)Z"⟩ : MethodName) (head1 (Jvm.Cond.code (⟨"com/example/cubelet/cubelet/CellStore$Step", "takes", "(I)Z"⟩ : MethodName) prog_13_method_4_code 2 (some .boolean) :: ws) ({ frames := 2, cells := 0, slots := 0, locals := 32 } : Room)) (fun aQ UQ => aQ = #[(.ref a1), (.int q)] ∧ Z.Warmed39 UQ.vm ∧ UQ.heap = h0) (fun _ _ _ _ _ => True) (fun _ UQ oQ UR => ∃ vQ LQ, oQ = .returned vQ ∧ own_Pure (some (.int r)) h0 n0 vQ UR.heap LQ ∧ FrameEnd UQ oQ UR LQ ({ frames := 2, cells := 0, slots := 0, locals := 32 } : Room).cells ({ frames := 2, cells := 0, slots := 0, locals := 32 } : Room).slots) := by
  refine MetFree.of_bodySF (plainFor_of_name pn_72) hisR ?_
  intro p e s m args below meth c s₁ Bd hml0 hP hK
  obtain ⟨rfl, hZ, hh⟩ := hP
  have hx := Bd.exec
  have hby := Bd.bytes
  have hml : c.maxLocals = 2 := hml0
  have hown : s.vm.findClass "com/example/cubelet/cubelet/CellStore$Step" = some m.cls := findClass_of_methodNamed Bd.named
  have hnm := (name_of_methodNamed Bd.named Bd.method).1
  have X0 : Stand p l e ({ frames := 2, cells := 0, slots := 0, locals := 32 } : Room) s m #[(.ref a1), (.int q)] below meth c s₁ [] 0 0 := Stand.of_body Bd
  have e0 : s₁.heap = h0 := by rw [← hh, Bd.state]; rfl
  have N0 := Fr.nil n0
  have pre0 : ∀ t, Steps p.tables e below (s₁.setTop (mkF m 0 #[.val (.ref a1), .val (.int q)] [])) t → Steps p.tables e below (s₁.setTop (entryFrame m #[(.ref a1), (.int q)] 2)) t := fun t kq => castTop (ef_rm_tkS_4 m a1 q) kq
  obtain ⟨T100, X100, e100, st100⟩ := getF X0 hx hZ hown (host := "") (Or.inl (own_q hw 20 rfl)) Via.refl e0 F_c (g := (mkF m 1 #[.val (.ref a1), .val (.int q)] [(.ref a1)])) rfl rfl (hb hby d5_1)
  obtain ⟨T101, X101, e101, st101⟩ := getF X100 hx hZ hown (host := "") (Or.inl (own_q hw 27 rfl)) Via.refl e100 F_b (g := (mkF m 10 #[.val (.ref a1), .val (.int q)] [(.ref a1)])) rfl rfl (hb hby d5_10)
  obtain ⟨T102, X102, e102, st102⟩ := getF X101 hx hZ hown (host := "") (Or.inl (own_q hw 20 rfl)) Via.refl e101 F_c (g := (mkF m 53 #[.val (.ref a1), .val (.int q)] [(.ref a1)])) rfl rfl (hb hby d5_53)
  have Vc103 := A_d
  obtain ⟨cl103, Ar103, q103, S103, N103_, H103_, G103⟩ := Vc103
  obtain ⟨T104, X104, e104, st104⟩ := getF X102 hx hZ hown (host := "") (Or.inl (own_q hw 20 rfl)) Via.refl e102 F_c (g := (mkF m 80 #[.val (.ref a1), .val (.int q)] [(.ref a1)])) rfl rfl (hb hby d5_80)
  obtain ⟨_, _, ⟨T105, L105, k105, n105⟩, -, X105, ⟨Lc105, hQ105, l105, y105, z105⟩, st105⟩ := Jvm.LawKit.callS X104 hx (y := (⟨"java/util/Arrays", "binarySearch", "([II)I"⟩ : MethodName)) hown (mvT hZ (own_q hw 38 rfl)) (mvT hZ (own_q hw 39 rfl)) (mvT hZ (own_q hw 40 rfl)) (mvT hZ (own_q hw 41 rfl)) (by decide) (backOf (W := 0) (rm_bs_4 l Z a0 hw [] d q h0 n0 Z0 kd c0 c1 c2 c3 A_d hs) hZ (own_q hw 41 rfl) (own_q hw 40 rfl) (by decide) (by decide)) (g := (mkF m 84 #[.val (.ref a1), .val (.int q)] [(.int q), (.ref d)])) rfl (by rw [hml]; rfl) (argsL := [(.ref d), (.int q)]) (rest := []) (lenOf pd_84 rfl) rfl (by show 2 * 0 + _ ≤ _; exact Nat.le_of_eq rfl) (hb hby d5_84) (fun _ _ => ⟨rfl, e104, (by decide : 0 + 0 ≤ _), (by decide : 0 + 0 ≤ _)⟩)
  dsimp only [Pt.U, Pt.locs, Pt.cells, Pt.slots] at X105 l105 y105 z105 st105 hQ105
  subst l105 y105 z105
  obtain ⟨ri, rfl, N105q, e105, hr1, hr2⟩ := hQ105
  have N105 := Fr.app N0 N105q
  have ck107 : ∀ t, Steps p.tables e below (T105.setTop (mkF m 87 #[.val (.ref a1), .val (.int q)] [(.int ri)])) t → Steps p.tables e below (s₁.setTop (entryFrame m #[(.ref a1), (.int q)] 2)) t := by
    intro t kt
    refine pre0 _ ?_
    refine XS.aloadN X0.here hx rfl (hb hby d5_0) rfl rfl ?_
    refine st100 _ ?_
    show Steps p.tables e below (T100.setTop (mkF m 4 #[.val (.ref a1), .val (.int q)] [(.ref d)])) _
    refine XS.ifnonnullYes X100.here hx rfl (pc0 := 4) (pc' := 9) rfl (hb hby d5_4) rfl (by decide) (by decide) ?_
    refine XS.aloadN X100.here hx rfl (hb hby d5_9) rfl rfl ?_
    refine st101 _ ?_
    show Steps p.tables e below (T101.setTop (mkF m 13 #[.val (.ref a1), .val (.int q)] [.null])) _
    refine XS.ifnullYes X101.here hx rfl (pc0 := 13) (pc' := 52) rfl (hb hby d5_13) rfl (by decide) (by decide) ?_
    refine XS.aloadN X101.here hx rfl (hb hby d5_52) rfl rfl ?_
    refine st102 _ ?_
    show Steps p.tables e below (T102.setTop (mkF m 56 #[.val (.ref a1), .val (.int q)] [(.ref d)])) _
    refine X102.arraylength hx (by rw [e102]; exact Ar103.1) (State.isArrayOf_alike hZ.alike Ar103.2.1) (g := (mkF m 56 #[.val (.ref a1), .val (.int q)] [(.ref d)])) rfl rfl (hb hby d5_56) _ ?_
    rw [len_of S103 N103_]
    show Steps p.tables e below (T102.setTop (mkF m 57 #[.val (.ref a1), .val (.int q)] [(.int (4 : Int32))])) _
    refine XS.iconst X102.here hx rfl (hb hby d5_57) ?_
    refine XS.icmpYes X102.here hx rfl (pc0 := 58) (pc' := 79) rfl (hb hby d5_58) rfl (feq (by decide : ¬ ((4 : Int32) = (1 : Int32)))).2 (by decide) (by decide) ?_
    refine XS.aloadN X102.here hx rfl (hb hby d5_79) rfl rfl ?_
    refine st104 _ ?_
    show Steps p.tables e below (T104.setTop (mkF m 83 #[.val (.ref a1), .val (.int q)] [(.ref d)])) _
    refine XS.iloadN X104.here hx rfl (hb hby d5_83) rfl ?_
    refine st105 _ ?_
    exact kt
  (try clear N105q); (try clear st105); (try clear Lc105); (try clear n105); (try clear k105); (try clear L105); (try clear st104); (try clear e104); (try clear X104); (try clear T104); (try clear G103); (try clear H103_); (try clear N103_); (try clear S103); (try clear q103); (try clear Ar103); (try clear cl103); (try clear st102); (try clear e102); (try clear X102); (try clear T102); (try clear st101); (try clear e101); (try clear X101); (try clear T101); (try clear st100); (try clear e100); (try clear X100); (try clear T100)
  by_cases hc87_106 : ri < (0 : Int32)
  · -- pc 87: yes
    obtain ⟨fs, hr, hrun, hended, hW, hsame⟩ := X105.leave (v := some (.int (0 : Int32))) (fun h => by rw [Bd.returns] at h; cases h)
    refine ⟨_, _, ck107 _ ?_, hrun, hended, _, _, rfl, ?_, ⟨_, rfl⟩, hW, hsame.mono (by decide) (by decide)⟩
    · refine XS.ifYes X105.here hx rfl (pc0 := 87) (pc' := 94) rfl (hb hby d5_87) rfl ((if0 _ _).trans (tlt hc87_106).1) (by decide) (by decide) ?_
      refine XS.iconst X105.here hx rfl (hb hby d5_94) ?_
      exact retN X105 hx (t := .boolean) Bd.returns (by simp) (hb hby d5_95) hr
    · show own_Pure (some (.int r)) h0 n0 _ T105.heap _
      rw [e105]
      exact ⟨congrArg (fun z => some (Value.int z)) (hmem.2 (hr1 hc87_106)).symm, N105, rfl⟩
  · -- pc 87: no
    obtain ⟨fs, hr, hrun, hended, hW, hsame⟩ := X105.leave (v := some (.int (1 : Int32))) (fun h => by rw [Bd.returns] at h; cases h)
    refine ⟨_, _, ck107 _ ?_, hrun, hended, _, _, rfl, ?_, ⟨_, rfl⟩, hW, hsame.mono (by decide) (by decide)⟩
    · refine XS.ifNo X105.here hx rfl (hb hby d5_87) rfl ((if0 _ _).trans (flt hc87_106).1) ?_
      refine XS.iconst X105.here hx rfl (hb hby d5_90) ?_
      refine XS.goto X105.here hx rfl (pc0 := 91) (pc' := 95) rfl (hb hby d5_91) (by decide) (by decide) ?_
      exact retN X105 hx (t := .boolean) Bd.returns (by simp) (hb hby d5_95) hr
    · show own_Pure (some (.int r)) h0 n0 _ T105.heap _
      rw [e105]
      exact ⟨congrArg (fun z => some (Value.int z)) (hmem.1 (hr2 hc87_106)).symm, N105, rfl⟩
theorem ef_rm_tkB_4 (m : MethodId) (x0 : Addr) (x1 : Int32) : entryFrame m #[(.ref x0), (.int x1)] 2 = mkF m 0 #[.val (.ref x0), .val (.int x1)] [] := by first | (simp [entryFrame, mkF, argsToLocals, Value.category]; done) | rfl
set_option maxRecDepth 65536 in
set_option maxHeartbeats 40000000 in
theorem rm_tkB_4 (l : Launch) (Z : State) (a0 : Array Value) (hw : ∀ d ∈ tables_1, d.before a0 Z = true) (ws : List Jvm.Cond) (a1 : Addr) (q : Int32) (h0 : Heap) (n0 : Nat) (Z0 : n0 ≤ h0.size) (d : Addr) (kd : ClassId) (c0 c1 c2 c3 : Int32) (A_d : Arv Z h0 d kd .int (4 : Int32) [(.int c0), (.int c1), (.int c2), (.int c3)] (.int (0 : Int32))) (hs : 0 ≤ c0.toInt ∧ c0.toInt ≤ c1.toInt ∧ c1.toInt ≤ c2.toInt ∧ c2.toInt ≤ c3.toInt) (F_c : Fld Z h0 a1 "com/example/cubelet/cubelet/CellStore$Step" "codes" "[I" (.ref d)) (bb : Addr) (kb : ClassId) (zb : Int32) (g : Nat → Int64) (F_b : Fld Z h0 a1 "com/example/cubelet/cubelet/CellStore$Step" "bits" "[J" (.ref bb)) (B_b : own_FL Z h0 bb kb zb g) (hzb : zb.toInt = c3.toInt / 64 + 1) (hS : own_Says g (fun q => c0.toInt = q ∨ c1.toInt = q ∨ c2.toInt = q ∨ c3.toInt = q)) (hq : 0 ≤ q.toInt) (r : Int32) (hmem : ((c0.toInt = q.toInt ∨ c1.toInt = q.toInt ∨ c2.toInt = q.toInt ∨ c3.toInt = q.toInt) → r = 1) ∧ (¬ (c0.toInt = q.toInt ∨ c1.toInt = q.toInt ∨ c2.toInt = q.toInt ∨ c3.toInt = q.toInt) → r = 0)) :
    MetFree l (⟨"com/example/cubelet/cubelet/CellStore$Step", "takes", "(I)Z"⟩ : MethodName) (head1 (Jvm.Cond.code (⟨"com/example/cubelet/cubelet/CellStore$Step", "takes", "(I)Z"⟩ : MethodName) prog_13_method_4_code 2 (some .boolean) :: ws) ({ frames := 0, cells := 0, slots := 0, locals := 0 } : Room)) (fun aQ UQ => aQ = #[(.ref a1), (.int q)] ∧ Z.Warmed39 UQ.vm ∧ UQ.heap = h0) (fun _ _ _ _ _ => True) (fun _ UQ oQ UR => ∃ vQ LQ, oQ = .returned vQ ∧ own_Pure (some (.int r)) h0 n0 vQ UR.heap LQ ∧ FrameEnd UQ oQ UR LQ ({ frames := 0, cells := 0, slots := 0, locals := 0 } : Room).cells ({ frames := 0, cells := 0, slots := 0, locals := 0 } : Room).slots) := by
  refine MetFree.of_bodySF (plainFor_of_name pn_72) hisR ?_
  intro p e s m args below meth c s₁ Bd hml0 hP hK
  obtain ⟨rfl, hZ, hh⟩ := hP
  have hx := Bd.exec
  have hby := Bd.bytes
  have hml : c.maxLocals = 2 := hml0
  have hown : s.vm.findClass "com/example/cubelet/cubelet/CellStore$Step" = some m.cls := findClass_of_methodNamed Bd.named
  have hnm := (name_of_methodNamed Bd.named Bd.method).1
  have X0 : Stand p l e ({ frames := 0, cells := 0, slots := 0, locals := 0 } : Room) s m #[(.ref a1), (.int q)] below meth c s₁ [] 0 0 := Stand.of_body Bd
  have e0 : s₁.heap = h0 := by rw [← hh, Bd.state]; rfl
  have N0 := Fr.nil n0
  have pre0 : ∀ t, Steps p.tables e below (s₁.setTop (mkF m 0 #[.val (.ref a1), .val (.int q)] [])) t → Steps p.tables e below (s₁.setTop (entryFrame m #[(.ref a1), (.int q)] 2)) t := fun t kq => castTop (ef_rm_tkB_4 m a1 q) kq
  obtain ⟨T108, X108, e108, st108⟩ := getF X0 hx hZ hown (host := "") (Or.inl (own_q hw 20 rfl)) Via.refl e0 F_c (g := (mkF m 1 #[.val (.ref a1), .val (.int q)] [(.ref a1)])) rfl rfl (hb hby d5_1)
  obtain ⟨T109, X109, e109, st109⟩ := getF X108 hx hZ hown (host := "") (Or.inl (own_q hw 27 rfl)) Via.refl e108 F_b (g := (mkF m 10 #[.val (.ref a1), .val (.int q)] [(.ref a1)])) rfl rfl (hb hby d5_10)
  obtain ⟨T110, X110, e110, st110⟩ := getF X109 hx hZ hown (host := "") (Or.inl (own_q hw 27 rfl)) Via.refl e109 F_b (g := (mkF m 21 #[.val (.ref a1), .val (.int q)] [(.ref a1), (.int (q / (64 : Int32)))])) rfl rfl (hb hby d5_21)
  have Vc111 := B_b
  obtain ⟨cl111, Ar111, q111, S111, N111_, H111_, G111⟩ := Vc111
  have ck113 : ∀ t, Steps p.tables e below (T110.setTop (mkF m 25 #[.val (.ref a1), .val (.int q)] [(.int zb), (.int (q / (64 : Int32)))])) t → Steps p.tables e below (s₁.setTop (entryFrame m #[(.ref a1), (.int q)] 2)) t := by
    intro t kt
    refine pre0 _ ?_
    refine XS.aloadN X0.here hx rfl (hb hby d5_0) rfl rfl ?_
    refine st108 _ ?_
    show Steps p.tables e below (T108.setTop (mkF m 4 #[.val (.ref a1), .val (.int q)] [(.ref d)])) _
    refine XS.ifnonnullYes X108.here hx rfl (pc0 := 4) (pc' := 9) rfl (hb hby d5_4) rfl (by decide) (by decide) ?_
    refine XS.aloadN X108.here hx rfl (hb hby d5_9) rfl rfl ?_
    refine st109 _ ?_
    show Steps p.tables e below (T109.setTop (mkF m 13 #[.val (.ref a1), .val (.int q)] [(.ref bb)])) _
    refine XS.ifnullNo X109.here hx rfl (hb hby d5_13) rfl ?_
    refine XS.iloadN X109.here hx rfl (hb hby d5_16) rfl ?_
    refine XS.bipush X109.here hx rfl (hb hby d5_17) ?_
    refine XS.idiv X109.here hx rfl (hb hby d5_19) rfl (by decide) ?_
    refine XS.aloadN X109.here hx rfl (hb hby d5_20) rfl rfl ?_
    refine st110 _ ?_
    show Steps p.tables e below (T110.setTop (mkF m 24 #[.val (.ref a1), .val (.int q)] [(.ref bb), (.int (q / (64 : Int32)))])) _
    refine X110.arraylength hx (by rw [e110]; exact Ar111.1) (State.isArrayOf_alike hZ.alike Ar111.2.1) (g := (mkF m 24 #[.val (.ref a1), .val (.int q)] [(.ref bb), (.int (q / (64 : Int32)))])) rfl rfl (hb hby d5_24) _ ?_
    rw [len_of S111 N111_]
    exact kt
  (try clear G111); (try clear H111_); (try clear N111_); (try clear S111); (try clear q111); (try clear Ar111); (try clear cl111); (try clear st110); (try clear st109); (try clear e109); (try clear X109); (try clear T109); (try clear st108); (try clear e108); (try clear X108); (try clear T108)
  by_cases hc25_112 : (q / (64 : Int32)) < zb
  · -- pc 25: yes
    obtain ⟨T114, X114, e114, st114⟩ := getF X110 hx hZ hown (host := "") (Or.inl (own_q hw 27 rfl)) Via.refl e110 F_b (g := (mkF m 29 #[.val (.ref a1), .val (.int q)] [(.ref a1)])) rfl rfl (hb hby d5_29)
    have Vc115 := B_b
    obtain ⟨cl115, Ar115, q115, S115, N115_, H115_, G115⟩ := Vc115
    have hin115 : ¬ ((q / (64 : Int32)) < 0 ∨ cl115.slots.size ≤ ((q / (64 : Int32))).toNatClampNeg) := inb_of S115 ⟨(own_nn (by have := own_div64 q hq; omega)), hc25_112⟩
    have ck117 : ∀ t, Steps p.tables e below (T114.setTop (mkF m 43 #[.val (.ref a1), .val (.int q)] [(.int (lcmpW ((g ((q / (64 : Int32))).toNatClampNeg) &&& ((1 : Int64) <<< (q &&& 0x3f).toInt64)) (0 : Int64)))])) t → Steps p.tables e below (s₁.setTop (entryFrame m #[(.ref a1), (.int q)] 2)) t := by
      intro t kt
      refine ck113 _ ?_
      refine XS.icmpNo X110.here hx rfl (hb hby d5_25) rfl (tlt hc25_112).2.1 ?_
      refine XS.aloadN X110.here hx rfl (hb hby d5_28) rfl rfl ?_
      refine st114 _ ?_
      show Steps p.tables e below (T114.setTop (mkF m 32 #[.val (.ref a1), .val (.int q)] [(.ref bb)])) _
      refine XS.iloadN X114.here hx rfl (hb hby d5_32) rfl ?_
      refine XS.bipush X114.here hx rfl (hb hby d5_33) ?_
      refine XS.idiv X114.here hx rfl (hb hby d5_35) rfl (by decide) ?_
      refine X114.laload hx (j := (q / (64 : Int32))) (v := (.long (g ((q / (64 : Int32))).toNatClampNeg))) (by rw [e114]; exact Ar115.1) (State.isArrayOf_alike hZ.alike Ar115.2.1) Ar115.2.2 hin115 (own_FL.at H115_ hin115) (g := (mkF m 36 #[.val (.ref a1), .val (.int q)] [(.int (q / (64 : Int32))), (.ref bb)])) rfl rfl (hb hby d5_36) _ ?_
      show Steps p.tables e below (T114.setTop (mkF m 37 #[.val (.ref a1), .val (.int q)] [(.long (g ((q / (64 : Int32))).toNatClampNeg))])) _
      refine XS.lconst X114.here hx rfl (hb hby d5_37) ?_
      refine XS.iloadN X114.here hx rfl (hb hby d5_38) rfl ?_
      refine XS.lshl X114.here hx rfl (hb hby d5_39) rfl ?_
      refine XS.land X114.here hx rfl (hb hby d5_40) rfl ?_
      refine XS.lconst X114.here hx rfl (hb hby d5_41) ?_
      refine XS.lcmp X114.here hx rfl (hb hby d5_42) rfl ?_
      exact kt
    (try clear hin115); (try clear G115); (try clear H115_); (try clear N115_); (try clear S115); (try clear q115); (try clear Ar115); (try clear cl115); (try clear st114)
    by_cases hc43_116 : (lcmpW ((g ((q / (64 : Int32))).toNatClampNeg) &&& ((1 : Int64) <<< (q &&& 0x3f).toInt64)) (0 : Int64)) = (0 : Int32)
    · -- pc 43: yes
      have hq64 := own_div64 q hq
      have d_hc25_112 := hc25_112; rw [Int32.lt_iff_toInt_lt] at d_hc25_112
      have hz_hc43_116 := (lw_eq _ _).mp hc43_116
      obtain ⟨fs, hr, hrun, hended, hW, hsame⟩ := X114.leave (v := some (.int (0 : Int32))) (fun h => by rw [Bd.returns] at h; cases h)
      refine ⟨_, _, ck117 _ ?_, hrun, hended, _, _, rfl, ?_, ⟨_, rfl⟩, hW, hsame.mono (by decide) (by decide)⟩
      · refine XS.ifYes X114.here hx rfl (pc0 := 43) (pc' := 50) rfl (hb hby d5_43) rfl ((if0 _ _).trans (teq hc43_116).1) (by decide) (by decide) ?_
        refine XS.iconst X114.here hx rfl (hb hby d5_50) ?_
        exact retN X114 hx (t := .boolean) Bd.returns (by simp) (hb hby d5_51) hr
      · show own_Pure (some (.int r)) h0 n0 _ T114.heap _
        rw [e114]
        exact ⟨congrArg (fun z => some (Value.int z)) (hmem.2 ((hS q hq).mp hz_hc43_116)).symm, N0, rfl⟩
    · -- pc 43: no
      have hq64 := own_div64 q hq
      have d_hc25_112 := hc25_112; rw [Int32.lt_iff_toInt_lt] at d_hc25_112
      have hz_hc43_116 := fun z => hc43_116 ((lw_eq _ _).mpr z)
      obtain ⟨fs, hr, hrun, hended, hW, hsame⟩ := X114.leave (v := some (.int (1 : Int32))) (fun h => by rw [Bd.returns] at h; cases h)
      refine ⟨_, _, ck117 _ ?_, hrun, hended, _, _, rfl, ?_, ⟨_, rfl⟩, hW, hsame.mono (by decide) (by decide)⟩
      · refine XS.ifNo X114.here hx rfl (hb hby d5_43) rfl ((if0 _ _).trans (feq hc43_116).1) ?_
        refine XS.iconst X114.here hx rfl (hb hby d5_46) ?_
        refine XS.goto X114.here hx rfl (pc0 := 47) (pc' := 51) rfl (hb hby d5_47) (by decide) (by decide) ?_
        exact retN X114 hx (t := .boolean) Bd.returns (by simp) (hb hby d5_51) hr
      · show own_Pure (some (.int r)) h0 n0 _ T114.heap _
        rw [e114]
        exact ⟨congrArg (fun z => some (Value.int z)) (hmem.1 (Decidable.byContradiction fun z => hz_hc43_116 ((hS q hq).mpr z))).symm, N0, rfl⟩
  · -- pc 25: no
    have hq64 := own_div64 q hq
    have d_hc25_112 := hc25_112; rw [Int32.lt_iff_toInt_lt] at d_hc25_112
    obtain ⟨fs, hr, hrun, hended, hW, hsame⟩ := X110.leave (v := some (.int (0 : Int32))) (fun h => by rw [Bd.returns] at h; cases h)
    refine ⟨_, _, ck113 _ ?_, hrun, hended, _, _, rfl, ?_, ⟨_, rfl⟩, hW, hsame.mono (by decide) (by decide)⟩
    · refine XS.icmpYes X110.here hx rfl (pc0 := 25) (pc' := 50) rfl (hb hby d5_25) rfl (flt hc25_112).2.1 (by decide) (by decide) ?_
      refine XS.iconst X110.here hx rfl (hb hby d5_50) ?_
      exact retN X110 hx (t := .boolean) Bd.returns (by simp) (hb hby d5_51) hr
    · show own_Pure (some (.int r)) h0 n0 _ T110.heap _
      rw [e110]
      exact ⟨congrArg (fun z => some (Value.int z)) (hmem.2 (by omega)).symm, N0, rfl⟩
theorem d3_0 : decode prog_13_method_1_code 0 = .ok (.aload_n 0, 1) := by decide +kernel
theorem d3_1 : decode prog_13_method_1_code 1 = .ok (.invokespecial 1, 3) := by decide +kernel
theorem d3_4 : decode prog_13_method_1_code 4 = .ok (.aload_n 0, 1) := by decide +kernel
theorem d3_5 : decode prog_13_method_1_code 5 = .ok (.iload_n 1, 1) := by decide +kernel
theorem d3_6 : decode prog_13_method_1_code 6 = .ok (.putfield 7, 3) := by decide +kernel
theorem d3_9 : decode prog_13_method_1_code 9 = .ok (.aload_n 0, 1) := by decide +kernel
theorem d3_10 : decode prog_13_method_1_code 10 = .ok (.aload_n 2, 1) := by decide +kernel
theorem d3_11 : decode prog_13_method_1_code 11 = .ok (.putfield 13, 3) := by decide +kernel
theorem d3_14 : decode prog_13_method_1_code 14 = .ok (.aload_n 0, 1) := by decide +kernel
theorem d3_15 : decode prog_13_method_1_code 15 = .ok (.iload_n 3, 1) := by decide +kernel
theorem d3_16 : decode prog_13_method_1_code 16 = .ok (.putfield 17, 3) := by decide +kernel
theorem d3_19 : decode prog_13_method_1_code 19 = .ok (.aload_n 0, 1) := by decide +kernel
theorem d3_20 : decode prog_13_method_1_code 20 = .ok (.iload 4, 2) := by decide +kernel
theorem d3_22 : decode prog_13_method_1_code 22 = .ok (.putfield 20, 3) := by decide +kernel
theorem d3_25 : decode prog_13_method_1_code 25 = .ok (.aload_n 2, 1) := by decide +kernel
theorem d3_26 : decode prog_13_method_1_code 26 = .ok (.ifnull 8, 3) := by decide +kernel
theorem d3_34 : decode prog_13_method_1_code 34 = .ok (.iconst 0, 1) := by decide +kernel
theorem d3_35 : decode prog_13_method_1_code 35 = .ok (.goto 9, 3) := by decide +kernel
theorem d3_44 : decode prog_13_method_1_code 44 = .ok (.istore 5, 2) := by decide +kernel
theorem d3_46 : decode prog_13_method_1_code 46 = .ok (.aload_n 2, 1) := by decide +kernel
theorem d3_47 : decode prog_13_method_1_code 47 = .ok (.ifnull 86, 3) := by decide +kernel
theorem d3_133 : decode prog_13_method_1_code 133 = .ok (.aload_n 0, 1) := by decide +kernel
theorem d3_134 : decode prog_13_method_1_code 134 = .ok (.aconst_null, 1) := by decide +kernel
theorem d3_135 : decode prog_13_method_1_code 135 = .ok (.putfield 27, 3) := by decide +kernel
theorem d3_138 : decode prog_13_method_1_code 138 = .ok (.return_, 1) := by decide +kernel
theorem ef_rm_ini_null (m : MethodId) (x0 : Addr) : entryFrame m #[(.ref x0), (.int (1 : Int32)), .null, (.int (0 : Int32)), (.int (0 : Int32))] 10 = mkF m 0 #[.val (.ref x0), .val (.int (1 : Int32)), .val .null, .val (.int (0 : Int32)), .val (.int (0 : Int32)), .unset, .unset, .unset, .unset, .unset] [] := by first | (simp [entryFrame, mkF, argsToLocals, Value.category]; done) | rfl
set_option maxRecDepth 65536 in
set_option maxHeartbeats 40000000 in
theorem rm_ini_null (l : Launch) (Z : State) (a0 : Array Value) (hw : ∀ d ∈ tables_1, d.before a0 Z = true) (ws : List Jvm.Cond) (a1 : Addr) (h0 : Heap) (n0 : Nat) (Z0 : n0 ≤ h0.size) (E_a : Exa Z h0 a1 "com/example/cubelet/cubelet/CellStore$Step") (F_takesValues : Fld Z h0 a1 "com/example/cubelet/cubelet/CellStore$Step" "takesValues" "Z" (.int (0 : Int32))) (F_takesAll : Fld Z h0 a1 "com/example/cubelet/cubelet/CellStore$Step" "takesAll" "Z" (.int (0 : Int32))) (F_apart : Fld Z h0 a1 "com/example/cubelet/cubelet/CellStore$Step" "apart" "Z" (.int (0 : Int32))) (F_codes : Fld Z h0 a1 "com/example/cubelet/cubelet/CellStore$Step" "codes" "[I" .null) (F_bits : Fld Z h0 a1 "com/example/cubelet/cubelet/CellStore$Step" "bits" "[J" .null) (gn_a : n0 ≤ a1)  :
    MetFree l (⟨"com/example/cubelet/cubelet/CellStore$Step", "<init>", "(Z[IZZ)V"⟩ : MethodName) (head1 (Jvm.Cond.code (⟨"com/example/cubelet/cubelet/CellStore$Step", "<init>", "(Z[IZZ)V"⟩ : MethodName) prog_13_method_1_code 10 none :: ws) ({ frames := 1, cells := 0, slots := 0, locals := 12 } : Room)) (fun aQ UQ => aQ = #[(.ref a1), (.int (1 : Int32)), .null, (.int (0 : Int32)), (.int (0 : Int32))] ∧ Z.Warmed39 UQ.vm ∧ UQ.heap = h0) (fun _ _ _ _ _ => True) (fun _ UQ oQ UR => ∃ vQ LQ, oQ = .returned vQ ∧ own_Init Z a1 .null (fun h => Fld Z h a1 "com/example/cubelet/cubelet/CellStore$Step" "bits" "[J" .null) h0 n0 vQ UR.heap LQ ∧ FrameEnd UQ oQ UR LQ ({ frames := 1, cells := 0, slots := 0, locals := 12 } : Room).cells ({ frames := 1, cells := 0, slots := 0, locals := 12 } : Room).slots) := by
  refine MetFree.of_bodySF (plainFor_of_name pn_72) hisR ?_
  intro p e s m args below meth c s₁ Bd hml0 hP hK
  obtain ⟨rfl, hZ, hh⟩ := hP
  have hx := Bd.exec
  have hby := Bd.bytes
  have hml : c.maxLocals = 10 := hml0
  have hown : s.vm.findClass "com/example/cubelet/cubelet/CellStore$Step" = some m.cls := findClass_of_methodNamed Bd.named
  have hnm := (name_of_methodNamed Bd.named Bd.method).1
  have X0 : Stand p l e ({ frames := 1, cells := 0, slots := 0, locals := 12 } : Room) s m #[(.ref a1), (.int (1 : Int32)), .null, (.int (0 : Int32)), (.int (0 : Int32))] below meth c s₁ [] 0 0 := Stand.of_body Bd
  have e0 : s₁.heap = h0 := by rw [← hh, Bd.state]; rfl
  have N0 := Fr.nil n0
  have pre0 : ∀ t, Steps p.tables e below (s₁.setTop (mkF m 0 #[.val (.ref a1), .val (.int (1 : Int32)), .val .null, .val (.int (0 : Int32)), .val (.int (0 : Int32)), .unset, .unset, .unset, .unset, .unset] [])) t → Steps p.tables e below (s₁.setTop (entryFrame m #[(.ref a1), (.int (1 : Int32)), .null, (.int (0 : Int32)), (.int (0 : Int32))] 10)) t := fun t kq => castTop (ef_rm_ini_null m a1) kq
  obtain ⟨T118, X118, e118, st118⟩ := initO X0 hx hZ hown (own_q hw 15 rfl) (own_q hw 16 rfl) (own_q hw 17 rfl) e0 (g := (mkF m 1 #[.val (.ref a1), .val (.int (1 : Int32)), .val .null, .val (.int (0 : Int32)), .val (.int (0 : Int32)), .unset, .unset, .unset, .unset, .unset] [(.ref a1)])) rfl (by rw [hml]; rfl) rfl (hb hby d3_1) (by decide) (W := 0) (by show 2 * 0 + _ ≤ _; exact Nat.le_of_eq rfl) (by decide)
  obtain ⟨T119, h119, X119, e119, W119, st119⟩ := putFN X118 hx hZ hown (own_q hw 18 rfl) Via.refl e118 F_takesValues E_a (Or.inr ⟨(own_q hw 19 rfl), rfl, hnm⟩) (own_q hw 11 rfl) (ty := .boolean) (v' := (.int (1 : Int32))) (by decide) rfl rfl (g := (mkF m 6 #[.val (.ref a1), .val (.int (1 : Int32)), .val .null, .val (.int (0 : Int32)), .val (.int (0 : Int32)), .unset, .unset, .unset, .unset, .unset] [(.int (1 : Int32)), (.ref a1)])) rfl rfl (hb hby d3_6)
  have KP119 := Keep.wr (Keep.refl h0 [a1]) W119 (Or.inl (List.mem_of_getElem? (i := 0) rfl))
  have Fw119 := F_takesValues.same W119
  have N119 := Fr.snoc X119 N0 gn_a
  have Fx120 := (E_a.wr W119)
  have Fx121 := (F_codes.other W119 (Or.inr (slot_ne (Or.inr (own_q hw 21 rfl)) (Or.inr (own_q hw 19 rfl)) (by decide) (t := (.array .int)) (t' := .boolean) (by decide) (by decide))))
  obtain ⟨T122, h122, X122, e122, W122, st122⟩ := putF X119 hx hZ hown (host := "") (Or.inl (own_q hw 20 rfl)) Via.refl e119 Fx121 Fx120 (Or.inr ⟨(own_q hw 21 rfl), rfl, hnm⟩) (own_q hw 11 rfl) (ty := (.array .int)) (by decide) rfl rfl (g := (mkF m 11 #[.val (.ref a1), .val (.int (1 : Int32)), .val .null, .val (.int (0 : Int32)), .val (.int (0 : Int32)), .unset, .unset, .unset, .unset, .unset] [.null, (.ref a1)])) rfl rfl (hb hby d3_11)
  have KP122 := Keep.wr KP119 W122 (Or.inl (List.mem_of_getElem? (i := 0) rfl))
  have Fw122 := Fx121.same W122
  have N122 := Fr.snoc X122 N119 gn_a
  have Fx123 := (Fx120.wr W122)
  have Fx124 := ((F_takesAll.other W119 (Or.inr (slot_ne (Or.inr (own_q hw 23 rfl)) (Or.inr (own_q hw 19 rfl)) (by decide) (t := .boolean) (t' := .boolean) (by decide) (by decide)))).other W122 (Or.inr (slot_ne (Or.inr (own_q hw 23 rfl)) (Or.inr (own_q hw 21 rfl)) (by decide) (t := .boolean) (t' := (.array .int)) (by decide) (by decide))))
  obtain ⟨T125, h125, X125, e125, W125, st125⟩ := putFN X122 hx hZ hown (own_q hw 22 rfl) Via.refl e122 Fx124 Fx123 (Or.inr ⟨(own_q hw 23 rfl), rfl, hnm⟩) (own_q hw 11 rfl) (ty := .boolean) (v' := (.int (0 : Int32))) (by decide) rfl rfl (g := (mkF m 16 #[.val (.ref a1), .val (.int (1 : Int32)), .val .null, .val (.int (0 : Int32)), .val (.int (0 : Int32)), .unset, .unset, .unset, .unset, .unset] [(.int (0 : Int32)), (.ref a1)])) rfl rfl (hb hby d3_16)
  have KP125 := Keep.wr KP122 W125 (Or.inl (List.mem_of_getElem? (i := 0) rfl))
  have Fw125 := Fx124.same W125
  have N125 := Fr.snoc X125 N122 gn_a
  have Fx126 := (Fx123.wr W125)
  have Fx127 := (((F_apart.other W119 (Or.inr (slot_ne (Or.inr (own_q hw 25 rfl)) (Or.inr (own_q hw 19 rfl)) (by decide) (t := .boolean) (t' := .boolean) (by decide) (by decide)))).other W122 (Or.inr (slot_ne (Or.inr (own_q hw 25 rfl)) (Or.inr (own_q hw 21 rfl)) (by decide) (t := .boolean) (t' := (.array .int)) (by decide) (by decide)))).other W125 (Or.inr (slot_ne (Or.inr (own_q hw 25 rfl)) (Or.inr (own_q hw 23 rfl)) (by decide) (t := .boolean) (t' := .boolean) (by decide) (by decide))))
  obtain ⟨T128, h128, X128, e128, W128, st128⟩ := putFN X125 hx hZ hown (own_q hw 24 rfl) Via.refl e125 Fx127 Fx126 (Or.inr ⟨(own_q hw 25 rfl), rfl, hnm⟩) (own_q hw 11 rfl) (ty := .boolean) (v' := (.int (0 : Int32))) (by decide) rfl rfl (g := (mkF m 22 #[.val (.ref a1), .val (.int (1 : Int32)), .val .null, .val (.int (0 : Int32)), .val (.int (0 : Int32)), .unset, .unset, .unset, .unset, .unset] [(.int (0 : Int32)), (.ref a1)])) rfl rfl (hb hby d3_22)
  have KP128 := Keep.wr KP125 W128 (Or.inl (List.mem_of_getElem? (i := 0) rfl))
  have Fw128 := Fx127.same W128
  have N128 := Fr.snoc X128 N125 gn_a
  have Fx129 := (Fx126.wr W128)
  have Fx130 := ((((F_bits.other W119 (Or.inr (slot_ne (Or.inr (own_q hw 28 rfl)) (Or.inr (own_q hw 19 rfl)) (by decide) (t := (.array .long)) (t' := .boolean) (by decide) (by decide)))).other W122 (Or.inr (slot_ne (Or.inr (own_q hw 28 rfl)) (Or.inr (own_q hw 21 rfl)) (by decide) (t := (.array .long)) (t' := (.array .int)) (by decide) (by decide)))).other W125 (Or.inr (slot_ne (Or.inr (own_q hw 28 rfl)) (Or.inr (own_q hw 23 rfl)) (by decide) (t := (.array .long)) (t' := .boolean) (by decide) (by decide)))).other W128 (Or.inr (slot_ne (Or.inr (own_q hw 28 rfl)) (Or.inr (own_q hw 25 rfl)) (by decide) (t := (.array .long)) (t' := .boolean) (by decide) (by decide))))
  obtain ⟨T131, h131, X131, e131, W131, st131⟩ := putF X128 hx hZ hown (host := "") (Or.inl (own_q hw 27 rfl)) Via.refl e128 Fx130 Fx129 (Or.inr ⟨(own_q hw 28 rfl), rfl, hnm⟩) (own_q hw 11 rfl) (ty := (.array .long)) (by decide) rfl rfl (g := (mkF m 135 #[.val (.ref a1), .val (.int (1 : Int32)), .val .null, .val (.int (0 : Int32)), .val (.int (0 : Int32)), .val (.int (0 : Int32)), .unset, .unset, .unset, .unset] [.null, (.ref a1)])) rfl rfl (hb hby d3_135)
  have KP131 := Keep.wr KP128 W131 (Or.inl (List.mem_of_getElem? (i := 0) rfl))
  have Fw131 := Fx130.same W131
  have N131 := Fr.snoc X131 N128 gn_a
  have Fx132 := (Fx129.wr W131)
  have Fx133 := (((Fw122.other W125 (Or.inr (slot_ne (Or.inr (own_q hw 21 rfl)) (Or.inr (own_q hw 23 rfl)) (by decide) (t := (.array .int)) (t' := .boolean) (by decide) (by decide)))).other W128 (Or.inr (slot_ne (Or.inr (own_q hw 21 rfl)) (Or.inr (own_q hw 25 rfl)) (by decide) (t := (.array .int)) (t' := .boolean) (by decide) (by decide)))).other W131 (Or.inr (slot_ne (Or.inr (own_q hw 21 rfl)) (Or.inr (own_q hw 28 rfl)) (by decide) (t := (.array .int)) (t' := (.array .long)) (by decide) (by decide))))
  obtain ⟨fs, hr, hrun, hended, hW, hsame⟩ := X131.leave (v := none) (fun _ => rfl)
  refine ⟨_, _, pre0 _ ?_, hrun, hended, _, _, rfl, ?_, ⟨_, rfl⟩, hW, hsame.mono (by decide) (by decide)⟩
  · refine XS.aloadN X0.here hx rfl (hb hby d3_0) rfl rfl ?_
    refine st118 _ ?_
    show Steps p.tables e below (T118.setTop (mkF m 4 #[.val (.ref a1), .val (.int (1 : Int32)), .val .null, .val (.int (0 : Int32)), .val (.int (0 : Int32)), .unset, .unset, .unset, .unset, .unset] [])) _
    refine XS.aloadN X118.here hx rfl (hb hby d3_4) rfl rfl ?_
    refine XS.iloadN X118.here hx rfl (hb hby d3_5) rfl ?_
    refine st119 _ ?_
    show Steps p.tables e below (T119.setTop (mkF m 9 #[.val (.ref a1), .val (.int (1 : Int32)), .val .null, .val (.int (0 : Int32)), .val (.int (0 : Int32)), .unset, .unset, .unset, .unset, .unset] [])) _
    refine XS.aloadN X119.here hx rfl (hb hby d3_9) rfl rfl ?_
    refine XS.aloadN X119.here hx rfl (hb hby d3_10) rfl rfl ?_
    refine st122 _ ?_
    show Steps p.tables e below (T122.setTop (mkF m 14 #[.val (.ref a1), .val (.int (1 : Int32)), .val .null, .val (.int (0 : Int32)), .val (.int (0 : Int32)), .unset, .unset, .unset, .unset, .unset] [])) _
    refine XS.aloadN X122.here hx rfl (hb hby d3_14) rfl rfl ?_
    refine XS.iloadN X122.here hx rfl (hb hby d3_15) rfl ?_
    refine st125 _ ?_
    show Steps p.tables e below (T125.setTop (mkF m 19 #[.val (.ref a1), .val (.int (1 : Int32)), .val .null, .val (.int (0 : Int32)), .val (.int (0 : Int32)), .unset, .unset, .unset, .unset, .unset] [])) _
    refine XS.aloadN X125.here hx rfl (hb hby d3_19) rfl rfl ?_
    refine XS.iload X125.here hx rfl (hb hby d3_20) rfl ?_
    refine st128 _ ?_
    show Steps p.tables e below (T128.setTop (mkF m 25 #[.val (.ref a1), .val (.int (1 : Int32)), .val .null, .val (.int (0 : Int32)), .val (.int (0 : Int32)), .unset, .unset, .unset, .unset, .unset] [])) _
    refine XS.aloadN X128.here hx rfl (hb hby d3_25) rfl rfl ?_
    refine XS.ifnullYes X128.here hx rfl (pc0 := 26) (pc' := 34) rfl (hb hby d3_26) rfl (by decide) (by decide) ?_
    refine XS.iconst X128.here hx rfl (hb hby d3_34) ?_
    refine XS.goto X128.here hx rfl (pc0 := 35) (pc' := 44) rfl (hb hby d3_35) (by decide) (by decide) ?_
    refine XS.istore X128.here hx rfl (hb hby d3_44) rfl (l' := #[.val (.ref a1), .val (.int (1 : Int32)), .val .null, .val (.int (0 : Int32)), .val (.int (0 : Int32)), .val (.int (0 : Int32)), .unset, .unset, .unset, .unset]) rfl ?_
    refine XS.aloadN X128.here hx rfl (hb hby d3_46) rfl rfl ?_
    refine XS.ifnullYes X128.here hx rfl (pc0 := 47) (pc' := 133) rfl (hb hby d3_47) rfl (by decide) (by decide) ?_
    refine XS.aloadN X128.here hx rfl (hb hby d3_133) rfl rfl ?_
    refine XS.aconstNull X128.here hx rfl (hb hby d3_134) ?_
    refine st131 _ ?_
    show Steps p.tables e below (T131.setTop (mkF m 138 #[.val (.ref a1), .val (.int (1 : Int32)), .val .null, .val (.int (0 : Int32)), .val (.int (0 : Int32)), .val (.int (0 : Int32)), .unset, .unset, .unset, .unset] [])) _
    exact X131.returnOut hx Bd.returns (hb hby d3_138) hr
  · show own_Init Z a1 .null (fun h => Fld Z h a1 "com/example/cubelet/cubelet/CellStore$Step" "bits" "[J" .null) h0 n0 _ T131.heap _
    rw [e131]
    exact ⟨rfl, N131, KP131, Fx132, Fx133, Fw131⟩
theorem d2_0 : decode prog_13_method_3_code 0 = .ok (.new 8, 3) := by decide +kernel
theorem d2_3 : decode prog_13_method_3_code 3 = .ok (.dup, 1) := by decide +kernel
theorem d2_4 : decode prog_13_method_3_code 4 = .ok (.iconst 1, 1) := by decide +kernel
theorem d2_5 : decode prog_13_method_3_code 5 = .ok (.aload_n 0, 1) := by decide +kernel
theorem d2_6 : decode prog_13_method_3_code 6 = .ok (.iconst 0, 1) := by decide +kernel
theorem d2_7 : decode prog_13_method_3_code 7 = .ok (.iconst 0, 1) := by decide +kernel
theorem pd_156 : parseMethodDescriptor "(Z[IZZ)V" = some ⟨[.boolean, (.array .int), .boolean, .boolean], none⟩ := by decide +kernel
theorem d2_8 : decode prog_13_method_3_code 8 = .ok (.invokespecial 31, 3) := by decide +kernel
theorem d2_11 : decode prog_13_method_3_code 11 = .ok (.areturn, 1) := by decide +kernel
theorem ef_rm_tog_null (m : MethodId)  : entryFrame m #[.null] 1 = mkF m 0 #[.val .null] [] := by first | (simp [entryFrame, mkF, argsToLocals, Value.category]; done) | rfl
set_option maxRecDepth 65536 in
set_option maxHeartbeats 40000000 in
theorem rm_tog_null (l : Launch) (Z : State) (a0 : Array Value) (hw : ∀ d ∈ tables_1, d.before a0 Z = true) (ws : List Jvm.Cond)  (h0 : Heap) (n0 : Nat) (Z0 : n0 ≤ h0.size)  :
    MetFree l (⟨"com/example/cubelet/cubelet/CellStore$Step", "together", "([I)Lcom/example/cubelet/cubelet/CellStore$Step;"⟩ : MethodName) (head1 (Jvm.Cond.code (⟨"com/example/cubelet/cubelet/CellStore$Step", "together", "([I)Lcom/example/cubelet/cubelet/CellStore$Step;"⟩ : MethodName) prog_13_method_3_code 1 (some (.object "com/example/cubelet/cubelet/CellStore$Step")) :: ws) ({ frames := 2, cells := 1, slots := 5, locals := 34 } : Room)) (fun aQ UQ => aQ = #[.null] ∧ Z.Warmed39 UQ.vm ∧ UQ.heap = h0) (fun _ _ _ _ _ => True) (fun _ UQ oQ UR => ∃ vQ LQ, oQ = .returned vQ ∧ own_Tog Z .null (fun a => (fun h => Fld Z h a "com/example/cubelet/cubelet/CellStore$Step" "bits" "[J" .null)) h0 n0 vQ UR.heap LQ ∧ FrameEnd UQ oQ UR LQ ({ frames := 2, cells := 1, slots := 5, locals := 34 } : Room).cells ({ frames := 2, cells := 1, slots := 5, locals := 34 } : Room).slots) := by
  refine MetFree.of_bodySF (plainFor_of_name pn_72) hisR ?_
  intro p e s m args below meth c s₁ Bd hml0 hP hK
  obtain ⟨rfl, hZ, hh⟩ := hP
  have hx := Bd.exec
  have hby := Bd.bytes
  have hml : c.maxLocals = 1 := hml0
  have hown : s.vm.findClass "com/example/cubelet/cubelet/CellStore$Step" = some m.cls := findClass_of_methodNamed Bd.named
  have hnm := (name_of_methodNamed Bd.named Bd.method).1
  have X0 : Stand p l e ({ frames := 2, cells := 1, slots := 5, locals := 34 } : Room) s m #[.null] below meth c s₁ [] 0 0 := Stand.of_body Bd
  have e0 : s₁.heap = h0 := by rw [← hh, Bd.state]; rfl
  have N0 := Fr.nil n0
  have pre0 : ∀ t, Steps p.tables e below (s₁.setTop (mkF m 0 #[.val .null] [])) t → Steps p.tables e below (s₁.setTop (entryFrame m #[.null] 1)) t := fun t kq => castTop (ef_rm_tog_null m ) kq
  obtain ⟨T134, h134, X134, e134, E134, A134, D134, -, st134⟩ := newO X0 hx hZ hown (own_q hw 10 rfl) (own_q hw 11 rfl) (own_q hw 8 rfl) e0 (g := (mkF m 0 #[.val .null] [])) rfl (hb hby d2_0) (by decide) (by decide)
  obtain ⟨b134, g134⟩ : ∃ z, z = h0.size := ⟨_, rfl⟩
  rw [← g134] at A134 D134 st134
  have sz_b134 : h0.size ≤ b134 := Nat.le_trans (Keep.refl h0 []).1 (Nat.le_of_eq g134.symm)
  have gn_b134 : n0 ≤ b134 := Nat.le_trans Z0 sz_b134
  have EX134 := own_ext_trans (own_ext_refl h0) E134
  have KP134 := Keep.ext (Keep.refl h0 []) E134
  have F134_takesValues : Fld Z h134 b134 "com/example/cubelet/cubelet/CellStore$Step" "takesValues" "Z" (.int (0 : Int32)) := D134 (Or.inr (own_q hw 19 rfl)) (ty := .boolean) (by decide)
  have F134_codes : Fld Z h134 b134 "com/example/cubelet/cubelet/CellStore$Step" "codes" "[I" .null := D134 (Or.inr (own_q hw 21 rfl)) (ty := (.array .int)) (by decide)
  have F134_takesAll : Fld Z h134 b134 "com/example/cubelet/cubelet/CellStore$Step" "takesAll" "Z" (.int (0 : Int32)) := D134 (Or.inr (own_q hw 23 rfl)) (ty := .boolean) (by decide)
  have F134_apart : Fld Z h134 b134 "com/example/cubelet/cubelet/CellStore$Step" "apart" "Z" (.int (0 : Int32)) := D134 (Or.inr (own_q hw 25 rfl)) (ty := .boolean) (by decide)
  have F134_bits : Fld Z h134 b134 "com/example/cubelet/cubelet/CellStore$Step" "bits" "[J" .null := D134 (Or.inr (own_q hw 28 rfl)) (ty := (.array .long)) (by decide)
  obtain ⟨_, _, ⟨T135, L135, k135, n135⟩, -, X135, ⟨Lc135, hQ135, l135, y135, z135⟩, st135⟩ := X134.specialBack hx (y := (⟨"com/example/cubelet/cubelet/CellStore$Step", "<init>", "(Z[IZZ)V"⟩ : MethodName)) rfl hown (mvT hZ (own_q hw 12 rfl)) (mvT hZ (own_q hw 13 rfl)) (mvT hZ (own_q hw 14 rfl)) (by decide) (backOf (W := 1) (rm_ini_null l Z a0 hw [] b134 h134 n0 (Nat.le_trans Z0 EX134.1) A134 F134_takesValues F134_takesAll F134_apart F134_codes F134_bits gn_b134 ) hZ (own_q hw 14 rfl) (own_q hw 8 rfl) (by decide) (by decide)) (g := (mkF m 8 #[.val .null] [(.int (0 : Int32)), (.int (0 : Int32)), .null, (.int (1 : Int32)), (.ref b134), (.ref b134)])) rfl (by rw [hml]; rfl) (Steps.refl _) (a := b134) (argsL := [(.int (1 : Int32)), .null, (.int (0 : Int32)), (.int (0 : Int32))]) (rest := [(.ref b134)]) (lenOf pd_156 rfl) rfl (by show 2 * 0 + _ ≤ _; exact Nat.le_of_eq rfl) (hb hby d2_8) (fun _ _ => ⟨rfl, e134, (by decide : 1 + 0 ≤ _), (by decide : 5 + 0 ≤ _)⟩)
  dsimp only [Pt.U, Pt.locs, Pt.cells, Pt.slots] at X135 l135 y135 z135 st135 hQ135
  subst l135 y135 z135
  obtain ⟨rfl, N135q, K135, E135, Fc135, hB135⟩ := hQ135
  have N135 := Fr.app N0 N135q
  have e135 : T135.heap = T135.heap := rfl
  have EX135 := own_ext_keep EX134 K135 (allS sz_b134 all0)
  have KP135 := Keep.trans KP134 K135 (allS (Or.inr sz_b134) all0)
  obtain ⟨fs, hr, hrun, hended, hW, hsame⟩ := X135.leave (v := some (.ref b134)) (fun h => by rw [Bd.returns] at h; cases h)
  refine ⟨_, _, pre0 _ ?_, hrun, hended, _, _, rfl, ?_, ⟨_, rfl⟩, hW, hsame.mono (by decide) (by decide)⟩
  · refine st134 _ ?_
    show Steps p.tables e below (T134.setTop (mkF m 3 #[.val .null] [(.ref b134)])) _
    refine XS.dup X134.here hx rfl (hb hby d2_3) rfl rfl ?_
    refine XS.iconst X134.here hx rfl (hb hby d2_4) ?_
    refine XS.aloadN X134.here hx rfl (hb hby d2_5) rfl rfl ?_
    refine XS.iconst X134.here hx rfl (hb hby d2_6) ?_
    refine XS.iconst X134.here hx rfl (hb hby d2_7) ?_
    refine st135.trans ?_
    show Steps p.tables e below (T135.setTop (mkF m 11 #[.val .null] [(.ref b134)])) _
    exact retOut X135 hx Bd.returns rfl (Or.inr (Or.inr (Or.inr (Or.inr ⟨rfl, rfl, rfl⟩)))) (hb hby d2_11) hr
  · show own_Tog Z .null (fun a => (fun h => Fld Z h a "com/example/cubelet/cubelet/CellStore$Step" "bits" "[J" .null)) h0 n0 _ T135.heap _
    exact ⟨b134, rfl, N135, EX135, E135, Fc135, hB135⟩
theorem d3_29 : decode prog_13_method_1_code 29 = .ok (.aload_n 2, 1) := by decide +kernel
theorem d3_30 : decode prog_13_method_1_code 30 = .ok (.arraylength, 1) := by decide +kernel
theorem d3_31 : decode prog_13_method_1_code 31 = .ok (.ifCond .ne 7, 3) := by decide +kernel
theorem d3_50 : decode prog_13_method_1_code 50 = .ok (.aload_n 2, 1) := by decide +kernel
theorem d3_51 : decode prog_13_method_1_code 51 = .ok (.arraylength, 1) := by decide +kernel
theorem d3_52 : decode prog_13_method_1_code 52 = .ok (.iconst 1, 1) := by decide +kernel
theorem d3_53 : decode prog_13_method_1_code 53 = .ok (.if_icmp .le 80, 3) := by decide +kernel
theorem ef_rm_ini_0 (m : MethodId) (x0 : Addr) (x2 : Addr) : entryFrame m #[(.ref x0), (.int (1 : Int32)), (.ref x2), (.int (0 : Int32)), (.int (0 : Int32))] 10 = mkF m 0 #[.val (.ref x0), .val (.int (1 : Int32)), .val (.ref x2), .val (.int (0 : Int32)), .val (.int (0 : Int32)), .unset, .unset, .unset, .unset, .unset] [] := by first | (simp [entryFrame, mkF, argsToLocals, Value.category]; done) | rfl
set_option maxRecDepth 65536 in
set_option maxHeartbeats 40000000 in
theorem rm_ini_0 (l : Launch) (Z : State) (a0 : Array Value) (hw : ∀ d ∈ tables_1, d.before a0 Z = true) (ws : List Jvm.Cond) (a1 : Addr) (d : Addr) (h0 : Heap) (n0 : Nat) (Z0 : n0 ≤ h0.size) (E_a : Exa Z h0 a1 "com/example/cubelet/cubelet/CellStore$Step") (F_takesValues : Fld Z h0 a1 "com/example/cubelet/cubelet/CellStore$Step" "takesValues" "Z" (.int (0 : Int32))) (F_takesAll : Fld Z h0 a1 "com/example/cubelet/cubelet/CellStore$Step" "takesAll" "Z" (.int (0 : Int32))) (F_apart : Fld Z h0 a1 "com/example/cubelet/cubelet/CellStore$Step" "apart" "Z" (.int (0 : Int32))) (F_codes : Fld Z h0 a1 "com/example/cubelet/cubelet/CellStore$Step" "codes" "[I" .null) (F_bits : Fld Z h0 a1 "com/example/cubelet/cubelet/CellStore$Step" "bits" "[J" .null) (gn_a : n0 ≤ a1) (kd : ClassId)  (A_d : Arv Z h0 d kd .int (0 : Int32) [] (.int (0 : Int32)))  (nad : a1 ≠ d) :
    MetFree l (⟨"com/example/cubelet/cubelet/CellStore$Step", "<init>", "(Z[IZZ)V"⟩ : MethodName) (head1 (Jvm.Cond.code (⟨"com/example/cubelet/cubelet/CellStore$Step", "<init>", "(Z[IZZ)V"⟩ : MethodName) prog_13_method_1_code 10 none :: ws) ({ frames := 1, cells := 0, slots := 0, locals := 12 } : Room)) (fun aQ UQ => aQ = #[(.ref a1), (.int (1 : Int32)), (.ref d), (.int (0 : Int32)), (.int (0 : Int32))] ∧ Z.Warmed39 UQ.vm ∧ UQ.heap = h0) (fun _ _ _ _ _ => True) (fun _ UQ oQ UR => ∃ vQ LQ, oQ = .returned vQ ∧ own_Init Z a1 (.ref d) (fun h => Fld Z h a1 "com/example/cubelet/cubelet/CellStore$Step" "bits" "[J" .null) h0 n0 vQ UR.heap LQ ∧ FrameEnd UQ oQ UR LQ ({ frames := 1, cells := 0, slots := 0, locals := 12 } : Room).cells ({ frames := 1, cells := 0, slots := 0, locals := 12 } : Room).slots) := by
  refine MetFree.of_bodySF (plainFor_of_name pn_72) hisR ?_
  intro p e s m args below meth c s₁ Bd hml0 hP hK
  obtain ⟨rfl, hZ, hh⟩ := hP
  have hx := Bd.exec
  have hby := Bd.bytes
  have hml : c.maxLocals = 10 := hml0
  have hown : s.vm.findClass "com/example/cubelet/cubelet/CellStore$Step" = some m.cls := findClass_of_methodNamed Bd.named
  have hnm := (name_of_methodNamed Bd.named Bd.method).1
  have X0 : Stand p l e ({ frames := 1, cells := 0, slots := 0, locals := 12 } : Room) s m #[(.ref a1), (.int (1 : Int32)), (.ref d), (.int (0 : Int32)), (.int (0 : Int32))] below meth c s₁ [] 0 0 := Stand.of_body Bd
  have e0 : s₁.heap = h0 := by rw [← hh, Bd.state]; rfl
  have N0 := Fr.nil n0
  have pre0 : ∀ t, Steps p.tables e below (s₁.setTop (mkF m 0 #[.val (.ref a1), .val (.int (1 : Int32)), .val (.ref d), .val (.int (0 : Int32)), .val (.int (0 : Int32)), .unset, .unset, .unset, .unset, .unset] [])) t → Steps p.tables e below (s₁.setTop (entryFrame m #[(.ref a1), (.int (1 : Int32)), (.ref d), (.int (0 : Int32)), (.int (0 : Int32))] 10)) t := fun t kq => castTop (ef_rm_ini_0 m a1 d) kq
  obtain ⟨T136, X136, e136, st136⟩ := initO X0 hx hZ hown (own_q hw 15 rfl) (own_q hw 16 rfl) (own_q hw 17 rfl) e0 (g := (mkF m 1 #[.val (.ref a1), .val (.int (1 : Int32)), .val (.ref d), .val (.int (0 : Int32)), .val (.int (0 : Int32)), .unset, .unset, .unset, .unset, .unset] [(.ref a1)])) rfl (by rw [hml]; rfl) rfl (hb hby d3_1) (by decide) (W := 0) (by show 2 * 0 + _ ≤ _; exact Nat.le_of_eq rfl) (by decide)
  obtain ⟨T137, h137, X137, e137, W137, st137⟩ := putFN X136 hx hZ hown (own_q hw 18 rfl) Via.refl e136 F_takesValues E_a (Or.inr ⟨(own_q hw 19 rfl), rfl, hnm⟩) (own_q hw 11 rfl) (ty := .boolean) (v' := (.int (1 : Int32))) (by decide) rfl rfl (g := (mkF m 6 #[.val (.ref a1), .val (.int (1 : Int32)), .val (.ref d), .val (.int (0 : Int32)), .val (.int (0 : Int32)), .unset, .unset, .unset, .unset, .unset] [(.int (1 : Int32)), (.ref a1)])) rfl rfl (hb hby d3_6)
  have KP137 := Keep.wr (Keep.refl h0 [a1]) W137 (Or.inl (List.mem_of_getElem? (i := 0) rfl))
  have Fw137 := F_takesValues.same W137
  have N137 := Fr.snoc X137 N0 gn_a
  have Fx138 := (E_a.wr W137)
  have Fx139 := (F_codes.other W137 (Or.inr (slot_ne (Or.inr (own_q hw 21 rfl)) (Or.inr (own_q hw 19 rfl)) (by decide) (t := (.array .int)) (t' := .boolean) (by decide) (by decide))))
  obtain ⟨T140, h140, X140, e140, W140, st140⟩ := putF X137 hx hZ hown (host := "") (Or.inl (own_q hw 20 rfl)) Via.refl e137 Fx139 Fx138 (Or.inr ⟨(own_q hw 21 rfl), rfl, hnm⟩) (own_q hw 11 rfl) (ty := (.array .int)) (by decide) rfl rfl (g := (mkF m 11 #[.val (.ref a1), .val (.int (1 : Int32)), .val (.ref d), .val (.int (0 : Int32)), .val (.int (0 : Int32)), .unset, .unset, .unset, .unset, .unset] [(.ref d), (.ref a1)])) rfl rfl (hb hby d3_11)
  have KP140 := Keep.wr KP137 W140 (Or.inl (List.mem_of_getElem? (i := 0) rfl))
  have Fw140 := Fx139.same W140
  have N140 := Fr.snoc X140 N137 gn_a
  have Fx141 := (Fx138.wr W140)
  have Fx142 := ((F_takesAll.other W137 (Or.inr (slot_ne (Or.inr (own_q hw 23 rfl)) (Or.inr (own_q hw 19 rfl)) (by decide) (t := .boolean) (t' := .boolean) (by decide) (by decide)))).other W140 (Or.inr (slot_ne (Or.inr (own_q hw 23 rfl)) (Or.inr (own_q hw 21 rfl)) (by decide) (t := .boolean) (t' := (.array .int)) (by decide) (by decide))))
  obtain ⟨T143, h143, X143, e143, W143, st143⟩ := putFN X140 hx hZ hown (own_q hw 22 rfl) Via.refl e140 Fx142 Fx141 (Or.inr ⟨(own_q hw 23 rfl), rfl, hnm⟩) (own_q hw 11 rfl) (ty := .boolean) (v' := (.int (0 : Int32))) (by decide) rfl rfl (g := (mkF m 16 #[.val (.ref a1), .val (.int (1 : Int32)), .val (.ref d), .val (.int (0 : Int32)), .val (.int (0 : Int32)), .unset, .unset, .unset, .unset, .unset] [(.int (0 : Int32)), (.ref a1)])) rfl rfl (hb hby d3_16)
  have KP143 := Keep.wr KP140 W143 (Or.inl (List.mem_of_getElem? (i := 0) rfl))
  have Fw143 := Fx142.same W143
  have N143 := Fr.snoc X143 N140 gn_a
  have Fx144 := (Fx141.wr W143)
  have Fx145 := (((F_apart.other W137 (Or.inr (slot_ne (Or.inr (own_q hw 25 rfl)) (Or.inr (own_q hw 19 rfl)) (by decide) (t := .boolean) (t' := .boolean) (by decide) (by decide)))).other W140 (Or.inr (slot_ne (Or.inr (own_q hw 25 rfl)) (Or.inr (own_q hw 21 rfl)) (by decide) (t := .boolean) (t' := (.array .int)) (by decide) (by decide)))).other W143 (Or.inr (slot_ne (Or.inr (own_q hw 25 rfl)) (Or.inr (own_q hw 23 rfl)) (by decide) (t := .boolean) (t' := .boolean) (by decide) (by decide))))
  obtain ⟨T146, h146, X146, e146, W146, st146⟩ := putFN X143 hx hZ hown (own_q hw 24 rfl) Via.refl e143 Fx145 Fx144 (Or.inr ⟨(own_q hw 25 rfl), rfl, hnm⟩) (own_q hw 11 rfl) (ty := .boolean) (v' := (.int (0 : Int32))) (by decide) rfl rfl (g := (mkF m 22 #[.val (.ref a1), .val (.int (1 : Int32)), .val (.ref d), .val (.int (0 : Int32)), .val (.int (0 : Int32)), .unset, .unset, .unset, .unset, .unset] [(.int (0 : Int32)), (.ref a1)])) rfl rfl (hb hby d3_22)
  have KP146 := Keep.wr KP143 W146 (Or.inl (List.mem_of_getElem? (i := 0) rfl))
  have Fw146 := Fx145.same W146
  have N146 := Fr.snoc X146 N143 gn_a
  have Fx147 := ((((A_d.other W137 (Ne.symm nad)).other W140 (Ne.symm nad)).other W143 (Ne.symm nad)).other W146 (Ne.symm nad))
  have Vc148 := Fx147
  obtain ⟨cl148, Ar148, q148, S148, N148_, H148_, G148⟩ := Vc148
  have Vc149 := Fx147
  obtain ⟨cl149, Ar149, q149, S149, N149_, H149_, G149⟩ := Vc149
  have Fx150 := (Fx144.wr W146)
  have Fx151 := ((((F_bits.other W137 (Or.inr (slot_ne (Or.inr (own_q hw 28 rfl)) (Or.inr (own_q hw 19 rfl)) (by decide) (t := (.array .long)) (t' := .boolean) (by decide) (by decide)))).other W140 (Or.inr (slot_ne (Or.inr (own_q hw 28 rfl)) (Or.inr (own_q hw 21 rfl)) (by decide) (t := (.array .long)) (t' := (.array .int)) (by decide) (by decide)))).other W143 (Or.inr (slot_ne (Or.inr (own_q hw 28 rfl)) (Or.inr (own_q hw 23 rfl)) (by decide) (t := (.array .long)) (t' := .boolean) (by decide) (by decide)))).other W146 (Or.inr (slot_ne (Or.inr (own_q hw 28 rfl)) (Or.inr (own_q hw 25 rfl)) (by decide) (t := (.array .long)) (t' := .boolean) (by decide) (by decide))))
  obtain ⟨T152, h152, X152, e152, W152, st152⟩ := putF X146 hx hZ hown (host := "") (Or.inl (own_q hw 27 rfl)) Via.refl e146 Fx151 Fx150 (Or.inr ⟨(own_q hw 28 rfl), rfl, hnm⟩) (own_q hw 11 rfl) (ty := (.array .long)) (by decide) rfl rfl (g := (mkF m 135 #[.val (.ref a1), .val (.int (1 : Int32)), .val (.ref d), .val (.int (0 : Int32)), .val (.int (0 : Int32)), .val (.int (0 : Int32)), .unset, .unset, .unset, .unset] [.null, (.ref a1)])) rfl rfl (hb hby d3_135)
  have KP152 := Keep.wr KP146 W152 (Or.inl (List.mem_of_getElem? (i := 0) rfl))
  have Fw152 := Fx151.same W152
  have N152 := Fr.snoc X152 N146 gn_a
  have Fx153 := (Fx150.wr W152)
  have Fx154 := (((Fw140.other W143 (Or.inr (slot_ne (Or.inr (own_q hw 21 rfl)) (Or.inr (own_q hw 23 rfl)) (by decide) (t := (.array .int)) (t' := .boolean) (by decide) (by decide)))).other W146 (Or.inr (slot_ne (Or.inr (own_q hw 21 rfl)) (Or.inr (own_q hw 25 rfl)) (by decide) (t := (.array .int)) (t' := .boolean) (by decide) (by decide)))).other W152 (Or.inr (slot_ne (Or.inr (own_q hw 21 rfl)) (Or.inr (own_q hw 28 rfl)) (by decide) (t := (.array .int)) (t' := (.array .long)) (by decide) (by decide))))
  obtain ⟨fs, hr, hrun, hended, hW, hsame⟩ := X152.leave (v := none) (fun _ => rfl)
  refine ⟨_, _, pre0 _ ?_, hrun, hended, _, _, rfl, ?_, ⟨_, rfl⟩, hW, hsame.mono (by decide) (by decide)⟩
  · refine XS.aloadN X0.here hx rfl (hb hby d3_0) rfl rfl ?_
    refine st136 _ ?_
    show Steps p.tables e below (T136.setTop (mkF m 4 #[.val (.ref a1), .val (.int (1 : Int32)), .val (.ref d), .val (.int (0 : Int32)), .val (.int (0 : Int32)), .unset, .unset, .unset, .unset, .unset] [])) _
    refine XS.aloadN X136.here hx rfl (hb hby d3_4) rfl rfl ?_
    refine XS.iloadN X136.here hx rfl (hb hby d3_5) rfl ?_
    refine st137 _ ?_
    show Steps p.tables e below (T137.setTop (mkF m 9 #[.val (.ref a1), .val (.int (1 : Int32)), .val (.ref d), .val (.int (0 : Int32)), .val (.int (0 : Int32)), .unset, .unset, .unset, .unset, .unset] [])) _
    refine XS.aloadN X137.here hx rfl (hb hby d3_9) rfl rfl ?_
    refine XS.aloadN X137.here hx rfl (hb hby d3_10) rfl rfl ?_
    refine st140 _ ?_
    show Steps p.tables e below (T140.setTop (mkF m 14 #[.val (.ref a1), .val (.int (1 : Int32)), .val (.ref d), .val (.int (0 : Int32)), .val (.int (0 : Int32)), .unset, .unset, .unset, .unset, .unset] [])) _
    refine XS.aloadN X140.here hx rfl (hb hby d3_14) rfl rfl ?_
    refine XS.iloadN X140.here hx rfl (hb hby d3_15) rfl ?_
    refine st143 _ ?_
    show Steps p.tables e below (T143.setTop (mkF m 19 #[.val (.ref a1), .val (.int (1 : Int32)), .val (.ref d), .val (.int (0 : Int32)), .val (.int (0 : Int32)), .unset, .unset, .unset, .unset, .unset] [])) _
    refine XS.aloadN X143.here hx rfl (hb hby d3_19) rfl rfl ?_
    refine XS.iload X143.here hx rfl (hb hby d3_20) rfl ?_
    refine st146 _ ?_
    show Steps p.tables e below (T146.setTop (mkF m 25 #[.val (.ref a1), .val (.int (1 : Int32)), .val (.ref d), .val (.int (0 : Int32)), .val (.int (0 : Int32)), .unset, .unset, .unset, .unset, .unset] [])) _
    refine XS.aloadN X146.here hx rfl (hb hby d3_25) rfl rfl ?_
    refine XS.ifnullNo X146.here hx rfl (hb hby d3_26) rfl ?_
    refine XS.aloadN X146.here hx rfl (hb hby d3_29) rfl rfl ?_
    refine X146.arraylength hx (by rw [e146]; exact Ar148.1) (State.isArrayOf_alike hZ.alike Ar148.2.1) (g := (mkF m 30 #[.val (.ref a1), .val (.int (1 : Int32)), .val (.ref d), .val (.int (0 : Int32)), .val (.int (0 : Int32)), .unset, .unset, .unset, .unset, .unset] [(.ref d)])) rfl rfl (hb hby d3_30) _ ?_
    rw [len_of S148 N148_]
    show Steps p.tables e below (T146.setTop (mkF m 31 #[.val (.ref a1), .val (.int (1 : Int32)), .val (.ref d), .val (.int (0 : Int32)), .val (.int (0 : Int32)), .unset, .unset, .unset, .unset, .unset] [(.int (0 : Int32))])) _
    refine XS.ifNo X146.here hx rfl (hb hby d3_31) rfl ((if0 _ _).trans (teq (by decide : (0 : Int32) = (0 : Int32))).2) ?_
    refine XS.iconst X146.here hx rfl (hb hby d3_34) ?_
    refine XS.goto X146.here hx rfl (pc0 := 35) (pc' := 44) rfl (hb hby d3_35) (by decide) (by decide) ?_
    refine XS.istore X146.here hx rfl (hb hby d3_44) rfl (l' := #[.val (.ref a1), .val (.int (1 : Int32)), .val (.ref d), .val (.int (0 : Int32)), .val (.int (0 : Int32)), .val (.int (0 : Int32)), .unset, .unset, .unset, .unset]) rfl ?_
    refine XS.aloadN X146.here hx rfl (hb hby d3_46) rfl rfl ?_
    refine XS.ifnullNo X146.here hx rfl (hb hby d3_47) rfl ?_
    refine XS.aloadN X146.here hx rfl (hb hby d3_50) rfl rfl ?_
    refine X146.arraylength hx (by rw [e146]; exact Ar149.1) (State.isArrayOf_alike hZ.alike Ar149.2.1) (g := (mkF m 51 #[.val (.ref a1), .val (.int (1 : Int32)), .val (.ref d), .val (.int (0 : Int32)), .val (.int (0 : Int32)), .val (.int (0 : Int32)), .unset, .unset, .unset, .unset] [(.ref d)])) rfl rfl (hb hby d3_51) _ ?_
    rw [len_of S149 N149_]
    show Steps p.tables e below (T146.setTop (mkF m 52 #[.val (.ref a1), .val (.int (1 : Int32)), .val (.ref d), .val (.int (0 : Int32)), .val (.int (0 : Int32)), .val (.int (0 : Int32)), .unset, .unset, .unset, .unset] [(.int (0 : Int32))])) _
    refine XS.iconst X146.here hx rfl (hb hby d3_52) ?_
    refine XS.icmpYes X146.here hx rfl (pc0 := 53) (pc' := 133) rfl (hb hby d3_53) rfl (flt (by decide : ¬ ((1 : Int32) < (0 : Int32)))).2.2.2 (by decide) (by decide) ?_
    refine XS.aloadN X146.here hx rfl (hb hby d3_133) rfl rfl ?_
    refine XS.aconstNull X146.here hx rfl (hb hby d3_134) ?_
    refine st152 _ ?_
    show Steps p.tables e below (T152.setTop (mkF m 138 #[.val (.ref a1), .val (.int (1 : Int32)), .val (.ref d), .val (.int (0 : Int32)), .val (.int (0 : Int32)), .val (.int (0 : Int32)), .unset, .unset, .unset, .unset] [])) _
    exact X152.returnOut hx Bd.returns (hb hby d3_138) hr
  · show own_Init Z a1 (.ref d) (fun h => Fld Z h a1 "com/example/cubelet/cubelet/CellStore$Step" "bits" "[J" .null) h0 n0 _ T152.heap _
    rw [e152]
    exact ⟨rfl, N152, KP152, Fx153, Fx154, Fw152⟩
theorem ef_rm_tog_0 (m : MethodId) (x0 : Addr) : entryFrame m #[(.ref x0)] 1 = mkF m 0 #[.val (.ref x0)] [] := by first | (simp [entryFrame, mkF, argsToLocals, Value.category]; done) | rfl
set_option maxRecDepth 65536 in
set_option maxHeartbeats 40000000 in
theorem rm_tog_0 (l : Launch) (Z : State) (a0 : Array Value) (hw : ∀ d ∈ tables_1, d.before a0 Z = true) (ws : List Jvm.Cond) (d : Addr) (h0 : Heap) (n0 : Nat) (Z0 : n0 ≤ h0.size) (kd : ClassId)  (A_d : Arv Z h0 d kd .int (0 : Int32) [] (.int (0 : Int32)))  :
    MetFree l (⟨"com/example/cubelet/cubelet/CellStore$Step", "together", "([I)Lcom/example/cubelet/cubelet/CellStore$Step;"⟩ : MethodName) (head1 (Jvm.Cond.code (⟨"com/example/cubelet/cubelet/CellStore$Step", "together", "([I)Lcom/example/cubelet/cubelet/CellStore$Step;"⟩ : MethodName) prog_13_method_3_code 1 (some (.object "com/example/cubelet/cubelet/CellStore$Step")) :: ws) ({ frames := 2, cells := 1, slots := 5, locals := 34 } : Room)) (fun aQ UQ => aQ = #[(.ref d)] ∧ Z.Warmed39 UQ.vm ∧ UQ.heap = h0) (fun _ _ _ _ _ => True) (fun _ UQ oQ UR => ∃ vQ LQ, oQ = .returned vQ ∧ own_Tog Z (.ref d) (fun a => (fun h => Fld Z h a "com/example/cubelet/cubelet/CellStore$Step" "bits" "[J" .null)) h0 n0 vQ UR.heap LQ ∧ FrameEnd UQ oQ UR LQ ({ frames := 2, cells := 1, slots := 5, locals := 34 } : Room).cells ({ frames := 2, cells := 1, slots := 5, locals := 34 } : Room).slots) := by
  refine MetFree.of_bodySF (plainFor_of_name pn_72) hisR ?_
  intro p e s m args below meth c s₁ Bd hml0 hP hK
  obtain ⟨rfl, hZ, hh⟩ := hP
  have hx := Bd.exec
  have hby := Bd.bytes
  have hml : c.maxLocals = 1 := hml0
  have hown : s.vm.findClass "com/example/cubelet/cubelet/CellStore$Step" = some m.cls := findClass_of_methodNamed Bd.named
  have hnm := (name_of_methodNamed Bd.named Bd.method).1
  have X0 : Stand p l e ({ frames := 2, cells := 1, slots := 5, locals := 34 } : Room) s m #[(.ref d)] below meth c s₁ [] 0 0 := Stand.of_body Bd
  have e0 : s₁.heap = h0 := by rw [← hh, Bd.state]; rfl
  have N0 := Fr.nil n0
  have pre0 : ∀ t, Steps p.tables e below (s₁.setTop (mkF m 0 #[.val (.ref d)] [])) t → Steps p.tables e below (s₁.setTop (entryFrame m #[(.ref d)] 1)) t := fun t kq => castTop (ef_rm_tog_0 m d) kq
  obtain ⟨T155, h155, X155, e155, E155, A155, D155, -, st155⟩ := newO X0 hx hZ hown (own_q hw 10 rfl) (own_q hw 11 rfl) (own_q hw 8 rfl) e0 (g := (mkF m 0 #[.val (.ref d)] [])) rfl (hb hby d2_0) (by decide) (by decide)
  obtain ⟨b155, g155⟩ : ∃ z, z = h0.size := ⟨_, rfl⟩
  rw [← g155] at A155 D155 st155
  have sz_b155 : h0.size ≤ b155 := Nat.le_trans (Keep.refl h0 []).1 (Nat.le_of_eq g155.symm)
  have gn_b155 : n0 ≤ b155 := Nat.le_trans Z0 sz_b155
  have ne_d_b155 : d ≠ b155 := Nat.ne_of_lt (Nat.lt_of_lt_of_le A_d.lt (Nat.le_of_eq g155.symm))
  have EX155 := own_ext_trans (own_ext_refl h0) E155
  have KP155 := Keep.ext (Keep.refl h0 []) E155
  have F155_takesValues : Fld Z h155 b155 "com/example/cubelet/cubelet/CellStore$Step" "takesValues" "Z" (.int (0 : Int32)) := D155 (Or.inr (own_q hw 19 rfl)) (ty := .boolean) (by decide)
  have F155_codes : Fld Z h155 b155 "com/example/cubelet/cubelet/CellStore$Step" "codes" "[I" .null := D155 (Or.inr (own_q hw 21 rfl)) (ty := (.array .int)) (by decide)
  have F155_takesAll : Fld Z h155 b155 "com/example/cubelet/cubelet/CellStore$Step" "takesAll" "Z" (.int (0 : Int32)) := D155 (Or.inr (own_q hw 23 rfl)) (ty := .boolean) (by decide)
  have F155_apart : Fld Z h155 b155 "com/example/cubelet/cubelet/CellStore$Step" "apart" "Z" (.int (0 : Int32)) := D155 (Or.inr (own_q hw 25 rfl)) (ty := .boolean) (by decide)
  have F155_bits : Fld Z h155 b155 "com/example/cubelet/cubelet/CellStore$Step" "bits" "[J" .null := D155 (Or.inr (own_q hw 28 rfl)) (ty := (.array .long)) (by decide)
  have Fx156 := (A_d.ext E155)
  obtain ⟨_, _, ⟨T157, L157, k157, n157⟩, -, X157, ⟨Lc157, hQ157, l157, y157, z157⟩, st157⟩ := X155.specialBack hx (y := (⟨"com/example/cubelet/cubelet/CellStore$Step", "<init>", "(Z[IZZ)V"⟩ : MethodName)) rfl hown (mvT hZ (own_q hw 12 rfl)) (mvT hZ (own_q hw 13 rfl)) (mvT hZ (own_q hw 14 rfl)) (by decide) (backOf (W := 1) (rm_ini_0 l Z a0 hw [] b155 d h155 n0 (Nat.le_trans Z0 EX155.1) A155 F155_takesValues F155_takesAll F155_apart F155_codes F155_bits gn_b155 kd Fx156 (Ne.symm ne_d_b155)) hZ (own_q hw 14 rfl) (own_q hw 8 rfl) (by decide) (by decide)) (g := (mkF m 8 #[.val (.ref d)] [(.int (0 : Int32)), (.int (0 : Int32)), (.ref d), (.int (1 : Int32)), (.ref b155), (.ref b155)])) rfl (by rw [hml]; rfl) (Steps.refl _) (a := b155) (argsL := [(.int (1 : Int32)), (.ref d), (.int (0 : Int32)), (.int (0 : Int32))]) (rest := [(.ref b155)]) (lenOf pd_156 rfl) rfl (by show 2 * 0 + _ ≤ _; exact Nat.le_of_eq rfl) (hb hby d2_8) (fun _ _ => ⟨rfl, e155, (by decide : 1 + 0 ≤ _), (by decide : 5 + 0 ≤ _)⟩)
  dsimp only [Pt.U, Pt.locs, Pt.cells, Pt.slots] at X157 l157 y157 z157 st157 hQ157
  subst l157 y157 z157
  obtain ⟨rfl, N157q, K157, E157, Fc157, hB157⟩ := hQ157
  have N157 := Fr.app N0 N157q
  have e157 : T157.heap = T157.heap := rfl
  have EX157 := own_ext_keep EX155 K157 (allS sz_b155 all0)
  have KP157 := Keep.trans KP155 K157 (allS (Or.inr sz_b155) all0)
  obtain ⟨fs, hr, hrun, hended, hW, hsame⟩ := X157.leave (v := some (.ref b155)) (fun h => by rw [Bd.returns] at h; cases h)
  refine ⟨_, _, pre0 _ ?_, hrun, hended, _, _, rfl, ?_, ⟨_, rfl⟩, hW, hsame.mono (by decide) (by decide)⟩
  · refine st155 _ ?_
    show Steps p.tables e below (T155.setTop (mkF m 3 #[.val (.ref d)] [(.ref b155)])) _
    refine XS.dup X155.here hx rfl (hb hby d2_3) rfl rfl ?_
    refine XS.iconst X155.here hx rfl (hb hby d2_4) ?_
    refine XS.aloadN X155.here hx rfl (hb hby d2_5) rfl rfl ?_
    refine XS.iconst X155.here hx rfl (hb hby d2_6) ?_
    refine XS.iconst X155.here hx rfl (hb hby d2_7) ?_
    refine st157.trans ?_
    show Steps p.tables e below (T157.setTop (mkF m 11 #[.val (.ref d)] [(.ref b155)])) _
    exact retOut X157 hx Bd.returns rfl (Or.inr (Or.inr (Or.inr (Or.inr ⟨rfl, rfl, rfl⟩)))) (hb hby d2_11) hr
  · show own_Tog Z (.ref d) (fun a => (fun h => Fld Z h a "com/example/cubelet/cubelet/CellStore$Step" "bits" "[J" .null)) h0 n0 _ T157.heap _
    exact ⟨b155, rfl, N157, EX157, E157, Fc157, hB157⟩
theorem d3_38 : decode prog_13_method_1_code 38 = .ok (.aload_n 2, 1) := by decide +kernel
theorem d3_39 : decode prog_13_method_1_code 39 = .ok (.aload_n 2, 1) := by decide +kernel
theorem d3_40 : decode prog_13_method_1_code 40 = .ok (.arraylength, 1) := by decide +kernel
theorem d3_41 : decode prog_13_method_1_code 41 = .ok (.iconst 1, 1) := by decide +kernel
theorem d3_42 : decode prog_13_method_1_code 42 = .ok (.isub, 1) := by decide +kernel
theorem d3_43 : decode prog_13_method_1_code 43 = .ok (.iaload, 1) := by decide +kernel
theorem ef_rm_ini_1 (m : MethodId) (x0 : Addr) (x2 : Addr) : entryFrame m #[(.ref x0), (.int (1 : Int32)), (.ref x2), (.int (0 : Int32)), (.int (0 : Int32))] 10 = mkF m 0 #[.val (.ref x0), .val (.int (1 : Int32)), .val (.ref x2), .val (.int (0 : Int32)), .val (.int (0 : Int32)), .unset, .unset, .unset, .unset, .unset] [] := by first | (simp [entryFrame, mkF, argsToLocals, Value.category]; done) | rfl
set_option maxRecDepth 65536 in
set_option maxHeartbeats 40000000 in
theorem rm_ini_1 (l : Launch) (Z : State) (a0 : Array Value) (hw : ∀ d ∈ tables_1, d.before a0 Z = true) (ws : List Jvm.Cond) (a1 : Addr) (d : Addr) (h0 : Heap) (n0 : Nat) (Z0 : n0 ≤ h0.size) (E_a : Exa Z h0 a1 "com/example/cubelet/cubelet/CellStore$Step") (F_takesValues : Fld Z h0 a1 "com/example/cubelet/cubelet/CellStore$Step" "takesValues" "Z" (.int (0 : Int32))) (F_takesAll : Fld Z h0 a1 "com/example/cubelet/cubelet/CellStore$Step" "takesAll" "Z" (.int (0 : Int32))) (F_apart : Fld Z h0 a1 "com/example/cubelet/cubelet/CellStore$Step" "apart" "Z" (.int (0 : Int32))) (F_codes : Fld Z h0 a1 "com/example/cubelet/cubelet/CellStore$Step" "codes" "[I" .null) (F_bits : Fld Z h0 a1 "com/example/cubelet/cubelet/CellStore$Step" "bits" "[J" .null) (gn_a : n0 ≤ a1) (kd : ClassId) (c0 : Int32) (A_d : Arv Z h0 d kd .int (1 : Int32) [(.int c0)] (.int (0 : Int32))) (hs : 0 ≤ c0.toInt) (nad : a1 ≠ d) :
    MetFree l (⟨"com/example/cubelet/cubelet/CellStore$Step", "<init>", "(Z[IZZ)V"⟩ : MethodName) (head1 (Jvm.Cond.code (⟨"com/example/cubelet/cubelet/CellStore$Step", "<init>", "(Z[IZZ)V"⟩ : MethodName) prog_13_method_1_code 10 none :: ws) ({ frames := 1, cells := 0, slots := 0, locals := 12 } : Room)) (fun aQ UQ => aQ = #[(.ref a1), (.int (1 : Int32)), (.ref d), (.int (0 : Int32)), (.int (0 : Int32))] ∧ Z.Warmed39 UQ.vm ∧ UQ.heap = h0) (fun _ _ _ _ _ => True) (fun _ UQ oQ UR => ∃ vQ LQ, oQ = .returned vQ ∧ own_Init Z a1 (.ref d) (fun h => Fld Z h a1 "com/example/cubelet/cubelet/CellStore$Step" "bits" "[J" .null) h0 n0 vQ UR.heap LQ ∧ FrameEnd UQ oQ UR LQ ({ frames := 1, cells := 0, slots := 0, locals := 12 } : Room).cells ({ frames := 1, cells := 0, slots := 0, locals := 12 } : Room).slots) := by
  refine MetFree.of_bodySF (plainFor_of_name pn_72) hisR ?_
  intro p e s m args below meth c s₁ Bd hml0 hP hK
  obtain ⟨rfl, hZ, hh⟩ := hP
  have hx := Bd.exec
  have hby := Bd.bytes
  have hml : c.maxLocals = 10 := hml0
  have hown : s.vm.findClass "com/example/cubelet/cubelet/CellStore$Step" = some m.cls := findClass_of_methodNamed Bd.named
  have hnm := (name_of_methodNamed Bd.named Bd.method).1
  have X0 : Stand p l e ({ frames := 1, cells := 0, slots := 0, locals := 12 } : Room) s m #[(.ref a1), (.int (1 : Int32)), (.ref d), (.int (0 : Int32)), (.int (0 : Int32))] below meth c s₁ [] 0 0 := Stand.of_body Bd
  have e0 : s₁.heap = h0 := by rw [← hh, Bd.state]; rfl
  have N0 := Fr.nil n0
  have pre0 : ∀ t, Steps p.tables e below (s₁.setTop (mkF m 0 #[.val (.ref a1), .val (.int (1 : Int32)), .val (.ref d), .val (.int (0 : Int32)), .val (.int (0 : Int32)), .unset, .unset, .unset, .unset, .unset] [])) t → Steps p.tables e below (s₁.setTop (entryFrame m #[(.ref a1), (.int (1 : Int32)), (.ref d), (.int (0 : Int32)), (.int (0 : Int32))] 10)) t := fun t kq => castTop (ef_rm_ini_1 m a1 d) kq
  obtain ⟨T158, X158, e158, st158⟩ := initO X0 hx hZ hown (own_q hw 15 rfl) (own_q hw 16 rfl) (own_q hw 17 rfl) e0 (g := (mkF m 1 #[.val (.ref a1), .val (.int (1 : Int32)), .val (.ref d), .val (.int (0 : Int32)), .val (.int (0 : Int32)), .unset, .unset, .unset, .unset, .unset] [(.ref a1)])) rfl (by rw [hml]; rfl) rfl (hb hby d3_1) (by decide) (W := 0) (by show 2 * 0 + _ ≤ _; exact Nat.le_of_eq rfl) (by decide)
  obtain ⟨T159, h159, X159, e159, W159, st159⟩ := putFN X158 hx hZ hown (own_q hw 18 rfl) Via.refl e158 F_takesValues E_a (Or.inr ⟨(own_q hw 19 rfl), rfl, hnm⟩) (own_q hw 11 rfl) (ty := .boolean) (v' := (.int (1 : Int32))) (by decide) rfl rfl (g := (mkF m 6 #[.val (.ref a1), .val (.int (1 : Int32)), .val (.ref d), .val (.int (0 : Int32)), .val (.int (0 : Int32)), .unset, .unset, .unset, .unset, .unset] [(.int (1 : Int32)), (.ref a1)])) rfl rfl (hb hby d3_6)
  have KP159 := Keep.wr (Keep.refl h0 [a1]) W159 (Or.inl (List.mem_of_getElem? (i := 0) rfl))
  have Fw159 := F_takesValues.same W159
  have N159 := Fr.snoc X159 N0 gn_a
  have Fx160 := (E_a.wr W159)
  have Fx161 := (F_codes.other W159 (Or.inr (slot_ne (Or.inr (own_q hw 21 rfl)) (Or.inr (own_q hw 19 rfl)) (by decide) (t := (.array .int)) (t' := .boolean) (by decide) (by decide))))
  obtain ⟨T162, h162, X162, e162, W162, st162⟩ := putF X159 hx hZ hown (host := "") (Or.inl (own_q hw 20 rfl)) Via.refl e159 Fx161 Fx160 (Or.inr ⟨(own_q hw 21 rfl), rfl, hnm⟩) (own_q hw 11 rfl) (ty := (.array .int)) (by decide) rfl rfl (g := (mkF m 11 #[.val (.ref a1), .val (.int (1 : Int32)), .val (.ref d), .val (.int (0 : Int32)), .val (.int (0 : Int32)), .unset, .unset, .unset, .unset, .unset] [(.ref d), (.ref a1)])) rfl rfl (hb hby d3_11)
  have KP162 := Keep.wr KP159 W162 (Or.inl (List.mem_of_getElem? (i := 0) rfl))
  have Fw162 := Fx161.same W162
  have N162 := Fr.snoc X162 N159 gn_a
  have Fx163 := (Fx160.wr W162)
  have Fx164 := ((F_takesAll.other W159 (Or.inr (slot_ne (Or.inr (own_q hw 23 rfl)) (Or.inr (own_q hw 19 rfl)) (by decide) (t := .boolean) (t' := .boolean) (by decide) (by decide)))).other W162 (Or.inr (slot_ne (Or.inr (own_q hw 23 rfl)) (Or.inr (own_q hw 21 rfl)) (by decide) (t := .boolean) (t' := (.array .int)) (by decide) (by decide))))
  obtain ⟨T165, h165, X165, e165, W165, st165⟩ := putFN X162 hx hZ hown (own_q hw 22 rfl) Via.refl e162 Fx164 Fx163 (Or.inr ⟨(own_q hw 23 rfl), rfl, hnm⟩) (own_q hw 11 rfl) (ty := .boolean) (v' := (.int (0 : Int32))) (by decide) rfl rfl (g := (mkF m 16 #[.val (.ref a1), .val (.int (1 : Int32)), .val (.ref d), .val (.int (0 : Int32)), .val (.int (0 : Int32)), .unset, .unset, .unset, .unset, .unset] [(.int (0 : Int32)), (.ref a1)])) rfl rfl (hb hby d3_16)
  have KP165 := Keep.wr KP162 W165 (Or.inl (List.mem_of_getElem? (i := 0) rfl))
  have Fw165 := Fx164.same W165
  have N165 := Fr.snoc X165 N162 gn_a
  have Fx166 := (Fx163.wr W165)
  have Fx167 := (((F_apart.other W159 (Or.inr (slot_ne (Or.inr (own_q hw 25 rfl)) (Or.inr (own_q hw 19 rfl)) (by decide) (t := .boolean) (t' := .boolean) (by decide) (by decide)))).other W162 (Or.inr (slot_ne (Or.inr (own_q hw 25 rfl)) (Or.inr (own_q hw 21 rfl)) (by decide) (t := .boolean) (t' := (.array .int)) (by decide) (by decide)))).other W165 (Or.inr (slot_ne (Or.inr (own_q hw 25 rfl)) (Or.inr (own_q hw 23 rfl)) (by decide) (t := .boolean) (t' := .boolean) (by decide) (by decide))))
  obtain ⟨T168, h168, X168, e168, W168, st168⟩ := putFN X165 hx hZ hown (own_q hw 24 rfl) Via.refl e165 Fx167 Fx166 (Or.inr ⟨(own_q hw 25 rfl), rfl, hnm⟩) (own_q hw 11 rfl) (ty := .boolean) (v' := (.int (0 : Int32))) (by decide) rfl rfl (g := (mkF m 22 #[.val (.ref a1), .val (.int (1 : Int32)), .val (.ref d), .val (.int (0 : Int32)), .val (.int (0 : Int32)), .unset, .unset, .unset, .unset, .unset] [(.int (0 : Int32)), (.ref a1)])) rfl rfl (hb hby d3_22)
  have KP168 := Keep.wr KP165 W168 (Or.inl (List.mem_of_getElem? (i := 0) rfl))
  have Fw168 := Fx167.same W168
  have N168 := Fr.snoc X168 N165 gn_a
  have Fx169 := ((((A_d.other W159 (Ne.symm nad)).other W162 (Ne.symm nad)).other W165 (Ne.symm nad)).other W168 (Ne.symm nad))
  have Vc170 := Fx169
  obtain ⟨cl170, Ar170, q170, S170, N170_, H170_, G170⟩ := Vc170
  have Vc171 := Fx169
  obtain ⟨cl171, Ar171, q171, S171, N171_, H171_, G171⟩ := Vc171
  have Vc172 := Fx169
  obtain ⟨cl172, Ar172, q172, S172, N172_, H172_, G172⟩ := Vc172
  have hin172 : ¬ ((0 : Int32) < 0 ∨ cl172.slots.size ≤ ((0 : Int32)).toNatClampNeg) := inb_of S172 ⟨by decide, by decide⟩
  have hat172 : cl172.slots[((0 : Int32)).toNatClampNeg]? = some (.int c0) := Has.at H172_ hin172 rfl
  have Vc173 := Fx169
  obtain ⟨cl173, Ar173, q173, S173, N173_, H173_, G173⟩ := Vc173
  have Fx174 := (Fx166.wr W168)
  have Fx175 := ((((F_bits.other W159 (Or.inr (slot_ne (Or.inr (own_q hw 28 rfl)) (Or.inr (own_q hw 19 rfl)) (by decide) (t := (.array .long)) (t' := .boolean) (by decide) (by decide)))).other W162 (Or.inr (slot_ne (Or.inr (own_q hw 28 rfl)) (Or.inr (own_q hw 21 rfl)) (by decide) (t := (.array .long)) (t' := (.array .int)) (by decide) (by decide)))).other W165 (Or.inr (slot_ne (Or.inr (own_q hw 28 rfl)) (Or.inr (own_q hw 23 rfl)) (by decide) (t := (.array .long)) (t' := .boolean) (by decide) (by decide)))).other W168 (Or.inr (slot_ne (Or.inr (own_q hw 28 rfl)) (Or.inr (own_q hw 25 rfl)) (by decide) (t := (.array .long)) (t' := .boolean) (by decide) (by decide))))
  obtain ⟨T176, h176, X176, e176, W176, st176⟩ := putF X168 hx hZ hown (host := "") (Or.inl (own_q hw 27 rfl)) Via.refl e168 Fx175 Fx174 (Or.inr ⟨(own_q hw 28 rfl), rfl, hnm⟩) (own_q hw 11 rfl) (ty := (.array .long)) (by decide) rfl rfl (g := (mkF m 135 #[.val (.ref a1), .val (.int (1 : Int32)), .val (.ref d), .val (.int (0 : Int32)), .val (.int (0 : Int32)), .val (.int c0), .unset, .unset, .unset, .unset] [.null, (.ref a1)])) rfl rfl (hb hby d3_135)
  have KP176 := Keep.wr KP168 W176 (Or.inl (List.mem_of_getElem? (i := 0) rfl))
  have Fw176 := Fx175.same W176
  have N176 := Fr.snoc X176 N168 gn_a
  have Fx177 := (Fx174.wr W176)
  have Fx178 := (((Fw162.other W165 (Or.inr (slot_ne (Or.inr (own_q hw 21 rfl)) (Or.inr (own_q hw 23 rfl)) (by decide) (t := (.array .int)) (t' := .boolean) (by decide) (by decide)))).other W168 (Or.inr (slot_ne (Or.inr (own_q hw 21 rfl)) (Or.inr (own_q hw 25 rfl)) (by decide) (t := (.array .int)) (t' := .boolean) (by decide) (by decide)))).other W176 (Or.inr (slot_ne (Or.inr (own_q hw 21 rfl)) (Or.inr (own_q hw 28 rfl)) (by decide) (t := (.array .int)) (t' := (.array .long)) (by decide) (by decide))))
  obtain ⟨fs, hr, hrun, hended, hW, hsame⟩ := X176.leave (v := none) (fun _ => rfl)
  refine ⟨_, _, pre0 _ ?_, hrun, hended, _, _, rfl, ?_, ⟨_, rfl⟩, hW, hsame.mono (by decide) (by decide)⟩
  · refine XS.aloadN X0.here hx rfl (hb hby d3_0) rfl rfl ?_
    refine st158 _ ?_
    show Steps p.tables e below (T158.setTop (mkF m 4 #[.val (.ref a1), .val (.int (1 : Int32)), .val (.ref d), .val (.int (0 : Int32)), .val (.int (0 : Int32)), .unset, .unset, .unset, .unset, .unset] [])) _
    refine XS.aloadN X158.here hx rfl (hb hby d3_4) rfl rfl ?_
    refine XS.iloadN X158.here hx rfl (hb hby d3_5) rfl ?_
    refine st159 _ ?_
    show Steps p.tables e below (T159.setTop (mkF m 9 #[.val (.ref a1), .val (.int (1 : Int32)), .val (.ref d), .val (.int (0 : Int32)), .val (.int (0 : Int32)), .unset, .unset, .unset, .unset, .unset] [])) _
    refine XS.aloadN X159.here hx rfl (hb hby d3_9) rfl rfl ?_
    refine XS.aloadN X159.here hx rfl (hb hby d3_10) rfl rfl ?_
    refine st162 _ ?_
    show Steps p.tables e below (T162.setTop (mkF m 14 #[.val (.ref a1), .val (.int (1 : Int32)), .val (.ref d), .val (.int (0 : Int32)), .val (.int (0 : Int32)), .unset, .unset, .unset, .unset, .unset] [])) _
    refine XS.aloadN X162.here hx rfl (hb hby d3_14) rfl rfl ?_
    refine XS.iloadN X162.here hx rfl (hb hby d3_15) rfl ?_
    refine st165 _ ?_
    show Steps p.tables e below (T165.setTop (mkF m 19 #[.val (.ref a1), .val (.int (1 : Int32)), .val (.ref d), .val (.int (0 : Int32)), .val (.int (0 : Int32)), .unset, .unset, .unset, .unset, .unset] [])) _
    refine XS.aloadN X165.here hx rfl (hb hby d3_19) rfl rfl ?_
    refine XS.iload X165.here hx rfl (hb hby d3_20) rfl ?_
    refine st168 _ ?_
    show Steps p.tables e below (T168.setTop (mkF m 25 #[.val (.ref a1), .val (.int (1 : Int32)), .val (.ref d), .val (.int (0 : Int32)), .val (.int (0 : Int32)), .unset, .unset, .unset, .unset, .unset] [])) _
    refine XS.aloadN X168.here hx rfl (hb hby d3_25) rfl rfl ?_
    refine XS.ifnullNo X168.here hx rfl (hb hby d3_26) rfl ?_
    refine XS.aloadN X168.here hx rfl (hb hby d3_29) rfl rfl ?_
    refine X168.arraylength hx (by rw [e168]; exact Ar170.1) (State.isArrayOf_alike hZ.alike Ar170.2.1) (g := (mkF m 30 #[.val (.ref a1), .val (.int (1 : Int32)), .val (.ref d), .val (.int (0 : Int32)), .val (.int (0 : Int32)), .unset, .unset, .unset, .unset, .unset] [(.ref d)])) rfl rfl (hb hby d3_30) _ ?_
    rw [len_of S170 N170_]
    show Steps p.tables e below (T168.setTop (mkF m 31 #[.val (.ref a1), .val (.int (1 : Int32)), .val (.ref d), .val (.int (0 : Int32)), .val (.int (0 : Int32)), .unset, .unset, .unset, .unset, .unset] [(.int (1 : Int32))])) _
    refine XS.ifYes X168.here hx rfl (pc0 := 31) (pc' := 38) rfl (hb hby d3_31) rfl ((if0 _ _).trans (feq (by decide : ¬ ((1 : Int32) = (0 : Int32)))).2) (by decide) (by decide) ?_
    refine XS.aloadN X168.here hx rfl (hb hby d3_38) rfl rfl ?_
    refine XS.aloadN X168.here hx rfl (hb hby d3_39) rfl rfl ?_
    refine X168.arraylength hx (by rw [e168]; exact Ar171.1) (State.isArrayOf_alike hZ.alike Ar171.2.1) (g := (mkF m 40 #[.val (.ref a1), .val (.int (1 : Int32)), .val (.ref d), .val (.int (0 : Int32)), .val (.int (0 : Int32)), .unset, .unset, .unset, .unset, .unset] [(.ref d), (.ref d)])) rfl rfl (hb hby d3_40) _ ?_
    rw [len_of S171 N171_]
    show Steps p.tables e below (T168.setTop (mkF m 41 #[.val (.ref a1), .val (.int (1 : Int32)), .val (.ref d), .val (.int (0 : Int32)), .val (.int (0 : Int32)), .unset, .unset, .unset, .unset, .unset] [(.int (1 : Int32)), (.ref d)])) _
    refine XS.iconst X168.here hx rfl (hb hby d3_41) ?_
    refine XS.isub X168.here hx rfl (hb hby d3_42) rfl ?_
    refine X168.iaload hx (j := (0 : Int32)) (v := (.int c0)) (by rw [e168]; exact Ar172.1) (State.isArrayOf_alike hZ.alike Ar172.2.1) Ar172.2.2 hin172 hat172 (g := (mkF m 43 #[.val (.ref a1), .val (.int (1 : Int32)), .val (.ref d), .val (.int (0 : Int32)), .val (.int (0 : Int32)), .unset, .unset, .unset, .unset, .unset] [(.int (0 : Int32)), (.ref d)])) rfl rfl (hb hby d3_43) _ ?_
    show Steps p.tables e below (T168.setTop (mkF m 44 #[.val (.ref a1), .val (.int (1 : Int32)), .val (.ref d), .val (.int (0 : Int32)), .val (.int (0 : Int32)), .unset, .unset, .unset, .unset, .unset] [(.int c0)])) _
    refine XS.istore X168.here hx rfl (hb hby d3_44) rfl (l' := #[.val (.ref a1), .val (.int (1 : Int32)), .val (.ref d), .val (.int (0 : Int32)), .val (.int (0 : Int32)), .val (.int c0), .unset, .unset, .unset, .unset]) rfl ?_
    refine XS.aloadN X168.here hx rfl (hb hby d3_46) rfl rfl ?_
    refine XS.ifnullNo X168.here hx rfl (hb hby d3_47) rfl ?_
    refine XS.aloadN X168.here hx rfl (hb hby d3_50) rfl rfl ?_
    refine X168.arraylength hx (by rw [e168]; exact Ar173.1) (State.isArrayOf_alike hZ.alike Ar173.2.1) (g := (mkF m 51 #[.val (.ref a1), .val (.int (1 : Int32)), .val (.ref d), .val (.int (0 : Int32)), .val (.int (0 : Int32)), .val (.int c0), .unset, .unset, .unset, .unset] [(.ref d)])) rfl rfl (hb hby d3_51) _ ?_
    rw [len_of S173 N173_]
    show Steps p.tables e below (T168.setTop (mkF m 52 #[.val (.ref a1), .val (.int (1 : Int32)), .val (.ref d), .val (.int (0 : Int32)), .val (.int (0 : Int32)), .val (.int c0), .unset, .unset, .unset, .unset] [(.int (1 : Int32))])) _
    refine XS.iconst X168.here hx rfl (hb hby d3_52) ?_
    refine XS.icmpYes X168.here hx rfl (pc0 := 53) (pc' := 133) rfl (hb hby d3_53) rfl (flt (by decide : ¬ ((1 : Int32) < (1 : Int32)))).2.2.2 (by decide) (by decide) ?_
    refine XS.aloadN X168.here hx rfl (hb hby d3_133) rfl rfl ?_
    refine XS.aconstNull X168.here hx rfl (hb hby d3_134) ?_
    refine st176 _ ?_
    show Steps p.tables e below (T176.setTop (mkF m 138 #[.val (.ref a1), .val (.int (1 : Int32)), .val (.ref d), .val (.int (0 : Int32)), .val (.int (0 : Int32)), .val (.int c0), .unset, .unset, .unset, .unset] [])) _
    exact X176.returnOut hx Bd.returns (hb hby d3_138) hr
  · show own_Init Z a1 (.ref d) (fun h => Fld Z h a1 "com/example/cubelet/cubelet/CellStore$Step" "bits" "[J" .null) h0 n0 _ T176.heap _
    rw [e176]
    exact ⟨rfl, N176, KP176, Fx177, Fx178, Fw176⟩
theorem ef_rm_tog_1 (m : MethodId) (x0 : Addr) : entryFrame m #[(.ref x0)] 1 = mkF m 0 #[.val (.ref x0)] [] := by first | (simp [entryFrame, mkF, argsToLocals, Value.category]; done) | rfl
set_option maxRecDepth 65536 in
set_option maxHeartbeats 40000000 in
theorem rm_tog_1 (l : Launch) (Z : State) (a0 : Array Value) (hw : ∀ d ∈ tables_1, d.before a0 Z = true) (ws : List Jvm.Cond) (d : Addr) (h0 : Heap) (n0 : Nat) (Z0 : n0 ≤ h0.size) (kd : ClassId) (c0 : Int32) (A_d : Arv Z h0 d kd .int (1 : Int32) [(.int c0)] (.int (0 : Int32))) (hs : 0 ≤ c0.toInt) :
    MetFree l (⟨"com/example/cubelet/cubelet/CellStore$Step", "together", "([I)Lcom/example/cubelet/cubelet/CellStore$Step;"⟩ : MethodName) (head1 (Jvm.Cond.code (⟨"com/example/cubelet/cubelet/CellStore$Step", "together", "([I)Lcom/example/cubelet/cubelet/CellStore$Step;"⟩ : MethodName) prog_13_method_3_code 1 (some (.object "com/example/cubelet/cubelet/CellStore$Step")) :: ws) ({ frames := 2, cells := 1, slots := 5, locals := 34 } : Room)) (fun aQ UQ => aQ = #[(.ref d)] ∧ Z.Warmed39 UQ.vm ∧ UQ.heap = h0) (fun _ _ _ _ _ => True) (fun _ UQ oQ UR => ∃ vQ LQ, oQ = .returned vQ ∧ own_Tog Z (.ref d) (fun a => (fun h => Fld Z h a "com/example/cubelet/cubelet/CellStore$Step" "bits" "[J" .null)) h0 n0 vQ UR.heap LQ ∧ FrameEnd UQ oQ UR LQ ({ frames := 2, cells := 1, slots := 5, locals := 34 } : Room).cells ({ frames := 2, cells := 1, slots := 5, locals := 34 } : Room).slots) := by
  refine MetFree.of_bodySF (plainFor_of_name pn_72) hisR ?_
  intro p e s m args below meth c s₁ Bd hml0 hP hK
  obtain ⟨rfl, hZ, hh⟩ := hP
  have hx := Bd.exec
  have hby := Bd.bytes
  have hml : c.maxLocals = 1 := hml0
  have hown : s.vm.findClass "com/example/cubelet/cubelet/CellStore$Step" = some m.cls := findClass_of_methodNamed Bd.named
  have hnm := (name_of_methodNamed Bd.named Bd.method).1
  have X0 : Stand p l e ({ frames := 2, cells := 1, slots := 5, locals := 34 } : Room) s m #[(.ref d)] below meth c s₁ [] 0 0 := Stand.of_body Bd
  have e0 : s₁.heap = h0 := by rw [← hh, Bd.state]; rfl
  have N0 := Fr.nil n0
  have pre0 : ∀ t, Steps p.tables e below (s₁.setTop (mkF m 0 #[.val (.ref d)] [])) t → Steps p.tables e below (s₁.setTop (entryFrame m #[(.ref d)] 1)) t := fun t kq => castTop (ef_rm_tog_1 m d) kq
  obtain ⟨T179, h179, X179, e179, E179, A179, D179, -, st179⟩ := newO X0 hx hZ hown (own_q hw 10 rfl) (own_q hw 11 rfl) (own_q hw 8 rfl) e0 (g := (mkF m 0 #[.val (.ref d)] [])) rfl (hb hby d2_0) (by decide) (by decide)
  obtain ⟨b179, g179⟩ : ∃ z, z = h0.size := ⟨_, rfl⟩
  rw [← g179] at A179 D179 st179
  have sz_b179 : h0.size ≤ b179 := Nat.le_trans (Keep.refl h0 []).1 (Nat.le_of_eq g179.symm)
  have gn_b179 : n0 ≤ b179 := Nat.le_trans Z0 sz_b179
  have ne_d_b179 : d ≠ b179 := Nat.ne_of_lt (Nat.lt_of_lt_of_le A_d.lt (Nat.le_of_eq g179.symm))
  have EX179 := own_ext_trans (own_ext_refl h0) E179
  have KP179 := Keep.ext (Keep.refl h0 []) E179
  have F179_takesValues : Fld Z h179 b179 "com/example/cubelet/cubelet/CellStore$Step" "takesValues" "Z" (.int (0 : Int32)) := D179 (Or.inr (own_q hw 19 rfl)) (ty := .boolean) (by decide)
  have F179_codes : Fld Z h179 b179 "com/example/cubelet/cubelet/CellStore$Step" "codes" "[I" .null := D179 (Or.inr (own_q hw 21 rfl)) (ty := (.array .int)) (by decide)
  have F179_takesAll : Fld Z h179 b179 "com/example/cubelet/cubelet/CellStore$Step" "takesAll" "Z" (.int (0 : Int32)) := D179 (Or.inr (own_q hw 23 rfl)) (ty := .boolean) (by decide)
  have F179_apart : Fld Z h179 b179 "com/example/cubelet/cubelet/CellStore$Step" "apart" "Z" (.int (0 : Int32)) := D179 (Or.inr (own_q hw 25 rfl)) (ty := .boolean) (by decide)
  have F179_bits : Fld Z h179 b179 "com/example/cubelet/cubelet/CellStore$Step" "bits" "[J" .null := D179 (Or.inr (own_q hw 28 rfl)) (ty := (.array .long)) (by decide)
  have Fx180 := (A_d.ext E179)
  obtain ⟨_, _, ⟨T181, L181, k181, n181⟩, -, X181, ⟨Lc181, hQ181, l181, y181, z181⟩, st181⟩ := X179.specialBack hx (y := (⟨"com/example/cubelet/cubelet/CellStore$Step", "<init>", "(Z[IZZ)V"⟩ : MethodName)) rfl hown (mvT hZ (own_q hw 12 rfl)) (mvT hZ (own_q hw 13 rfl)) (mvT hZ (own_q hw 14 rfl)) (by decide) (backOf (W := 1) (rm_ini_1 l Z a0 hw [] b179 d h179 n0 (Nat.le_trans Z0 EX179.1) A179 F179_takesValues F179_takesAll F179_apart F179_codes F179_bits gn_b179 kd c0 Fx180 hs (Ne.symm ne_d_b179)) hZ (own_q hw 14 rfl) (own_q hw 8 rfl) (by decide) (by decide)) (g := (mkF m 8 #[.val (.ref d)] [(.int (0 : Int32)), (.int (0 : Int32)), (.ref d), (.int (1 : Int32)), (.ref b179), (.ref b179)])) rfl (by rw [hml]; rfl) (Steps.refl _) (a := b179) (argsL := [(.int (1 : Int32)), (.ref d), (.int (0 : Int32)), (.int (0 : Int32))]) (rest := [(.ref b179)]) (lenOf pd_156 rfl) rfl (by show 2 * 0 + _ ≤ _; exact Nat.le_of_eq rfl) (hb hby d2_8) (fun _ _ => ⟨rfl, e179, (by decide : 1 + 0 ≤ _), (by decide : 5 + 0 ≤ _)⟩)
  dsimp only [Pt.U, Pt.locs, Pt.cells, Pt.slots] at X181 l181 y181 z181 st181 hQ181
  subst l181 y181 z181
  obtain ⟨rfl, N181q, K181, E181, Fc181, hB181⟩ := hQ181
  have N181 := Fr.app N0 N181q
  have e181 : T181.heap = T181.heap := rfl
  have EX181 := own_ext_keep EX179 K181 (allS sz_b179 all0)
  have KP181 := Keep.trans KP179 K181 (allS (Or.inr sz_b179) all0)
  obtain ⟨fs, hr, hrun, hended, hW, hsame⟩ := X181.leave (v := some (.ref b179)) (fun h => by rw [Bd.returns] at h; cases h)
  refine ⟨_, _, pre0 _ ?_, hrun, hended, _, _, rfl, ?_, ⟨_, rfl⟩, hW, hsame.mono (by decide) (by decide)⟩
  · refine st179 _ ?_
    show Steps p.tables e below (T179.setTop (mkF m 3 #[.val (.ref d)] [(.ref b179)])) _
    refine XS.dup X179.here hx rfl (hb hby d2_3) rfl rfl ?_
    refine XS.iconst X179.here hx rfl (hb hby d2_4) ?_
    refine XS.aloadN X179.here hx rfl (hb hby d2_5) rfl rfl ?_
    refine XS.iconst X179.here hx rfl (hb hby d2_6) ?_
    refine XS.iconst X179.here hx rfl (hb hby d2_7) ?_
    refine st181.trans ?_
    show Steps p.tables e below (T181.setTop (mkF m 11 #[.val (.ref d)] [(.ref b179)])) _
    exact retOut X181 hx Bd.returns rfl (Or.inr (Or.inr (Or.inr (Or.inr ⟨rfl, rfl, rfl⟩)))) (hb hby d2_11) hr
  · show own_Tog Z (.ref d) (fun a => (fun h => Fld Z h a "com/example/cubelet/cubelet/CellStore$Step" "bits" "[J" .null)) h0 n0 _ T181.heap _
    exact ⟨b179, rfl, N181, EX181, E181, Fc181, hB181⟩
theorem d3_56 : decode prog_13_method_1_code 56 = .ok (.iload 5, 2) := by decide +kernel
theorem d3_58 : decode prog_13_method_1_code 58 = .ok (.bipush 32, 2) := by decide +kernel
theorem d3_60 : decode prog_13_method_1_code 60 = .ok (.idiv, 1) := by decide +kernel
theorem d3_61 : decode prog_13_method_1_code 61 = .ok (.bipush 16, 2) := by decide +kernel
theorem d3_63 : decode prog_13_method_1_code 63 = .ok (.aload_n 2, 1) := by decide +kernel
theorem d3_64 : decode prog_13_method_1_code 64 = .ok (.arraylength, 1) := by decide +kernel
theorem d3_65 : decode prog_13_method_1_code 65 = .ok (.imul, 1) := by decide +kernel
theorem d3_66 : decode prog_13_method_1_code 66 = .ok (.if_icmp .gt 67, 3) := by decide +kernel
theorem d3_69 : decode prog_13_method_1_code 69 = .ok (.aload_n 0, 1) := by decide +kernel
theorem d3_70 : decode prog_13_method_1_code 70 = .ok (.iload 5, 2) := by decide +kernel
theorem d3_72 : decode prog_13_method_1_code 72 = .ok (.bipush 64, 2) := by decide +kernel
theorem d3_74 : decode prog_13_method_1_code 74 = .ok (.idiv, 1) := by decide +kernel
theorem d3_75 : decode prog_13_method_1_code 75 = .ok (.iconst 1, 1) := by decide +kernel
theorem d3_76 : decode prog_13_method_1_code 76 = .ok (.iadd, 1) := by decide +kernel
theorem d3_77 : decode prog_13_method_1_code 77 = .ok (.newarray .long, 2) := by decide +kernel
theorem d3_79 : decode prog_13_method_1_code 79 = .ok (.putfield 27, 3) := by decide +kernel
theorem d3_82 : decode prog_13_method_1_code 82 = .ok (.aload_n 2, 1) := by decide +kernel
theorem d3_83 : decode prog_13_method_1_code 83 = .ok (.astore 6, 2) := by decide +kernel
theorem d3_85 : decode prog_13_method_1_code 85 = .ok (.aload 6, 2) := by decide +kernel
theorem d3_87 : decode prog_13_method_1_code 87 = .ok (.arraylength, 1) := by decide +kernel
theorem d3_88 : decode prog_13_method_1_code 88 = .ok (.istore 7, 2) := by decide +kernel
theorem d3_90 : decode prog_13_method_1_code 90 = .ok (.iconst 0, 1) := by decide +kernel
theorem d3_91 : decode prog_13_method_1_code 91 = .ok (.istore 8, 2) := by decide +kernel
theorem d3_93 : decode prog_13_method_1_code 93 = .ok (.iload 8, 2) := by decide +kernel
theorem d3_95 : decode prog_13_method_1_code 95 = .ok (.iload 7, 2) := by decide +kernel
theorem d3_97 : decode prog_13_method_1_code 97 = .ok (.if_icmp .ge 33, 3) := by decide +kernel
theorem d3_100 : decode prog_13_method_1_code 100 = .ok (.aload 6, 2) := by decide +kernel
theorem d3_102 : decode prog_13_method_1_code 102 = .ok (.iload 8, 2) := by decide +kernel
theorem d3_104 : decode prog_13_method_1_code 104 = .ok (.iaload, 1) := by decide +kernel
theorem d3_105 : decode prog_13_method_1_code 105 = .ok (.istore 9, 2) := by decide +kernel
theorem d3_107 : decode prog_13_method_1_code 107 = .ok (.aload_n 0, 1) := by decide +kernel
theorem d3_108 : decode prog_13_method_1_code 108 = .ok (.getfield 27, 3) := by decide +kernel
theorem d3_111 : decode prog_13_method_1_code 111 = .ok (.iload 9, 2) := by decide +kernel
theorem d3_113 : decode prog_13_method_1_code 113 = .ok (.bipush 64, 2) := by decide +kernel
theorem d3_115 : decode prog_13_method_1_code 115 = .ok (.idiv, 1) := by decide +kernel
theorem d3_116 : decode prog_13_method_1_code 116 = .ok (.dup2, 1) := by decide +kernel
theorem d3_117 : decode prog_13_method_1_code 117 = .ok (.laload, 1) := by decide +kernel
theorem d3_118 : decode prog_13_method_1_code 118 = .ok (.lconst 1, 1) := by decide +kernel
theorem d3_119 : decode prog_13_method_1_code 119 = .ok (.iload 9, 2) := by decide +kernel
theorem d3_121 : decode prog_13_method_1_code 121 = .ok (.lshl, 1) := by decide +kernel
theorem d3_122 : decode prog_13_method_1_code 122 = .ok (.lor, 1) := by decide +kernel
theorem d3_123 : decode prog_13_method_1_code 123 = .ok (.lastore, 1) := by decide +kernel
theorem d3_124 : decode prog_13_method_1_code 124 = .ok (.iinc 8 1, 3) := by decide +kernel
theorem d3_127 : decode prog_13_method_1_code 127 = .ok (.goto (-34), 3) := by decide +kernel
theorem d3_130 : decode prog_13_method_1_code 130 = .ok (.goto 8, 3) := by decide +kernel
theorem ef_rm_ini_2 (m : MethodId) (x0 : Addr) (x2 : Addr) : entryFrame m #[(.ref x0), (.int (1 : Int32)), (.ref x2), (.int (0 : Int32)), (.int (0 : Int32))] 10 = mkF m 0 #[.val (.ref x0), .val (.int (1 : Int32)), .val (.ref x2), .val (.int (0 : Int32)), .val (.int (0 : Int32)), .unset, .unset, .unset, .unset, .unset] [] := by first | (simp [entryFrame, mkF, argsToLocals, Value.category]; done) | rfl
set_option maxRecDepth 65536 in
set_option maxHeartbeats 40000000 in
theorem rm_ini_2 (l : Launch) (Z : State) (a0 : Array Value) (hw : ∀ d ∈ tables_1, d.before a0 Z = true) (ws : List Jvm.Cond) (a1 : Addr) (d : Addr) (h0 : Heap) (n0 : Nat) (Z0 : n0 ≤ h0.size) (E_a : Exa Z h0 a1 "com/example/cubelet/cubelet/CellStore$Step") (F_takesValues : Fld Z h0 a1 "com/example/cubelet/cubelet/CellStore$Step" "takesValues" "Z" (.int (0 : Int32))) (F_takesAll : Fld Z h0 a1 "com/example/cubelet/cubelet/CellStore$Step" "takesAll" "Z" (.int (0 : Int32))) (F_apart : Fld Z h0 a1 "com/example/cubelet/cubelet/CellStore$Step" "apart" "Z" (.int (0 : Int32))) (F_codes : Fld Z h0 a1 "com/example/cubelet/cubelet/CellStore$Step" "codes" "[I" .null) (F_bits : Fld Z h0 a1 "com/example/cubelet/cubelet/CellStore$Step" "bits" "[J" .null) (gn_a : n0 ≤ a1) (kd : ClassId) (c0 c1 : Int32) (A_d : Arv Z h0 d kd .int (2 : Int32) [(.int c0), (.int c1)] (.int (0 : Int32))) (hs : 0 ≤ c0.toInt ∧ c0.toInt ≤ c1.toInt) (nad : a1 ≠ d) :
    MetFree l (⟨"com/example/cubelet/cubelet/CellStore$Step", "<init>", "(Z[IZZ)V"⟩ : MethodName) (head1 (Jvm.Cond.code (⟨"com/example/cubelet/cubelet/CellStore$Step", "<init>", "(Z[IZZ)V"⟩ : MethodName) prog_13_method_1_code 10 none :: ws) ({ frames := 1, cells := 1, slots := 33, locals := 12 } : Room)) (fun aQ UQ => aQ = #[(.ref a1), (.int (1 : Int32)), (.ref d), (.int (0 : Int32)), (.int (0 : Int32))] ∧ Z.Warmed39 UQ.vm ∧ UQ.heap = h0) (fun _ _ _ _ _ => True) (fun _ UQ oQ UR => ∃ vQ LQ, oQ = .returned vQ ∧ own_Init Z a1 (.ref d) (fun h => own_Bits Z h a1 c1.toInt (fun q => c0.toInt = q ∨ c1.toInt = q)) h0 n0 vQ UR.heap LQ ∧ FrameEnd UQ oQ UR LQ ({ frames := 1, cells := 1, slots := 33, locals := 12 } : Room).cells ({ frames := 1, cells := 1, slots := 33, locals := 12 } : Room).slots) := by
  refine MetFree.of_bodySF (plainFor_of_name pn_72) hisR ?_
  intro p e s m args below meth c s₁ Bd hml0 hP hK
  obtain ⟨rfl, hZ, hh⟩ := hP
  have hx := Bd.exec
  have hby := Bd.bytes
  have hml : c.maxLocals = 10 := hml0
  have hown : s.vm.findClass "com/example/cubelet/cubelet/CellStore$Step" = some m.cls := findClass_of_methodNamed Bd.named
  have hnm := (name_of_methodNamed Bd.named Bd.method).1
  have X0 : Stand p l e ({ frames := 1, cells := 1, slots := 33, locals := 12 } : Room) s m #[(.ref a1), (.int (1 : Int32)), (.ref d), (.int (0 : Int32)), (.int (0 : Int32))] below meth c s₁ [] 0 0 := Stand.of_body Bd
  have e0 : s₁.heap = h0 := by rw [← hh, Bd.state]; rfl
  have N0 := Fr.nil n0
  have pre0 : ∀ t, Steps p.tables e below (s₁.setTop (mkF m 0 #[.val (.ref a1), .val (.int (1 : Int32)), .val (.ref d), .val (.int (0 : Int32)), .val (.int (0 : Int32)), .unset, .unset, .unset, .unset, .unset] [])) t → Steps p.tables e below (s₁.setTop (entryFrame m #[(.ref a1), (.int (1 : Int32)), (.ref d), (.int (0 : Int32)), (.int (0 : Int32))] 10)) t := fun t kq => castTop (ef_rm_ini_2 m a1 d) kq
  obtain ⟨T182, X182, e182, st182⟩ := initO X0 hx hZ hown (own_q hw 15 rfl) (own_q hw 16 rfl) (own_q hw 17 rfl) e0 (g := (mkF m 1 #[.val (.ref a1), .val (.int (1 : Int32)), .val (.ref d), .val (.int (0 : Int32)), .val (.int (0 : Int32)), .unset, .unset, .unset, .unset, .unset] [(.ref a1)])) rfl (by rw [hml]; rfl) rfl (hb hby d3_1) (by decide) (W := 0) (by show 2 * 0 + _ ≤ _; exact Nat.le_of_eq rfl) (by decide)
  obtain ⟨T183, h183, X183, e183, W183, st183⟩ := putFN X182 hx hZ hown (own_q hw 18 rfl) Via.refl e182 F_takesValues E_a (Or.inr ⟨(own_q hw 19 rfl), rfl, hnm⟩) (own_q hw 11 rfl) (ty := .boolean) (v' := (.int (1 : Int32))) (by decide) rfl rfl (g := (mkF m 6 #[.val (.ref a1), .val (.int (1 : Int32)), .val (.ref d), .val (.int (0 : Int32)), .val (.int (0 : Int32)), .unset, .unset, .unset, .unset, .unset] [(.int (1 : Int32)), (.ref a1)])) rfl rfl (hb hby d3_6)
  have KP183 := Keep.wr (Keep.refl h0 [a1]) W183 (Or.inl (List.mem_of_getElem? (i := 0) rfl))
  have Fw183 := F_takesValues.same W183
  have N183 := Fr.snoc X183 N0 gn_a
  have Fx184 := (E_a.wr W183)
  have Fx185 := (F_codes.other W183 (Or.inr (slot_ne (Or.inr (own_q hw 21 rfl)) (Or.inr (own_q hw 19 rfl)) (by decide) (t := (.array .int)) (t' := .boolean) (by decide) (by decide))))
  obtain ⟨T186, h186, X186, e186, W186, st186⟩ := putF X183 hx hZ hown (host := "") (Or.inl (own_q hw 20 rfl)) Via.refl e183 Fx185 Fx184 (Or.inr ⟨(own_q hw 21 rfl), rfl, hnm⟩) (own_q hw 11 rfl) (ty := (.array .int)) (by decide) rfl rfl (g := (mkF m 11 #[.val (.ref a1), .val (.int (1 : Int32)), .val (.ref d), .val (.int (0 : Int32)), .val (.int (0 : Int32)), .unset, .unset, .unset, .unset, .unset] [(.ref d), (.ref a1)])) rfl rfl (hb hby d3_11)
  have KP186 := Keep.wr KP183 W186 (Or.inl (List.mem_of_getElem? (i := 0) rfl))
  have Fw186 := Fx185.same W186
  have N186 := Fr.snoc X186 N183 gn_a
  have Fx187 := (Fx184.wr W186)
  have Fx188 := ((F_takesAll.other W183 (Or.inr (slot_ne (Or.inr (own_q hw 23 rfl)) (Or.inr (own_q hw 19 rfl)) (by decide) (t := .boolean) (t' := .boolean) (by decide) (by decide)))).other W186 (Or.inr (slot_ne (Or.inr (own_q hw 23 rfl)) (Or.inr (own_q hw 21 rfl)) (by decide) (t := .boolean) (t' := (.array .int)) (by decide) (by decide))))
  obtain ⟨T189, h189, X189, e189, W189, st189⟩ := putFN X186 hx hZ hown (own_q hw 22 rfl) Via.refl e186 Fx188 Fx187 (Or.inr ⟨(own_q hw 23 rfl), rfl, hnm⟩) (own_q hw 11 rfl) (ty := .boolean) (v' := (.int (0 : Int32))) (by decide) rfl rfl (g := (mkF m 16 #[.val (.ref a1), .val (.int (1 : Int32)), .val (.ref d), .val (.int (0 : Int32)), .val (.int (0 : Int32)), .unset, .unset, .unset, .unset, .unset] [(.int (0 : Int32)), (.ref a1)])) rfl rfl (hb hby d3_16)
  have KP189 := Keep.wr KP186 W189 (Or.inl (List.mem_of_getElem? (i := 0) rfl))
  have Fw189 := Fx188.same W189
  have N189 := Fr.snoc X189 N186 gn_a
  have Fx190 := (Fx187.wr W189)
  have Fx191 := (((F_apart.other W183 (Or.inr (slot_ne (Or.inr (own_q hw 25 rfl)) (Or.inr (own_q hw 19 rfl)) (by decide) (t := .boolean) (t' := .boolean) (by decide) (by decide)))).other W186 (Or.inr (slot_ne (Or.inr (own_q hw 25 rfl)) (Or.inr (own_q hw 21 rfl)) (by decide) (t := .boolean) (t' := (.array .int)) (by decide) (by decide)))).other W189 (Or.inr (slot_ne (Or.inr (own_q hw 25 rfl)) (Or.inr (own_q hw 23 rfl)) (by decide) (t := .boolean) (t' := .boolean) (by decide) (by decide))))
  obtain ⟨T192, h192, X192, e192, W192, st192⟩ := putFN X189 hx hZ hown (own_q hw 24 rfl) Via.refl e189 Fx191 Fx190 (Or.inr ⟨(own_q hw 25 rfl), rfl, hnm⟩) (own_q hw 11 rfl) (ty := .boolean) (v' := (.int (0 : Int32))) (by decide) rfl rfl (g := (mkF m 22 #[.val (.ref a1), .val (.int (1 : Int32)), .val (.ref d), .val (.int (0 : Int32)), .val (.int (0 : Int32)), .unset, .unset, .unset, .unset, .unset] [(.int (0 : Int32)), (.ref a1)])) rfl rfl (hb hby d3_22)
  have KP192 := Keep.wr KP189 W192 (Or.inl (List.mem_of_getElem? (i := 0) rfl))
  have Fw192 := Fx191.same W192
  have N192 := Fr.snoc X192 N189 gn_a
  have Fx193 := ((((A_d.other W183 (Ne.symm nad)).other W186 (Ne.symm nad)).other W189 (Ne.symm nad)).other W192 (Ne.symm nad))
  have Vc194 := Fx193
  obtain ⟨cl194, Ar194, q194, S194, N194_, H194_, G194⟩ := Vc194
  have Vc195 := Fx193
  obtain ⟨cl195, Ar195, q195, S195, N195_, H195_, G195⟩ := Vc195
  have Vc196 := Fx193
  obtain ⟨cl196, Ar196, q196, S196, N196_, H196_, G196⟩ := Vc196
  have hin196 : ¬ ((1 : Int32) < 0 ∨ cl196.slots.size ≤ ((1 : Int32)).toNatClampNeg) := inb_of S196 ⟨by decide, by decide⟩
  have hat196 : cl196.slots[((1 : Int32)).toNatClampNeg]? = some (.int c1) := Has.at H196_ hin196 rfl
  have Vc197 := Fx193
  obtain ⟨cl197, Ar197, q197, S197, N197_, H197_, G197⟩ := Vc197
  have Vc198 := Fx193
  obtain ⟨cl198, Ar198, q198, S198, N198_, H198_, G198⟩ := Vc198
  have ck200 : ∀ t, Steps p.tables e below (T192.setTop (mkF m 66 #[.val (.ref a1), .val (.int (1 : Int32)), .val (.ref d), .val (.int (0 : Int32)), .val (.int (0 : Int32)), .val (.int c1), .unset, .unset, .unset, .unset] [(.int (32 : Int32)), (.int (c1 / (32 : Int32)))])) t → Steps p.tables e below (s₁.setTop (entryFrame m #[(.ref a1), (.int (1 : Int32)), (.ref d), (.int (0 : Int32)), (.int (0 : Int32))] 10)) t := by
    intro t kt
    refine pre0 _ ?_
    refine XS.aloadN X0.here hx rfl (hb hby d3_0) rfl rfl ?_
    refine st182 _ ?_
    show Steps p.tables e below (T182.setTop (mkF m 4 #[.val (.ref a1), .val (.int (1 : Int32)), .val (.ref d), .val (.int (0 : Int32)), .val (.int (0 : Int32)), .unset, .unset, .unset, .unset, .unset] [])) _
    refine XS.aloadN X182.here hx rfl (hb hby d3_4) rfl rfl ?_
    refine XS.iloadN X182.here hx rfl (hb hby d3_5) rfl ?_
    refine st183 _ ?_
    show Steps p.tables e below (T183.setTop (mkF m 9 #[.val (.ref a1), .val (.int (1 : Int32)), .val (.ref d), .val (.int (0 : Int32)), .val (.int (0 : Int32)), .unset, .unset, .unset, .unset, .unset] [])) _
    refine XS.aloadN X183.here hx rfl (hb hby d3_9) rfl rfl ?_
    refine XS.aloadN X183.here hx rfl (hb hby d3_10) rfl rfl ?_
    refine st186 _ ?_
    show Steps p.tables e below (T186.setTop (mkF m 14 #[.val (.ref a1), .val (.int (1 : Int32)), .val (.ref d), .val (.int (0 : Int32)), .val (.int (0 : Int32)), .unset, .unset, .unset, .unset, .unset] [])) _
    refine XS.aloadN X186.here hx rfl (hb hby d3_14) rfl rfl ?_
    refine XS.iloadN X186.here hx rfl (hb hby d3_15) rfl ?_
    refine st189 _ ?_
    show Steps p.tables e below (T189.setTop (mkF m 19 #[.val (.ref a1), .val (.int (1 : Int32)), .val (.ref d), .val (.int (0 : Int32)), .val (.int (0 : Int32)), .unset, .unset, .unset, .unset, .unset] [])) _
    refine XS.aloadN X189.here hx rfl (hb hby d3_19) rfl rfl ?_
    refine XS.iload X189.here hx rfl (hb hby d3_20) rfl ?_
    refine st192 _ ?_
    show Steps p.tables e below (T192.setTop (mkF m 25 #[.val (.ref a1), .val (.int (1 : Int32)), .val (.ref d), .val (.int (0 : Int32)), .val (.int (0 : Int32)), .unset, .unset, .unset, .unset, .unset] [])) _
    refine XS.aloadN X192.here hx rfl (hb hby d3_25) rfl rfl ?_
    refine XS.ifnullNo X192.here hx rfl (hb hby d3_26) rfl ?_
    refine XS.aloadN X192.here hx rfl (hb hby d3_29) rfl rfl ?_
    refine X192.arraylength hx (by rw [e192]; exact Ar194.1) (State.isArrayOf_alike hZ.alike Ar194.2.1) (g := (mkF m 30 #[.val (.ref a1), .val (.int (1 : Int32)), .val (.ref d), .val (.int (0 : Int32)), .val (.int (0 : Int32)), .unset, .unset, .unset, .unset, .unset] [(.ref d)])) rfl rfl (hb hby d3_30) _ ?_
    rw [len_of S194 N194_]
    show Steps p.tables e below (T192.setTop (mkF m 31 #[.val (.ref a1), .val (.int (1 : Int32)), .val (.ref d), .val (.int (0 : Int32)), .val (.int (0 : Int32)), .unset, .unset, .unset, .unset, .unset] [(.int (2 : Int32))])) _
    refine XS.ifYes X192.here hx rfl (pc0 := 31) (pc' := 38) rfl (hb hby d3_31) rfl ((if0 _ _).trans (feq (by decide : ¬ ((2 : Int32) = (0 : Int32)))).2) (by decide) (by decide) ?_
    refine XS.aloadN X192.here hx rfl (hb hby d3_38) rfl rfl ?_
    refine XS.aloadN X192.here hx rfl (hb hby d3_39) rfl rfl ?_
    refine X192.arraylength hx (by rw [e192]; exact Ar195.1) (State.isArrayOf_alike hZ.alike Ar195.2.1) (g := (mkF m 40 #[.val (.ref a1), .val (.int (1 : Int32)), .val (.ref d), .val (.int (0 : Int32)), .val (.int (0 : Int32)), .unset, .unset, .unset, .unset, .unset] [(.ref d), (.ref d)])) rfl rfl (hb hby d3_40) _ ?_
    rw [len_of S195 N195_]
    show Steps p.tables e below (T192.setTop (mkF m 41 #[.val (.ref a1), .val (.int (1 : Int32)), .val (.ref d), .val (.int (0 : Int32)), .val (.int (0 : Int32)), .unset, .unset, .unset, .unset, .unset] [(.int (2 : Int32)), (.ref d)])) _
    refine XS.iconst X192.here hx rfl (hb hby d3_41) ?_
    refine XS.isub X192.here hx rfl (hb hby d3_42) rfl ?_
    refine X192.iaload hx (j := (1 : Int32)) (v := (.int c1)) (by rw [e192]; exact Ar196.1) (State.isArrayOf_alike hZ.alike Ar196.2.1) Ar196.2.2 hin196 hat196 (g := (mkF m 43 #[.val (.ref a1), .val (.int (1 : Int32)), .val (.ref d), .val (.int (0 : Int32)), .val (.int (0 : Int32)), .unset, .unset, .unset, .unset, .unset] [(.int (1 : Int32)), (.ref d)])) rfl rfl (hb hby d3_43) _ ?_
    show Steps p.tables e below (T192.setTop (mkF m 44 #[.val (.ref a1), .val (.int (1 : Int32)), .val (.ref d), .val (.int (0 : Int32)), .val (.int (0 : Int32)), .unset, .unset, .unset, .unset, .unset] [(.int c1)])) _
    refine XS.istore X192.here hx rfl (hb hby d3_44) rfl (l' := #[.val (.ref a1), .val (.int (1 : Int32)), .val (.ref d), .val (.int (0 : Int32)), .val (.int (0 : Int32)), .val (.int c1), .unset, .unset, .unset, .unset]) rfl ?_
    refine XS.aloadN X192.here hx rfl (hb hby d3_46) rfl rfl ?_
    refine XS.ifnullNo X192.here hx rfl (hb hby d3_47) rfl ?_
    refine XS.aloadN X192.here hx rfl (hb hby d3_50) rfl rfl ?_
    refine X192.arraylength hx (by rw [e192]; exact Ar197.1) (State.isArrayOf_alike hZ.alike Ar197.2.1) (g := (mkF m 51 #[.val (.ref a1), .val (.int (1 : Int32)), .val (.ref d), .val (.int (0 : Int32)), .val (.int (0 : Int32)), .val (.int c1), .unset, .unset, .unset, .unset] [(.ref d)])) rfl rfl (hb hby d3_51) _ ?_
    rw [len_of S197 N197_]
    show Steps p.tables e below (T192.setTop (mkF m 52 #[.val (.ref a1), .val (.int (1 : Int32)), .val (.ref d), .val (.int (0 : Int32)), .val (.int (0 : Int32)), .val (.int c1), .unset, .unset, .unset, .unset] [(.int (2 : Int32))])) _
    refine XS.iconst X192.here hx rfl (hb hby d3_52) ?_
    refine XS.icmpNo X192.here hx rfl (hb hby d3_53) rfl (tlt (by decide : (1 : Int32) < (2 : Int32))).2.2.2 ?_
    refine XS.iload X192.here hx rfl (hb hby d3_56) rfl ?_
    refine XS.bipush X192.here hx rfl (hb hby d3_58) ?_
    refine XS.idiv X192.here hx rfl (hb hby d3_60) rfl (by decide) ?_
    refine XS.bipush X192.here hx rfl (hb hby d3_61) ?_
    refine XS.aloadN X192.here hx rfl (hb hby d3_63) rfl rfl ?_
    refine X192.arraylength hx (by rw [e192]; exact Ar198.1) (State.isArrayOf_alike hZ.alike Ar198.2.1) (g := (mkF m 64 #[.val (.ref a1), .val (.int (1 : Int32)), .val (.ref d), .val (.int (0 : Int32)), .val (.int (0 : Int32)), .val (.int c1), .unset, .unset, .unset, .unset] [(.ref d), (.int (16 : Int32)), (.int (c1 / (32 : Int32)))])) rfl rfl (hb hby d3_64) _ ?_
    rw [len_of S198 N198_]
    show Steps p.tables e below (T192.setTop (mkF m 65 #[.val (.ref a1), .val (.int (1 : Int32)), .val (.ref d), .val (.int (0 : Int32)), .val (.int (0 : Int32)), .val (.int c1), .unset, .unset, .unset, .unset] [(.int (2 : Int32)), (.int (16 : Int32)), (.int (c1 / (32 : Int32)))])) _
    refine XS.imul X192.here hx rfl (hb hby d3_65) rfl ?_
    exact kt
  (try clear G198); (try clear H198_); (try clear N198_); (try clear S198); (try clear q198); (try clear Ar198); (try clear cl198); (try clear G197); (try clear H197_); (try clear N197_); (try clear S197); (try clear q197); (try clear Ar197); (try clear cl197); (try clear hat196); (try clear hin196); (try clear G196); (try clear H196_); (try clear N196_); (try clear S196); (try clear q196); (try clear Ar196); (try clear cl196); (try clear G195); (try clear H195_); (try clear N195_); (try clear S195); (try clear q195); (try clear Ar195); (try clear cl195); (try clear G194); (try clear H194_); (try clear N194_); (try clear S194); (try clear q194); (try clear Ar194); (try clear cl194); (try clear st192); (try clear Fx191); (try clear N189); (try clear KP189); (try clear st189); (try clear e189); (try clear X189); (try clear h189); (try clear T189); (try clear Fx188); (try clear Fx187); (try clear N186); (try clear KP186); (try clear st186); (try clear e186); (try clear X186); (try clear h186); (try clear T186); (try clear Fx185); (try clear Fx184); (try clear N183); (try clear KP183); (try clear st183); (try clear e183); (try clear X183); (try clear h183); (try clear T183); (try clear st182); (try clear e182); (try clear X182); (try clear T182)
  by_cases hc66_199 : (32 : Int32) < (c1 / (32 : Int32))
  · -- pc 66: yes
    have Fx201 := (Fx190.wr W192)
    have Fx202 := ((((F_bits.other W183 (Or.inr (slot_ne (Or.inr (own_q hw 28 rfl)) (Or.inr (own_q hw 19 rfl)) (by decide) (t := (.array .long)) (t' := .boolean) (by decide) (by decide)))).other W186 (Or.inr (slot_ne (Or.inr (own_q hw 28 rfl)) (Or.inr (own_q hw 21 rfl)) (by decide) (t := (.array .long)) (t' := (.array .int)) (by decide) (by decide)))).other W189 (Or.inr (slot_ne (Or.inr (own_q hw 28 rfl)) (Or.inr (own_q hw 23 rfl)) (by decide) (t := (.array .long)) (t' := .boolean) (by decide) (by decide)))).other W192 (Or.inr (slot_ne (Or.inr (own_q hw 28 rfl)) (Or.inr (own_q hw 25 rfl)) (by decide) (t := (.array .long)) (t' := .boolean) (by decide) (by decide))))
    obtain ⟨T203, h203, X203, e203, W203, st203⟩ := putF X192 hx hZ hown (host := "") (Or.inl (own_q hw 27 rfl)) Via.refl e192 Fx202 Fx201 (Or.inr ⟨(own_q hw 28 rfl), rfl, hnm⟩) (own_q hw 11 rfl) (ty := (.array .long)) (by decide) rfl rfl (g := (mkF m 135 #[.val (.ref a1), .val (.int (1 : Int32)), .val (.ref d), .val (.int (0 : Int32)), .val (.int (0 : Int32)), .val (.int c1), .unset, .unset, .unset, .unset] [.null, (.ref a1)])) rfl rfl (hb hby d3_135)
    have KP203 := Keep.wr KP192 W203 (Or.inl (List.mem_of_getElem? (i := 0) rfl))
    have Fw203 := Fx202.same W203
    have N203 := Fr.snoc X203 N192 gn_a
    have Fx204 := (Fx201.wr W203)
    have Fx205 := (((Fw186.other W189 (Or.inr (slot_ne (Or.inr (own_q hw 21 rfl)) (Or.inr (own_q hw 23 rfl)) (by decide) (t := (.array .int)) (t' := .boolean) (by decide) (by decide)))).other W192 (Or.inr (slot_ne (Or.inr (own_q hw 21 rfl)) (Or.inr (own_q hw 25 rfl)) (by decide) (t := (.array .int)) (t' := .boolean) (by decide) (by decide)))).other W203 (Or.inr (slot_ne (Or.inr (own_q hw 21 rfl)) (Or.inr (own_q hw 28 rfl)) (by decide) (t := (.array .int)) (t' := (.array .long)) (by decide) (by decide))))
    obtain ⟨fs, hr, hrun, hended, hW, hsame⟩ := X203.leave (v := none) (fun _ => rfl)
    refine ⟨_, _, ck200 _ ?_, hrun, hended, _, _, rfl, ?_, ⟨_, rfl⟩, hW, hsame.mono (by decide) (by decide)⟩
    · refine XS.icmpYes X192.here hx rfl (pc0 := 66) (pc' := 133) rfl (hb hby d3_66) rfl (tlt hc66_199).2.2.1 (by decide) (by decide) ?_
      refine XS.aloadN X192.here hx rfl (hb hby d3_133) rfl rfl ?_
      refine XS.aconstNull X192.here hx rfl (hb hby d3_134) ?_
      refine st203 _ ?_
      show Steps p.tables e below (T203.setTop (mkF m 138 #[.val (.ref a1), .val (.int (1 : Int32)), .val (.ref d), .val (.int (0 : Int32)), .val (.int (0 : Int32)), .val (.int c1), .unset, .unset, .unset, .unset] [])) _
      exact X203.returnOut hx Bd.returns (hb hby d3_138) hr
    · show own_Init Z a1 (.ref d) (fun h => own_Bits Z h a1 c1.toInt (fun q => c0.toInt = q ∨ c1.toInt = q)) h0 n0 _ T203.heap _
      rw [e203]
      exact ⟨rfl, N203, KP203, Fx204, Fx205, Or.inl Fw203⟩
  · -- pc 66: no
    obtain ⟨bz, h_bz⟩ : ∃ zQ : Int32, ((c1 / (64 : Int32)) + (1 : Int32)) = zQ := ⟨_, rfl⟩
    have hbz : bz.toInt = c1.toInt / 64 + 1 ∧ bz.toInt ≤ 33 := by rw [← h_bz]; exact own_bz (by omega) (by decide) hc66_199
    have hbz0 : ¬ bz < 0 := own_nn (by omega)
    have hbzc : bz.toNatClampNeg ≤ 33 := own_cap hbz0 (by omega)
    have Fx206 := (Fx190.wr W192)
    obtain ⟨T207, h207, k207, X207, e207, E207, A207, st207⟩ := newP X192 hx hZ (own_q hw 26 rfl) e192 (g := (mkF m 77 #[.val (.ref a1), .val (.int (1 : Int32)), .val (.ref d), .val (.int (0 : Int32)), .val (.int (0 : Int32)), .val (.int c1), .unset, .unset, .unset, .unset] [(.int bz), (.ref a1)])) rfl (hb hby d3_77) rfl hbz0 (cap := 33) hbzc (by decide) (by decide) (by decide)
    obtain ⟨b207, g207⟩ : ∃ z, z = h192.size := ⟨_, rfl⟩
    rw [← g207] at A207 st207
    have sz_b207 : h0.size ≤ b207 := Nat.le_trans KP192.1 (Nat.le_of_eq g207.symm)
    have gn_b207 : n0 ≤ b207 := Nat.le_trans Z0 sz_b207
    have ne_a1_b207 : a1 ≠ b207 := Nat.ne_of_lt (Nat.lt_of_lt_of_le Fx206.lt (Nat.le_of_eq g207.symm))
    have ne_d_b207 : d ≠ b207 := Nat.ne_of_lt (Nat.lt_of_lt_of_le Fx193.lt (Nat.le_of_eq g207.symm))
    have KP207 := Keep.ext KP192 E207
    have V207 : own_FL Z h207 b207 k207 bz (fun _ => (0 : Int64)) := own_FL.new A207 hbz0
    have hS_0 := own_says0
    have Fx208 := (Fx206.ext E207)
    have Fx209 := (((((F_bits.other W183 (Or.inr (slot_ne (Or.inr (own_q hw 28 rfl)) (Or.inr (own_q hw 19 rfl)) (by decide) (t := (.array .long)) (t' := .boolean) (by decide) (by decide)))).other W186 (Or.inr (slot_ne (Or.inr (own_q hw 28 rfl)) (Or.inr (own_q hw 21 rfl)) (by decide) (t := (.array .long)) (t' := (.array .int)) (by decide) (by decide)))).other W189 (Or.inr (slot_ne (Or.inr (own_q hw 28 rfl)) (Or.inr (own_q hw 23 rfl)) (by decide) (t := (.array .long)) (t' := .boolean) (by decide) (by decide)))).other W192 (Or.inr (slot_ne (Or.inr (own_q hw 28 rfl)) (Or.inr (own_q hw 25 rfl)) (by decide) (t := (.array .long)) (t' := .boolean) (by decide) (by decide)))).ext E207)
    obtain ⟨T210, h210, X210, e210, W210, st210⟩ := putF X207 hx hZ hown (host := "") (Or.inl (own_q hw 27 rfl)) Via.refl e207 Fx209 Fx208 (Or.inr ⟨(own_q hw 28 rfl), rfl, hnm⟩) (own_q hw 11 rfl) (ty := (.array .long)) (by decide) rfl rfl (g := (mkF m 79 #[.val (.ref a1), .val (.int (1 : Int32)), .val (.ref d), .val (.int (0 : Int32)), .val (.int (0 : Int32)), .val (.int c1), .unset, .unset, .unset, .unset] [(.ref b207), (.ref a1)])) rfl rfl (hb hby d3_79)
    have KP210 := Keep.wr KP207 W210 (Or.inl (List.mem_of_getElem? (i := 0) rfl))
    have Fw210 := Fx209.same W210
    have N210 := Fr.snoc X210 N192 gn_a
    have Fx211 := ((Fx193.ext E207).other W210 (Ne.symm nad))
    have Vc212 := Fx211
    obtain ⟨cl212, Ar212, q212, S212, N212_, H212_, G212⟩ := Vc212
    have Vc213 := Fx211
    obtain ⟨cl213, Ar213, q213, S213, N213_, H213_, G213⟩ := Vc213
    have hin213 : ¬ ((0 : Int32) < 0 ∨ cl213.slots.size ≤ ((0 : Int32)).toNatClampNeg) := inb_of S213 ⟨by decide, by decide⟩
    have hat213 : cl213.slots[((0 : Int32)).toNatClampNeg]? = some (.int c0) := Has.at H213_ hin213 rfl
    obtain ⟨T214, X214, e214, st214⟩ := getF X210 hx hZ hown (host := "") (Or.inl (own_q hw 27 rfl)) Via.refl e210 Fw210 (g := (mkF m 108 #[.val (.ref a1), .val (.int (1 : Int32)), .val (.ref d), .val (.int (0 : Int32)), .val (.int (0 : Int32)), .val (.int c1), .val (.ref d), .val (.int (2 : Int32)), .val (.int (0 : Int32)), .val (.int c0)] [(.ref a1)])) rfl rfl (hb hby d3_108)
    have Fx215 := (V207.other W210 (Ne.symm ne_a1_b207))
    have Vc216 := Fx215
    obtain ⟨cl216, Ar216, q216, S216, N216_, H216_, G216⟩ := Vc216
    have hin216 : ¬ ((c0 / (64 : Int32)) < 0 ∨ cl216.slots.size ≤ ((c0 / (64 : Int32))).toNatClampNeg) := inb_of S216 ⟨(own_nn (by have := own_div64 c0 (by omega); omega)), (own_lt32 (by have := own_div64 c0 (by omega); omega))⟩
    have Vc217 := Fx215
    obtain ⟨cl217, Ar217, q217, S217, N217_, H217_, G217⟩ := Vc217
    have hin217 : ¬ ((c0 / (64 : Int32)) < 0 ∨ cl217.slots.size ≤ ((c0 / (64 : Int32))).toNatClampNeg) := inb_of S217 ⟨(own_nn (by have := own_div64 c0 (by omega); omega)), (own_lt32 (by have := own_div64 c0 (by omega); omega))⟩
    obtain ⟨T218, h218, X218, e218, W218, st218⟩ := stJ X214 hx hZ e214 Ar217 (j := (c0 / (64 : Int32))) hin217 (g := (mkF m 123 #[.val (.ref a1), .val (.int (1 : Int32)), .val (.ref d), .val (.int (0 : Int32)), .val (.int (0 : Int32)), .val (.int c1), .val (.ref d), .val (.int (2 : Int32)), .val (.int (0 : Int32)), .val (.int c0)] [(.long (((fun _ => (0 : Int64)) ((c0 / (64 : Int32))).toNatClampNeg) ||| ((1 : Int64) <<< (c0 &&& 0x3f).toInt64))), (.int (c0 / (64 : Int32))), (.ref b207)])) rfl rfl (hb hby d3_123)
    have KP218 := Keep.wr KP210 W218 (Or.inr sz_b207)
    have V218 : own_FL Z h218 b207 k207 bz (fun i => if i = ((c0 / (64 : Int32))).toNatClampNeg then (((fun _ => (0 : Int64)) ((c0 / (64 : Int32))).toNatClampNeg) ||| ((1 : Int64) <<< (c0 &&& 0x3f).toInt64)) else (fun _ => (0 : Int64)) i) := own_FL.set Ar217 q217 S217 N217_ H217_ G217 W218
    have N218 := Fr.snoc X218 N210 gn_b207
    obtain ⟨g_0, hS_1, B_0⟩ : ∃ g : Nat → Int64, own_Says g (fun q => (False ∨ c0.toInt = q)) ∧ own_FL Z h218 b207 k207 bz g := ⟨_, own_saysS hS_0 (by omega : 0 ≤ c0.toInt), V218⟩
    have Fx219 := (Fx211.other W218 ne_d_b207)
    have Vc220 := Fx219
    obtain ⟨cl220, Ar220, q220, S220, N220_, H220_, G220⟩ := Vc220
    have hin220 : ¬ ((1 : Int32) < 0 ∨ cl220.slots.size ≤ ((1 : Int32)).toNatClampNeg) := inb_of S220 ⟨by decide, by decide⟩
    have hat220 : cl220.slots[((1 : Int32)).toNatClampNeg]? = some (.int c1) := Has.at H220_ hin220 rfl
    have Fx221 := (Fw210.other W218 (Or.inl ne_a1_b207))
    obtain ⟨T222, X222, e222, st222⟩ := getF X218 hx hZ hown (host := "") (Or.inl (own_q hw 27 rfl)) Via.refl e218 Fx221 (g := (mkF m 108 #[.val (.ref a1), .val (.int (1 : Int32)), .val (.ref d), .val (.int (0 : Int32)), .val (.int (0 : Int32)), .val (.int c1), .val (.ref d), .val (.int (2 : Int32)), .val (.int (1 : Int32)), .val (.int c1)] [(.ref a1)])) rfl rfl (hb hby d3_108)
    have Vc223 := B_0
    obtain ⟨cl223, Ar223, q223, S223, N223_, H223_, G223⟩ := Vc223
    have hin223 : ¬ ((c1 / (64 : Int32)) < 0 ∨ cl223.slots.size ≤ ((c1 / (64 : Int32))).toNatClampNeg) := inb_of S223 ⟨(own_nn (by have := own_div64 c1 (by omega); omega)), (own_lt32 (by have := own_div64 c1 (by omega); omega))⟩
    have Vc224 := B_0
    obtain ⟨cl224, Ar224, q224, S224, N224_, H224_, G224⟩ := Vc224
    have hin224 : ¬ ((c1 / (64 : Int32)) < 0 ∨ cl224.slots.size ≤ ((c1 / (64 : Int32))).toNatClampNeg) := inb_of S224 ⟨(own_nn (by have := own_div64 c1 (by omega); omega)), (own_lt32 (by have := own_div64 c1 (by omega); omega))⟩
    obtain ⟨T225, h225, X225, e225, W225, st225⟩ := stJ X222 hx hZ e222 Ar224 (j := (c1 / (64 : Int32))) hin224 (g := (mkF m 123 #[.val (.ref a1), .val (.int (1 : Int32)), .val (.ref d), .val (.int (0 : Int32)), .val (.int (0 : Int32)), .val (.int c1), .val (.ref d), .val (.int (2 : Int32)), .val (.int (1 : Int32)), .val (.int c1)] [(.long ((g_0 ((c1 / (64 : Int32))).toNatClampNeg) ||| ((1 : Int64) <<< (c1 &&& 0x3f).toInt64))), (.int (c1 / (64 : Int32))), (.ref b207)])) rfl rfl (hb hby d3_123)
    have KP225 := Keep.wr KP218 W225 (Or.inr sz_b207)
    have V225 : own_FL Z h225 b207 k207 bz (fun i => if i = ((c1 / (64 : Int32))).toNatClampNeg then ((g_0 ((c1 / (64 : Int32))).toNatClampNeg) ||| ((1 : Int64) <<< (c1 &&& 0x3f).toInt64)) else g_0 i) := own_FL.set Ar224 q224 S224 N224_ H224_ G224 W225
    have N225 := Fr.snoc X225 N218 gn_b207
    obtain ⟨g_1, hS_2, B_1⟩ : ∃ g : Nat → Int64, own_Says g (fun q => ((False ∨ c0.toInt = q) ∨ c1.toInt = q)) ∧ own_FL Z h225 b207 k207 bz g := ⟨_, own_saysS hS_1 (by omega : 0 ≤ c1.toInt), V225⟩
    have Fx226 := (Fx221.other W225 (Or.inl ne_a1_b207))
    have Fx227 := (((Fx208.wr W210).wr W218).wr W225)
    have Fx228 := ((((((Fw186.other W189 (Or.inr (slot_ne (Or.inr (own_q hw 21 rfl)) (Or.inr (own_q hw 23 rfl)) (by decide) (t := (.array .int)) (t' := .boolean) (by decide) (by decide)))).other W192 (Or.inr (slot_ne (Or.inr (own_q hw 21 rfl)) (Or.inr (own_q hw 25 rfl)) (by decide) (t := (.array .int)) (t' := .boolean) (by decide) (by decide)))).ext E207).other W210 (Or.inr (slot_ne (Or.inr (own_q hw 21 rfl)) (Or.inr (own_q hw 28 rfl)) (by decide) (t := (.array .int)) (t' := (.array .long)) (by decide) (by decide)))).other W218 (Or.inl ne_a1_b207)).other W225 (Or.inl ne_a1_b207))
    obtain ⟨fs, hr, hrun, hended, hW, hsame⟩ := X225.leave (v := none) (fun _ => rfl)
    refine ⟨_, _, ck200 _ ?_, hrun, hended, _, _, rfl, ?_, ⟨_, rfl⟩, hW, hsame.mono (by decide) (by decide)⟩
    · refine XS.icmpNo X192.here hx rfl (hb hby d3_66) rfl (flt hc66_199).2.2.1 ?_
      refine XS.aloadN X192.here hx rfl (hb hby d3_69) rfl rfl ?_
      refine XS.iload X192.here hx rfl (hb hby d3_70) rfl ?_
      refine XS.bipush X192.here hx rfl (hb hby d3_72) ?_
      refine XS.idiv X192.here hx rfl (hb hby d3_74) rfl (by decide) ?_
      refine XS.iconst X192.here hx rfl (hb hby d3_75) ?_
      refine XS.iadd X192.here hx rfl (hb hby d3_76) rfl ?_
      show Steps p.tables e below (T192.setTop (mkF m 77 #[.val (.ref a1), .val (.int (1 : Int32)), .val (.ref d), .val (.int (0 : Int32)), .val (.int (0 : Int32)), .val (.int c1), .unset, .unset, .unset, .unset] [(.int ((c1 / (64 : Int32)) + (1 : Int32))), (.ref a1)])) _
      rw [h_bz]
      show Steps p.tables e below (T192.setTop (mkF m 77 #[.val (.ref a1), .val (.int (1 : Int32)), .val (.ref d), .val (.int (0 : Int32)), .val (.int (0 : Int32)), .val (.int c1), .unset, .unset, .unset, .unset] [(.int bz), (.ref a1)])) _
      refine st207 _ ?_
      show Steps p.tables e below (T207.setTop (mkF m 79 #[.val (.ref a1), .val (.int (1 : Int32)), .val (.ref d), .val (.int (0 : Int32)), .val (.int (0 : Int32)), .val (.int c1), .unset, .unset, .unset, .unset] [(.ref b207), (.ref a1)])) _
      refine st210 _ ?_
      show Steps p.tables e below (T210.setTop (mkF m 82 #[.val (.ref a1), .val (.int (1 : Int32)), .val (.ref d), .val (.int (0 : Int32)), .val (.int (0 : Int32)), .val (.int c1), .unset, .unset, .unset, .unset] [])) _
      refine XS.aloadN X210.here hx rfl (hb hby d3_82) rfl rfl ?_
      refine XS.astore X210.here hx rfl (hb hby d3_83) rfl rfl (l' := #[.val (.ref a1), .val (.int (1 : Int32)), .val (.ref d), .val (.int (0 : Int32)), .val (.int (0 : Int32)), .val (.int c1), .val (.ref d), .unset, .unset, .unset]) rfl ?_
      refine XS.aload X210.here hx rfl (hb hby d3_85) rfl rfl ?_
      refine X210.arraylength hx (by rw [e210]; exact Ar212.1) (State.isArrayOf_alike hZ.alike Ar212.2.1) (g := (mkF m 87 #[.val (.ref a1), .val (.int (1 : Int32)), .val (.ref d), .val (.int (0 : Int32)), .val (.int (0 : Int32)), .val (.int c1), .val (.ref d), .unset, .unset, .unset] [(.ref d)])) rfl rfl (hb hby d3_87) _ ?_
      rw [len_of S212 N212_]
      show Steps p.tables e below (T210.setTop (mkF m 88 #[.val (.ref a1), .val (.int (1 : Int32)), .val (.ref d), .val (.int (0 : Int32)), .val (.int (0 : Int32)), .val (.int c1), .val (.ref d), .unset, .unset, .unset] [(.int (2 : Int32))])) _
      refine XS.istore X210.here hx rfl (hb hby d3_88) rfl (l' := #[.val (.ref a1), .val (.int (1 : Int32)), .val (.ref d), .val (.int (0 : Int32)), .val (.int (0 : Int32)), .val (.int c1), .val (.ref d), .val (.int (2 : Int32)), .unset, .unset]) rfl ?_
      refine XS.iconst X210.here hx rfl (hb hby d3_90) ?_
      refine XS.istore X210.here hx rfl (hb hby d3_91) rfl (l' := #[.val (.ref a1), .val (.int (1 : Int32)), .val (.ref d), .val (.int (0 : Int32)), .val (.int (0 : Int32)), .val (.int c1), .val (.ref d), .val (.int (2 : Int32)), .val (.int (0 : Int32)), .unset]) rfl ?_
      refine XS.iload X210.here hx rfl (hb hby d3_93) rfl ?_
      refine XS.iload X210.here hx rfl (hb hby d3_95) rfl ?_
      refine XS.icmpNo X210.here hx rfl (hb hby d3_97) rfl (tlt (by decide : (0 : Int32) < (2 : Int32))).2.1 ?_
      refine XS.aload X210.here hx rfl (hb hby d3_100) rfl rfl ?_
      refine XS.iload X210.here hx rfl (hb hby d3_102) rfl ?_
      refine X210.iaload hx (j := (0 : Int32)) (v := (.int c0)) (by rw [e210]; exact Ar213.1) (State.isArrayOf_alike hZ.alike Ar213.2.1) Ar213.2.2 hin213 hat213 (g := (mkF m 104 #[.val (.ref a1), .val (.int (1 : Int32)), .val (.ref d), .val (.int (0 : Int32)), .val (.int (0 : Int32)), .val (.int c1), .val (.ref d), .val (.int (2 : Int32)), .val (.int (0 : Int32)), .unset] [(.int (0 : Int32)), (.ref d)])) rfl rfl (hb hby d3_104) _ ?_
      show Steps p.tables e below (T210.setTop (mkF m 105 #[.val (.ref a1), .val (.int (1 : Int32)), .val (.ref d), .val (.int (0 : Int32)), .val (.int (0 : Int32)), .val (.int c1), .val (.ref d), .val (.int (2 : Int32)), .val (.int (0 : Int32)), .unset] [(.int c0)])) _
      refine XS.istore X210.here hx rfl (hb hby d3_105) rfl (l' := #[.val (.ref a1), .val (.int (1 : Int32)), .val (.ref d), .val (.int (0 : Int32)), .val (.int (0 : Int32)), .val (.int c1), .val (.ref d), .val (.int (2 : Int32)), .val (.int (0 : Int32)), .val (.int c0)]) rfl ?_
      refine XS.aloadN X210.here hx rfl (hb hby d3_107) rfl rfl ?_
      refine st214 _ ?_
      show Steps p.tables e below (T214.setTop (mkF m 111 #[.val (.ref a1), .val (.int (1 : Int32)), .val (.ref d), .val (.int (0 : Int32)), .val (.int (0 : Int32)), .val (.int c1), .val (.ref d), .val (.int (2 : Int32)), .val (.int (0 : Int32)), .val (.int c0)] [(.ref b207)])) _
      refine XS.iload X214.here hx rfl (hb hby d3_111) rfl ?_
      refine XS.bipush X214.here hx rfl (hb hby d3_113) ?_
      refine XS.idiv X214.here hx rfl (hb hby d3_115) rfl (by decide) ?_
      show Steps p.tables e below (T214.setTop (mkF m 116 #[.val (.ref a1), .val (.int (1 : Int32)), .val (.ref d), .val (.int (0 : Int32)), .val (.int (0 : Int32)), .val (.int c1), .val (.ref d), .val (.int (2 : Int32)), .val (.int (0 : Int32)), .val (.int c0)] [(.int (c0 / (64 : Int32))), (.ref b207)])) _
      jvm_step X214.here [X214.here.top, hx, (hb hby d3_116), Value.category]
      show Steps p.tables e below (T214.setTop (mkF m 117 #[.val (.ref a1), .val (.int (1 : Int32)), .val (.ref d), .val (.int (0 : Int32)), .val (.int (0 : Int32)), .val (.int c1), .val (.ref d), .val (.int (2 : Int32)), .val (.int (0 : Int32)), .val (.int c0)] [(.int (c0 / (64 : Int32))), (.ref b207), (.int (c0 / (64 : Int32))), (.ref b207)])) _
      refine X214.laload hx (j := (c0 / (64 : Int32))) (v := (.long ((fun _ => (0 : Int64)) ((c0 / (64 : Int32))).toNatClampNeg))) (by rw [e214]; exact Ar216.1) (State.isArrayOf_alike hZ.alike Ar216.2.1) Ar216.2.2 hin216 (own_FL.at H216_ hin216) (g := (mkF m 117 #[.val (.ref a1), .val (.int (1 : Int32)), .val (.ref d), .val (.int (0 : Int32)), .val (.int (0 : Int32)), .val (.int c1), .val (.ref d), .val (.int (2 : Int32)), .val (.int (0 : Int32)), .val (.int c0)] [(.int (c0 / (64 : Int32))), (.ref b207), (.int (c0 / (64 : Int32))), (.ref b207)])) rfl rfl (hb hby d3_117) _ ?_
      show Steps p.tables e below (T214.setTop (mkF m 118 #[.val (.ref a1), .val (.int (1 : Int32)), .val (.ref d), .val (.int (0 : Int32)), .val (.int (0 : Int32)), .val (.int c1), .val (.ref d), .val (.int (2 : Int32)), .val (.int (0 : Int32)), .val (.int c0)] [(.long ((fun _ => (0 : Int64)) ((c0 / (64 : Int32))).toNatClampNeg)), (.int (c0 / (64 : Int32))), (.ref b207)])) _
      refine XS.lconst X214.here hx rfl (hb hby d3_118) ?_
      refine XS.iload X214.here hx rfl (hb hby d3_119) rfl ?_
      refine XS.lshl X214.here hx rfl (hb hby d3_121) rfl ?_
      refine XS.lor X214.here hx rfl (hb hby d3_122) rfl ?_
      refine st218 _ ?_
      show Steps p.tables e below (T218.setTop (mkF m 124 #[.val (.ref a1), .val (.int (1 : Int32)), .val (.ref d), .val (.int (0 : Int32)), .val (.int (0 : Int32)), .val (.int c1), .val (.ref d), .val (.int (2 : Int32)), .val (.int (0 : Int32)), .val (.int c0)] [])) _
      refine XS.iinc X218.here hx rfl (hb hby d3_124) rfl (l' := #[.val (.ref a1), .val (.int (1 : Int32)), .val (.ref d), .val (.int (0 : Int32)), .val (.int (0 : Int32)), .val (.int c1), .val (.ref d), .val (.int (2 : Int32)), .val (.int (1 : Int32)), .val (.int c0)]) rfl ?_
      refine XS.goto X218.here hx rfl (pc0 := 127) (pc' := 93) rfl (hb hby d3_127) (by decide) (by decide) ?_
      refine XS.iload X218.here hx rfl (hb hby d3_93) rfl ?_
      refine XS.iload X218.here hx rfl (hb hby d3_95) rfl ?_
      refine XS.icmpNo X218.here hx rfl (hb hby d3_97) rfl (tlt (by decide : (1 : Int32) < (2 : Int32))).2.1 ?_
      refine XS.aload X218.here hx rfl (hb hby d3_100) rfl rfl ?_
      refine XS.iload X218.here hx rfl (hb hby d3_102) rfl ?_
      refine X218.iaload hx (j := (1 : Int32)) (v := (.int c1)) (by rw [e218]; exact Ar220.1) (State.isArrayOf_alike hZ.alike Ar220.2.1) Ar220.2.2 hin220 hat220 (g := (mkF m 104 #[.val (.ref a1), .val (.int (1 : Int32)), .val (.ref d), .val (.int (0 : Int32)), .val (.int (0 : Int32)), .val (.int c1), .val (.ref d), .val (.int (2 : Int32)), .val (.int (1 : Int32)), .val (.int c0)] [(.int (1 : Int32)), (.ref d)])) rfl rfl (hb hby d3_104) _ ?_
      show Steps p.tables e below (T218.setTop (mkF m 105 #[.val (.ref a1), .val (.int (1 : Int32)), .val (.ref d), .val (.int (0 : Int32)), .val (.int (0 : Int32)), .val (.int c1), .val (.ref d), .val (.int (2 : Int32)), .val (.int (1 : Int32)), .val (.int c0)] [(.int c1)])) _
      refine XS.istore X218.here hx rfl (hb hby d3_105) rfl (l' := #[.val (.ref a1), .val (.int (1 : Int32)), .val (.ref d), .val (.int (0 : Int32)), .val (.int (0 : Int32)), .val (.int c1), .val (.ref d), .val (.int (2 : Int32)), .val (.int (1 : Int32)), .val (.int c1)]) rfl ?_
      refine XS.aloadN X218.here hx rfl (hb hby d3_107) rfl rfl ?_
      refine st222 _ ?_
      show Steps p.tables e below (T222.setTop (mkF m 111 #[.val (.ref a1), .val (.int (1 : Int32)), .val (.ref d), .val (.int (0 : Int32)), .val (.int (0 : Int32)), .val (.int c1), .val (.ref d), .val (.int (2 : Int32)), .val (.int (1 : Int32)), .val (.int c1)] [(.ref b207)])) _
      refine XS.iload X222.here hx rfl (hb hby d3_111) rfl ?_
      refine XS.bipush X222.here hx rfl (hb hby d3_113) ?_
      refine XS.idiv X222.here hx rfl (hb hby d3_115) rfl (by decide) ?_
      show Steps p.tables e below (T222.setTop (mkF m 116 #[.val (.ref a1), .val (.int (1 : Int32)), .val (.ref d), .val (.int (0 : Int32)), .val (.int (0 : Int32)), .val (.int c1), .val (.ref d), .val (.int (2 : Int32)), .val (.int (1 : Int32)), .val (.int c1)] [(.int (c1 / (64 : Int32))), (.ref b207)])) _
      jvm_step X222.here [X222.here.top, hx, (hb hby d3_116), Value.category]
      show Steps p.tables e below (T222.setTop (mkF m 117 #[.val (.ref a1), .val (.int (1 : Int32)), .val (.ref d), .val (.int (0 : Int32)), .val (.int (0 : Int32)), .val (.int c1), .val (.ref d), .val (.int (2 : Int32)), .val (.int (1 : Int32)), .val (.int c1)] [(.int (c1 / (64 : Int32))), (.ref b207), (.int (c1 / (64 : Int32))), (.ref b207)])) _
      refine X222.laload hx (j := (c1 / (64 : Int32))) (v := (.long (g_0 ((c1 / (64 : Int32))).toNatClampNeg))) (by rw [e222]; exact Ar223.1) (State.isArrayOf_alike hZ.alike Ar223.2.1) Ar223.2.2 hin223 (own_FL.at H223_ hin223) (g := (mkF m 117 #[.val (.ref a1), .val (.int (1 : Int32)), .val (.ref d), .val (.int (0 : Int32)), .val (.int (0 : Int32)), .val (.int c1), .val (.ref d), .val (.int (2 : Int32)), .val (.int (1 : Int32)), .val (.int c1)] [(.int (c1 / (64 : Int32))), (.ref b207), (.int (c1 / (64 : Int32))), (.ref b207)])) rfl rfl (hb hby d3_117) _ ?_
      show Steps p.tables e below (T222.setTop (mkF m 118 #[.val (.ref a1), .val (.int (1 : Int32)), .val (.ref d), .val (.int (0 : Int32)), .val (.int (0 : Int32)), .val (.int c1), .val (.ref d), .val (.int (2 : Int32)), .val (.int (1 : Int32)), .val (.int c1)] [(.long (g_0 ((c1 / (64 : Int32))).toNatClampNeg)), (.int (c1 / (64 : Int32))), (.ref b207)])) _
      refine XS.lconst X222.here hx rfl (hb hby d3_118) ?_
      refine XS.iload X222.here hx rfl (hb hby d3_119) rfl ?_
      refine XS.lshl X222.here hx rfl (hb hby d3_121) rfl ?_
      refine XS.lor X222.here hx rfl (hb hby d3_122) rfl ?_
      refine st225 _ ?_
      show Steps p.tables e below (T225.setTop (mkF m 124 #[.val (.ref a1), .val (.int (1 : Int32)), .val (.ref d), .val (.int (0 : Int32)), .val (.int (0 : Int32)), .val (.int c1), .val (.ref d), .val (.int (2 : Int32)), .val (.int (1 : Int32)), .val (.int c1)] [])) _
      refine XS.iinc X225.here hx rfl (hb hby d3_124) rfl (l' := #[.val (.ref a1), .val (.int (1 : Int32)), .val (.ref d), .val (.int (0 : Int32)), .val (.int (0 : Int32)), .val (.int c1), .val (.ref d), .val (.int (2 : Int32)), .val (.int (2 : Int32)), .val (.int c1)]) rfl ?_
      refine XS.goto X225.here hx rfl (pc0 := 127) (pc' := 93) rfl (hb hby d3_127) (by decide) (by decide) ?_
      refine XS.iload X225.here hx rfl (hb hby d3_93) rfl ?_
      refine XS.iload X225.here hx rfl (hb hby d3_95) rfl ?_
      refine XS.icmpYes X225.here hx rfl (pc0 := 97) (pc' := 130) rfl (hb hby d3_97) rfl (flt (by decide : ¬ ((2 : Int32) < (2 : Int32)))).2.1 (by decide) (by decide) ?_
      refine XS.goto X225.here hx rfl (pc0 := 130) (pc' := 138) rfl (hb hby d3_130) (by decide) (by decide) ?_
      exact X225.returnOut hx Bd.returns (hb hby d3_138) hr
    · show own_Init Z a1 (.ref d) (fun h => own_Bits Z h a1 c1.toInt (fun q => c0.toInt = q ∨ c1.toInt = q)) h0 n0 _ T225.heap _
      rw [e225]
      exact ⟨rfl, N225, KP225, Fx227, Fx228, Or.inr ⟨b207, _, bz, _, Fx226, B_1, hbz.1, own_saysC hS_2 (fun q => by simp only [false_or, or_assoc])⟩⟩
theorem ef_rm_tog_2 (m : MethodId) (x0 : Addr) : entryFrame m #[(.ref x0)] 1 = mkF m 0 #[.val (.ref x0)] [] := by first | (simp [entryFrame, mkF, argsToLocals, Value.category]; done) | rfl
set_option maxRecDepth 65536 in
set_option maxHeartbeats 40000000 in
theorem rm_tog_2 (l : Launch) (Z : State) (a0 : Array Value) (hw : ∀ d ∈ tables_1, d.before a0 Z = true) (ws : List Jvm.Cond) (d : Addr) (h0 : Heap) (n0 : Nat) (Z0 : n0 ≤ h0.size) (kd : ClassId) (c0 c1 : Int32) (A_d : Arv Z h0 d kd .int (2 : Int32) [(.int c0), (.int c1)] (.int (0 : Int32))) (hs : 0 ≤ c0.toInt ∧ c0.toInt ≤ c1.toInt) :
    MetFree l (⟨"com/example/cubelet/cubelet/CellStore$Step", "together", "([I)Lcom/example/cubelet/cubelet/CellStore$Step;"⟩ : MethodName) (head1 (Jvm.Cond.code (⟨"com/example/cubelet/cubelet/CellStore$Step", "together", "([I)Lcom/example/cubelet/cubelet/CellStore$Step;"⟩ : MethodName) prog_13_method_3_code 1 (some (.object "com/example/cubelet/cubelet/CellStore$Step")) :: ws) ({ frames := 2, cells := 2, slots := 38, locals := 34 } : Room)) (fun aQ UQ => aQ = #[(.ref d)] ∧ Z.Warmed39 UQ.vm ∧ UQ.heap = h0) (fun _ _ _ _ _ => True) (fun _ UQ oQ UR => ∃ vQ LQ, oQ = .returned vQ ∧ own_Tog Z (.ref d) (fun a => (fun h => own_Bits Z h a c1.toInt (fun q => c0.toInt = q ∨ c1.toInt = q))) h0 n0 vQ UR.heap LQ ∧ FrameEnd UQ oQ UR LQ ({ frames := 2, cells := 2, slots := 38, locals := 34 } : Room).cells ({ frames := 2, cells := 2, slots := 38, locals := 34 } : Room).slots) := by
  refine MetFree.of_bodySF (plainFor_of_name pn_72) hisR ?_
  intro p e s m args below meth c s₁ Bd hml0 hP hK
  obtain ⟨rfl, hZ, hh⟩ := hP
  have hx := Bd.exec
  have hby := Bd.bytes
  have hml : c.maxLocals = 1 := hml0
  have hown : s.vm.findClass "com/example/cubelet/cubelet/CellStore$Step" = some m.cls := findClass_of_methodNamed Bd.named
  have hnm := (name_of_methodNamed Bd.named Bd.method).1
  have X0 : Stand p l e ({ frames := 2, cells := 2, slots := 38, locals := 34 } : Room) s m #[(.ref d)] below meth c s₁ [] 0 0 := Stand.of_body Bd
  have e0 : s₁.heap = h0 := by rw [← hh, Bd.state]; rfl
  have N0 := Fr.nil n0
  have pre0 : ∀ t, Steps p.tables e below (s₁.setTop (mkF m 0 #[.val (.ref d)] [])) t → Steps p.tables e below (s₁.setTop (entryFrame m #[(.ref d)] 1)) t := fun t kq => castTop (ef_rm_tog_2 m d) kq
  obtain ⟨T229, h229, X229, e229, E229, A229, D229, -, st229⟩ := newO X0 hx hZ hown (own_q hw 10 rfl) (own_q hw 11 rfl) (own_q hw 8 rfl) e0 (g := (mkF m 0 #[.val (.ref d)] [])) rfl (hb hby d2_0) (by decide) (by decide)
  obtain ⟨b229, g229⟩ : ∃ z, z = h0.size := ⟨_, rfl⟩
  rw [← g229] at A229 D229 st229
  have sz_b229 : h0.size ≤ b229 := Nat.le_trans (Keep.refl h0 []).1 (Nat.le_of_eq g229.symm)
  have gn_b229 : n0 ≤ b229 := Nat.le_trans Z0 sz_b229
  have ne_d_b229 : d ≠ b229 := Nat.ne_of_lt (Nat.lt_of_lt_of_le A_d.lt (Nat.le_of_eq g229.symm))
  have EX229 := own_ext_trans (own_ext_refl h0) E229
  have KP229 := Keep.ext (Keep.refl h0 []) E229
  have F229_takesValues : Fld Z h229 b229 "com/example/cubelet/cubelet/CellStore$Step" "takesValues" "Z" (.int (0 : Int32)) := D229 (Or.inr (own_q hw 19 rfl)) (ty := .boolean) (by decide)
  have F229_codes : Fld Z h229 b229 "com/example/cubelet/cubelet/CellStore$Step" "codes" "[I" .null := D229 (Or.inr (own_q hw 21 rfl)) (ty := (.array .int)) (by decide)
  have F229_takesAll : Fld Z h229 b229 "com/example/cubelet/cubelet/CellStore$Step" "takesAll" "Z" (.int (0 : Int32)) := D229 (Or.inr (own_q hw 23 rfl)) (ty := .boolean) (by decide)
  have F229_apart : Fld Z h229 b229 "com/example/cubelet/cubelet/CellStore$Step" "apart" "Z" (.int (0 : Int32)) := D229 (Or.inr (own_q hw 25 rfl)) (ty := .boolean) (by decide)
  have F229_bits : Fld Z h229 b229 "com/example/cubelet/cubelet/CellStore$Step" "bits" "[J" .null := D229 (Or.inr (own_q hw 28 rfl)) (ty := (.array .long)) (by decide)
  have Fx230 := (A_d.ext E229)
  obtain ⟨_, _, ⟨T231, L231, k231, n231⟩, -, X231, ⟨Lc231, hQ231, l231, y231, z231⟩, st231⟩ := X229.specialBack hx (y := (⟨"com/example/cubelet/cubelet/CellStore$Step", "<init>", "(Z[IZZ)V"⟩ : MethodName)) rfl hown (mvT hZ (own_q hw 12 rfl)) (mvT hZ (own_q hw 13 rfl)) (mvT hZ (own_q hw 14 rfl)) (by decide) (backOf (W := 1) (rm_ini_2 l Z a0 hw [] b229 d h229 n0 (Nat.le_trans Z0 EX229.1) A229 F229_takesValues F229_takesAll F229_apart F229_codes F229_bits gn_b229 kd c0 c1 Fx230 hs (Ne.symm ne_d_b229)) hZ (own_q hw 14 rfl) (own_q hw 8 rfl) (by decide) (by decide)) (g := (mkF m 8 #[.val (.ref d)] [(.int (0 : Int32)), (.int (0 : Int32)), (.ref d), (.int (1 : Int32)), (.ref b229), (.ref b229)])) rfl (by rw [hml]; rfl) (Steps.refl _) (a := b229) (argsL := [(.int (1 : Int32)), (.ref d), (.int (0 : Int32)), (.int (0 : Int32))]) (rest := [(.ref b229)]) (lenOf pd_156 rfl) rfl (by show 2 * 0 + _ ≤ _; exact Nat.le_of_eq rfl) (hb hby d2_8) (fun _ _ => ⟨rfl, e229, (by decide : 1 + 1 ≤ _), (by decide : 5 + 33 ≤ _)⟩)
  dsimp only [Pt.U, Pt.locs, Pt.cells, Pt.slots] at X231 l231 y231 z231 st231 hQ231
  subst l231 y231 z231
  obtain ⟨rfl, N231q, K231, E231, Fc231, hB231⟩ := hQ231
  have N231 := Fr.app N0 N231q
  have e231 : T231.heap = T231.heap := rfl
  have EX231 := own_ext_keep EX229 K231 (allS sz_b229 all0)
  have KP231 := Keep.trans KP229 K231 (allS (Or.inr sz_b229) all0)
  obtain ⟨fs, hr, hrun, hended, hW, hsame⟩ := X231.leave (v := some (.ref b229)) (fun h => by rw [Bd.returns] at h; cases h)
  refine ⟨_, _, pre0 _ ?_, hrun, hended, _, _, rfl, ?_, ⟨_, rfl⟩, hW, hsame.mono (by decide) (by decide)⟩
  · refine st229 _ ?_
    show Steps p.tables e below (T229.setTop (mkF m 3 #[.val (.ref d)] [(.ref b229)])) _
    refine XS.dup X229.here hx rfl (hb hby d2_3) rfl rfl ?_
    refine XS.iconst X229.here hx rfl (hb hby d2_4) ?_
    refine XS.aloadN X229.here hx rfl (hb hby d2_5) rfl rfl ?_
    refine XS.iconst X229.here hx rfl (hb hby d2_6) ?_
    refine XS.iconst X229.here hx rfl (hb hby d2_7) ?_
    refine st231.trans ?_
    show Steps p.tables e below (T231.setTop (mkF m 11 #[.val (.ref d)] [(.ref b229)])) _
    exact retOut X231 hx Bd.returns rfl (Or.inr (Or.inr (Or.inr (Or.inr ⟨rfl, rfl, rfl⟩)))) (hb hby d2_11) hr
  · show own_Tog Z (.ref d) (fun a => (fun h => own_Bits Z h a c1.toInt (fun q => c0.toInt = q ∨ c1.toInt = q))) h0 n0 _ T231.heap _
    exact ⟨b229, rfl, N231, EX231, E231, Fc231, hB231⟩
theorem ef_rm_ini_3 (m : MethodId) (x0 : Addr) (x2 : Addr) : entryFrame m #[(.ref x0), (.int (1 : Int32)), (.ref x2), (.int (0 : Int32)), (.int (0 : Int32))] 10 = mkF m 0 #[.val (.ref x0), .val (.int (1 : Int32)), .val (.ref x2), .val (.int (0 : Int32)), .val (.int (0 : Int32)), .unset, .unset, .unset, .unset, .unset] [] := by first | (simp [entryFrame, mkF, argsToLocals, Value.category]; done) | rfl
set_option maxRecDepth 65536 in
set_option maxHeartbeats 40000000 in
theorem rm_ini_3 (l : Launch) (Z : State) (a0 : Array Value) (hw : ∀ d ∈ tables_1, d.before a0 Z = true) (ws : List Jvm.Cond) (a1 : Addr) (d : Addr) (h0 : Heap) (n0 : Nat) (Z0 : n0 ≤ h0.size) (E_a : Exa Z h0 a1 "com/example/cubelet/cubelet/CellStore$Step") (F_takesValues : Fld Z h0 a1 "com/example/cubelet/cubelet/CellStore$Step" "takesValues" "Z" (.int (0 : Int32))) (F_takesAll : Fld Z h0 a1 "com/example/cubelet/cubelet/CellStore$Step" "takesAll" "Z" (.int (0 : Int32))) (F_apart : Fld Z h0 a1 "com/example/cubelet/cubelet/CellStore$Step" "apart" "Z" (.int (0 : Int32))) (F_codes : Fld Z h0 a1 "com/example/cubelet/cubelet/CellStore$Step" "codes" "[I" .null) (F_bits : Fld Z h0 a1 "com/example/cubelet/cubelet/CellStore$Step" "bits" "[J" .null) (gn_a : n0 ≤ a1) (kd : ClassId) (c0 c1 c2 : Int32) (A_d : Arv Z h0 d kd .int (3 : Int32) [(.int c0), (.int c1), (.int c2)] (.int (0 : Int32))) (hs : 0 ≤ c0.toInt ∧ c0.toInt ≤ c1.toInt ∧ c1.toInt ≤ c2.toInt) (nad : a1 ≠ d) :
    MetFree l (⟨"com/example/cubelet/cubelet/CellStore$Step", "<init>", "(Z[IZZ)V"⟩ : MethodName) (head1 (Jvm.Cond.code (⟨"com/example/cubelet/cubelet/CellStore$Step", "<init>", "(Z[IZZ)V"⟩ : MethodName) prog_13_method_1_code 10 none :: ws) ({ frames := 1, cells := 1, slots := 33, locals := 12 } : Room)) (fun aQ UQ => aQ = #[(.ref a1), (.int (1 : Int32)), (.ref d), (.int (0 : Int32)), (.int (0 : Int32))] ∧ Z.Warmed39 UQ.vm ∧ UQ.heap = h0) (fun _ _ _ _ _ => True) (fun _ UQ oQ UR => ∃ vQ LQ, oQ = .returned vQ ∧ own_Init Z a1 (.ref d) (fun h => own_Bits Z h a1 c2.toInt (fun q => c0.toInt = q ∨ c1.toInt = q ∨ c2.toInt = q)) h0 n0 vQ UR.heap LQ ∧ FrameEnd UQ oQ UR LQ ({ frames := 1, cells := 1, slots := 33, locals := 12 } : Room).cells ({ frames := 1, cells := 1, slots := 33, locals := 12 } : Room).slots) := by
  refine MetFree.of_bodySF (plainFor_of_name pn_72) hisR ?_
  intro p e s m args below meth c s₁ Bd hml0 hP hK
  obtain ⟨rfl, hZ, hh⟩ := hP
  have hx := Bd.exec
  have hby := Bd.bytes
  have hml : c.maxLocals = 10 := hml0
  have hown : s.vm.findClass "com/example/cubelet/cubelet/CellStore$Step" = some m.cls := findClass_of_methodNamed Bd.named
  have hnm := (name_of_methodNamed Bd.named Bd.method).1
  have X0 : Stand p l e ({ frames := 1, cells := 1, slots := 33, locals := 12 } : Room) s m #[(.ref a1), (.int (1 : Int32)), (.ref d), (.int (0 : Int32)), (.int (0 : Int32))] below meth c s₁ [] 0 0 := Stand.of_body Bd
  have e0 : s₁.heap = h0 := by rw [← hh, Bd.state]; rfl
  have N0 := Fr.nil n0
  have pre0 : ∀ t, Steps p.tables e below (s₁.setTop (mkF m 0 #[.val (.ref a1), .val (.int (1 : Int32)), .val (.ref d), .val (.int (0 : Int32)), .val (.int (0 : Int32)), .unset, .unset, .unset, .unset, .unset] [])) t → Steps p.tables e below (s₁.setTop (entryFrame m #[(.ref a1), (.int (1 : Int32)), (.ref d), (.int (0 : Int32)), (.int (0 : Int32))] 10)) t := fun t kq => castTop (ef_rm_ini_3 m a1 d) kq
  obtain ⟨T232, X232, e232, st232⟩ := initO X0 hx hZ hown (own_q hw 15 rfl) (own_q hw 16 rfl) (own_q hw 17 rfl) e0 (g := (mkF m 1 #[.val (.ref a1), .val (.int (1 : Int32)), .val (.ref d), .val (.int (0 : Int32)), .val (.int (0 : Int32)), .unset, .unset, .unset, .unset, .unset] [(.ref a1)])) rfl (by rw [hml]; rfl) rfl (hb hby d3_1) (by decide) (W := 0) (by show 2 * 0 + _ ≤ _; exact Nat.le_of_eq rfl) (by decide)
  obtain ⟨T233, h233, X233, e233, W233, st233⟩ := putFN X232 hx hZ hown (own_q hw 18 rfl) Via.refl e232 F_takesValues E_a (Or.inr ⟨(own_q hw 19 rfl), rfl, hnm⟩) (own_q hw 11 rfl) (ty := .boolean) (v' := (.int (1 : Int32))) (by decide) rfl rfl (g := (mkF m 6 #[.val (.ref a1), .val (.int (1 : Int32)), .val (.ref d), .val (.int (0 : Int32)), .val (.int (0 : Int32)), .unset, .unset, .unset, .unset, .unset] [(.int (1 : Int32)), (.ref a1)])) rfl rfl (hb hby d3_6)
  have KP233 := Keep.wr (Keep.refl h0 [a1]) W233 (Or.inl (List.mem_of_getElem? (i := 0) rfl))
  have Fw233 := F_takesValues.same W233
  have N233 := Fr.snoc X233 N0 gn_a
  have Fx234 := (E_a.wr W233)
  have Fx235 := (F_codes.other W233 (Or.inr (slot_ne (Or.inr (own_q hw 21 rfl)) (Or.inr (own_q hw 19 rfl)) (by decide) (t := (.array .int)) (t' := .boolean) (by decide) (by decide))))
  obtain ⟨T236, h236, X236, e236, W236, st236⟩ := putF X233 hx hZ hown (host := "") (Or.inl (own_q hw 20 rfl)) Via.refl e233 Fx235 Fx234 (Or.inr ⟨(own_q hw 21 rfl), rfl, hnm⟩) (own_q hw 11 rfl) (ty := (.array .int)) (by decide) rfl rfl (g := (mkF m 11 #[.val (.ref a1), .val (.int (1 : Int32)), .val (.ref d), .val (.int (0 : Int32)), .val (.int (0 : Int32)), .unset, .unset, .unset, .unset, .unset] [(.ref d), (.ref a1)])) rfl rfl (hb hby d3_11)
  have KP236 := Keep.wr KP233 W236 (Or.inl (List.mem_of_getElem? (i := 0) rfl))
  have Fw236 := Fx235.same W236
  have N236 := Fr.snoc X236 N233 gn_a
  have Fx237 := (Fx234.wr W236)
  have Fx238 := ((F_takesAll.other W233 (Or.inr (slot_ne (Or.inr (own_q hw 23 rfl)) (Or.inr (own_q hw 19 rfl)) (by decide) (t := .boolean) (t' := .boolean) (by decide) (by decide)))).other W236 (Or.inr (slot_ne (Or.inr (own_q hw 23 rfl)) (Or.inr (own_q hw 21 rfl)) (by decide) (t := .boolean) (t' := (.array .int)) (by decide) (by decide))))
  obtain ⟨T239, h239, X239, e239, W239, st239⟩ := putFN X236 hx hZ hown (own_q hw 22 rfl) Via.refl e236 Fx238 Fx237 (Or.inr ⟨(own_q hw 23 rfl), rfl, hnm⟩) (own_q hw 11 rfl) (ty := .boolean) (v' := (.int (0 : Int32))) (by decide) rfl rfl (g := (mkF m 16 #[.val (.ref a1), .val (.int (1 : Int32)), .val (.ref d), .val (.int (0 : Int32)), .val (.int (0 : Int32)), .unset, .unset, .unset, .unset, .unset] [(.int (0 : Int32)), (.ref a1)])) rfl rfl (hb hby d3_16)
  have KP239 := Keep.wr KP236 W239 (Or.inl (List.mem_of_getElem? (i := 0) rfl))
  have Fw239 := Fx238.same W239
  have N239 := Fr.snoc X239 N236 gn_a
  have Fx240 := (Fx237.wr W239)
  have Fx241 := (((F_apart.other W233 (Or.inr (slot_ne (Or.inr (own_q hw 25 rfl)) (Or.inr (own_q hw 19 rfl)) (by decide) (t := .boolean) (t' := .boolean) (by decide) (by decide)))).other W236 (Or.inr (slot_ne (Or.inr (own_q hw 25 rfl)) (Or.inr (own_q hw 21 rfl)) (by decide) (t := .boolean) (t' := (.array .int)) (by decide) (by decide)))).other W239 (Or.inr (slot_ne (Or.inr (own_q hw 25 rfl)) (Or.inr (own_q hw 23 rfl)) (by decide) (t := .boolean) (t' := .boolean) (by decide) (by decide))))
  obtain ⟨T242, h242, X242, e242, W242, st242⟩ := putFN X239 hx hZ hown (own_q hw 24 rfl) Via.refl e239 Fx241 Fx240 (Or.inr ⟨(own_q hw 25 rfl), rfl, hnm⟩) (own_q hw 11 rfl) (ty := .boolean) (v' := (.int (0 : Int32))) (by decide) rfl rfl (g := (mkF m 22 #[.val (.ref a1), .val (.int (1 : Int32)), .val (.ref d), .val (.int (0 : Int32)), .val (.int (0 : Int32)), .unset, .unset, .unset, .unset, .unset] [(.int (0 : Int32)), (.ref a1)])) rfl rfl (hb hby d3_22)
  have KP242 := Keep.wr KP239 W242 (Or.inl (List.mem_of_getElem? (i := 0) rfl))
  have Fw242 := Fx241.same W242
  have N242 := Fr.snoc X242 N239 gn_a
  have Fx243 := ((((A_d.other W233 (Ne.symm nad)).other W236 (Ne.symm nad)).other W239 (Ne.symm nad)).other W242 (Ne.symm nad))
  have Vc244 := Fx243
  obtain ⟨cl244, Ar244, q244, S244, N244_, H244_, G244⟩ := Vc244
  have Vc245 := Fx243
  obtain ⟨cl245, Ar245, q245, S245, N245_, H245_, G245⟩ := Vc245
  have Vc246 := Fx243
  obtain ⟨cl246, Ar246, q246, S246, N246_, H246_, G246⟩ := Vc246
  have hin246 : ¬ ((2 : Int32) < 0 ∨ cl246.slots.size ≤ ((2 : Int32)).toNatClampNeg) := inb_of S246 ⟨by decide, by decide⟩
  have hat246 : cl246.slots[((2 : Int32)).toNatClampNeg]? = some (.int c2) := Has.at H246_ hin246 rfl
  have Vc247 := Fx243
  obtain ⟨cl247, Ar247, q247, S247, N247_, H247_, G247⟩ := Vc247
  have Vc248 := Fx243
  obtain ⟨cl248, Ar248, q248, S248, N248_, H248_, G248⟩ := Vc248
  have ck250 : ∀ t, Steps p.tables e below (T242.setTop (mkF m 66 #[.val (.ref a1), .val (.int (1 : Int32)), .val (.ref d), .val (.int (0 : Int32)), .val (.int (0 : Int32)), .val (.int c2), .unset, .unset, .unset, .unset] [(.int (48 : Int32)), (.int (c2 / (32 : Int32)))])) t → Steps p.tables e below (s₁.setTop (entryFrame m #[(.ref a1), (.int (1 : Int32)), (.ref d), (.int (0 : Int32)), (.int (0 : Int32))] 10)) t := by
    intro t kt
    refine pre0 _ ?_
    refine XS.aloadN X0.here hx rfl (hb hby d3_0) rfl rfl ?_
    refine st232 _ ?_
    show Steps p.tables e below (T232.setTop (mkF m 4 #[.val (.ref a1), .val (.int (1 : Int32)), .val (.ref d), .val (.int (0 : Int32)), .val (.int (0 : Int32)), .unset, .unset, .unset, .unset, .unset] [])) _
    refine XS.aloadN X232.here hx rfl (hb hby d3_4) rfl rfl ?_
    refine XS.iloadN X232.here hx rfl (hb hby d3_5) rfl ?_
    refine st233 _ ?_
    show Steps p.tables e below (T233.setTop (mkF m 9 #[.val (.ref a1), .val (.int (1 : Int32)), .val (.ref d), .val (.int (0 : Int32)), .val (.int (0 : Int32)), .unset, .unset, .unset, .unset, .unset] [])) _
    refine XS.aloadN X233.here hx rfl (hb hby d3_9) rfl rfl ?_
    refine XS.aloadN X233.here hx rfl (hb hby d3_10) rfl rfl ?_
    refine st236 _ ?_
    show Steps p.tables e below (T236.setTop (mkF m 14 #[.val (.ref a1), .val (.int (1 : Int32)), .val (.ref d), .val (.int (0 : Int32)), .val (.int (0 : Int32)), .unset, .unset, .unset, .unset, .unset] [])) _
    refine XS.aloadN X236.here hx rfl (hb hby d3_14) rfl rfl ?_
    refine XS.iloadN X236.here hx rfl (hb hby d3_15) rfl ?_
    refine st239 _ ?_
    show Steps p.tables e below (T239.setTop (mkF m 19 #[.val (.ref a1), .val (.int (1 : Int32)), .val (.ref d), .val (.int (0 : Int32)), .val (.int (0 : Int32)), .unset, .unset, .unset, .unset, .unset] [])) _
    refine XS.aloadN X239.here hx rfl (hb hby d3_19) rfl rfl ?_
    refine XS.iload X239.here hx rfl (hb hby d3_20) rfl ?_
    refine st242 _ ?_
    show Steps p.tables e below (T242.setTop (mkF m 25 #[.val (.ref a1), .val (.int (1 : Int32)), .val (.ref d), .val (.int (0 : Int32)), .val (.int (0 : Int32)), .unset, .unset, .unset, .unset, .unset] [])) _
    refine XS.aloadN X242.here hx rfl (hb hby d3_25) rfl rfl ?_
    refine XS.ifnullNo X242.here hx rfl (hb hby d3_26) rfl ?_
    refine XS.aloadN X242.here hx rfl (hb hby d3_29) rfl rfl ?_
    refine X242.arraylength hx (by rw [e242]; exact Ar244.1) (State.isArrayOf_alike hZ.alike Ar244.2.1) (g := (mkF m 30 #[.val (.ref a1), .val (.int (1 : Int32)), .val (.ref d), .val (.int (0 : Int32)), .val (.int (0 : Int32)), .unset, .unset, .unset, .unset, .unset] [(.ref d)])) rfl rfl (hb hby d3_30) _ ?_
    rw [len_of S244 N244_]
    show Steps p.tables e below (T242.setTop (mkF m 31 #[.val (.ref a1), .val (.int (1 : Int32)), .val (.ref d), .val (.int (0 : Int32)), .val (.int (0 : Int32)), .unset, .unset, .unset, .unset, .unset] [(.int (3 : Int32))])) _
    refine XS.ifYes X242.here hx rfl (pc0 := 31) (pc' := 38) rfl (hb hby d3_31) rfl ((if0 _ _).trans (feq (by decide : ¬ ((3 : Int32) = (0 : Int32)))).2) (by decide) (by decide) ?_
    refine XS.aloadN X242.here hx rfl (hb hby d3_38) rfl rfl ?_
    refine XS.aloadN X242.here hx rfl (hb hby d3_39) rfl rfl ?_
    refine X242.arraylength hx (by rw [e242]; exact Ar245.1) (State.isArrayOf_alike hZ.alike Ar245.2.1) (g := (mkF m 40 #[.val (.ref a1), .val (.int (1 : Int32)), .val (.ref d), .val (.int (0 : Int32)), .val (.int (0 : Int32)), .unset, .unset, .unset, .unset, .unset] [(.ref d), (.ref d)])) rfl rfl (hb hby d3_40) _ ?_
    rw [len_of S245 N245_]
    show Steps p.tables e below (T242.setTop (mkF m 41 #[.val (.ref a1), .val (.int (1 : Int32)), .val (.ref d), .val (.int (0 : Int32)), .val (.int (0 : Int32)), .unset, .unset, .unset, .unset, .unset] [(.int (3 : Int32)), (.ref d)])) _
    refine XS.iconst X242.here hx rfl (hb hby d3_41) ?_
    refine XS.isub X242.here hx rfl (hb hby d3_42) rfl ?_
    refine X242.iaload hx (j := (2 : Int32)) (v := (.int c2)) (by rw [e242]; exact Ar246.1) (State.isArrayOf_alike hZ.alike Ar246.2.1) Ar246.2.2 hin246 hat246 (g := (mkF m 43 #[.val (.ref a1), .val (.int (1 : Int32)), .val (.ref d), .val (.int (0 : Int32)), .val (.int (0 : Int32)), .unset, .unset, .unset, .unset, .unset] [(.int (2 : Int32)), (.ref d)])) rfl rfl (hb hby d3_43) _ ?_
    show Steps p.tables e below (T242.setTop (mkF m 44 #[.val (.ref a1), .val (.int (1 : Int32)), .val (.ref d), .val (.int (0 : Int32)), .val (.int (0 : Int32)), .unset, .unset, .unset, .unset, .unset] [(.int c2)])) _
    refine XS.istore X242.here hx rfl (hb hby d3_44) rfl (l' := #[.val (.ref a1), .val (.int (1 : Int32)), .val (.ref d), .val (.int (0 : Int32)), .val (.int (0 : Int32)), .val (.int c2), .unset, .unset, .unset, .unset]) rfl ?_
    refine XS.aloadN X242.here hx rfl (hb hby d3_46) rfl rfl ?_
    refine XS.ifnullNo X242.here hx rfl (hb hby d3_47) rfl ?_
    refine XS.aloadN X242.here hx rfl (hb hby d3_50) rfl rfl ?_
    refine X242.arraylength hx (by rw [e242]; exact Ar247.1) (State.isArrayOf_alike hZ.alike Ar247.2.1) (g := (mkF m 51 #[.val (.ref a1), .val (.int (1 : Int32)), .val (.ref d), .val (.int (0 : Int32)), .val (.int (0 : Int32)), .val (.int c2), .unset, .unset, .unset, .unset] [(.ref d)])) rfl rfl (hb hby d3_51) _ ?_
    rw [len_of S247 N247_]
    show Steps p.tables e below (T242.setTop (mkF m 52 #[.val (.ref a1), .val (.int (1 : Int32)), .val (.ref d), .val (.int (0 : Int32)), .val (.int (0 : Int32)), .val (.int c2), .unset, .unset, .unset, .unset] [(.int (3 : Int32))])) _
    refine XS.iconst X242.here hx rfl (hb hby d3_52) ?_
    refine XS.icmpNo X242.here hx rfl (hb hby d3_53) rfl (tlt (by decide : (1 : Int32) < (3 : Int32))).2.2.2 ?_
    refine XS.iload X242.here hx rfl (hb hby d3_56) rfl ?_
    refine XS.bipush X242.here hx rfl (hb hby d3_58) ?_
    refine XS.idiv X242.here hx rfl (hb hby d3_60) rfl (by decide) ?_
    refine XS.bipush X242.here hx rfl (hb hby d3_61) ?_
    refine XS.aloadN X242.here hx rfl (hb hby d3_63) rfl rfl ?_
    refine X242.arraylength hx (by rw [e242]; exact Ar248.1) (State.isArrayOf_alike hZ.alike Ar248.2.1) (g := (mkF m 64 #[.val (.ref a1), .val (.int (1 : Int32)), .val (.ref d), .val (.int (0 : Int32)), .val (.int (0 : Int32)), .val (.int c2), .unset, .unset, .unset, .unset] [(.ref d), (.int (16 : Int32)), (.int (c2 / (32 : Int32)))])) rfl rfl (hb hby d3_64) _ ?_
    rw [len_of S248 N248_]
    show Steps p.tables e below (T242.setTop (mkF m 65 #[.val (.ref a1), .val (.int (1 : Int32)), .val (.ref d), .val (.int (0 : Int32)), .val (.int (0 : Int32)), .val (.int c2), .unset, .unset, .unset, .unset] [(.int (3 : Int32)), (.int (16 : Int32)), (.int (c2 / (32 : Int32)))])) _
    refine XS.imul X242.here hx rfl (hb hby d3_65) rfl ?_
    exact kt
  (try clear G248); (try clear H248_); (try clear N248_); (try clear S248); (try clear q248); (try clear Ar248); (try clear cl248); (try clear G247); (try clear H247_); (try clear N247_); (try clear S247); (try clear q247); (try clear Ar247); (try clear cl247); (try clear hat246); (try clear hin246); (try clear G246); (try clear H246_); (try clear N246_); (try clear S246); (try clear q246); (try clear Ar246); (try clear cl246); (try clear G245); (try clear H245_); (try clear N245_); (try clear S245); (try clear q245); (try clear Ar245); (try clear cl245); (try clear G244); (try clear H244_); (try clear N244_); (try clear S244); (try clear q244); (try clear Ar244); (try clear cl244); (try clear st242); (try clear Fx241); (try clear N239); (try clear KP239); (try clear st239); (try clear e239); (try clear X239); (try clear h239); (try clear T239); (try clear Fx238); (try clear Fx237); (try clear N236); (try clear KP236); (try clear st236); (try clear e236); (try clear X236); (try clear h236); (try clear T236); (try clear Fx235); (try clear Fx234); (try clear N233); (try clear KP233); (try clear st233); (try clear e233); (try clear X233); (try clear h233); (try clear T233); (try clear st232); (try clear e232); (try clear X232); (try clear T232)
  by_cases hc66_249 : (48 : Int32) < (c2 / (32 : Int32))
  · -- pc 66: yes
    have Fx251 := (Fx240.wr W242)
    have Fx252 := ((((F_bits.other W233 (Or.inr (slot_ne (Or.inr (own_q hw 28 rfl)) (Or.inr (own_q hw 19 rfl)) (by decide) (t := (.array .long)) (t' := .boolean) (by decide) (by decide)))).other W236 (Or.inr (slot_ne (Or.inr (own_q hw 28 rfl)) (Or.inr (own_q hw 21 rfl)) (by decide) (t := (.array .long)) (t' := (.array .int)) (by decide) (by decide)))).other W239 (Or.inr (slot_ne (Or.inr (own_q hw 28 rfl)) (Or.inr (own_q hw 23 rfl)) (by decide) (t := (.array .long)) (t' := .boolean) (by decide) (by decide)))).other W242 (Or.inr (slot_ne (Or.inr (own_q hw 28 rfl)) (Or.inr (own_q hw 25 rfl)) (by decide) (t := (.array .long)) (t' := .boolean) (by decide) (by decide))))
    obtain ⟨T253, h253, X253, e253, W253, st253⟩ := putF X242 hx hZ hown (host := "") (Or.inl (own_q hw 27 rfl)) Via.refl e242 Fx252 Fx251 (Or.inr ⟨(own_q hw 28 rfl), rfl, hnm⟩) (own_q hw 11 rfl) (ty := (.array .long)) (by decide) rfl rfl (g := (mkF m 135 #[.val (.ref a1), .val (.int (1 : Int32)), .val (.ref d), .val (.int (0 : Int32)), .val (.int (0 : Int32)), .val (.int c2), .unset, .unset, .unset, .unset] [.null, (.ref a1)])) rfl rfl (hb hby d3_135)
    have KP253 := Keep.wr KP242 W253 (Or.inl (List.mem_of_getElem? (i := 0) rfl))
    have Fw253 := Fx252.same W253
    have N253 := Fr.snoc X253 N242 gn_a
    have Fx254 := (Fx251.wr W253)
    have Fx255 := (((Fw236.other W239 (Or.inr (slot_ne (Or.inr (own_q hw 21 rfl)) (Or.inr (own_q hw 23 rfl)) (by decide) (t := (.array .int)) (t' := .boolean) (by decide) (by decide)))).other W242 (Or.inr (slot_ne (Or.inr (own_q hw 21 rfl)) (Or.inr (own_q hw 25 rfl)) (by decide) (t := (.array .int)) (t' := .boolean) (by decide) (by decide)))).other W253 (Or.inr (slot_ne (Or.inr (own_q hw 21 rfl)) (Or.inr (own_q hw 28 rfl)) (by decide) (t := (.array .int)) (t' := (.array .long)) (by decide) (by decide))))
    obtain ⟨fs, hr, hrun, hended, hW, hsame⟩ := X253.leave (v := none) (fun _ => rfl)
    refine ⟨_, _, ck250 _ ?_, hrun, hended, _, _, rfl, ?_, ⟨_, rfl⟩, hW, hsame.mono (by decide) (by decide)⟩
    · refine XS.icmpYes X242.here hx rfl (pc0 := 66) (pc' := 133) rfl (hb hby d3_66) rfl (tlt hc66_249).2.2.1 (by decide) (by decide) ?_
      refine XS.aloadN X242.here hx rfl (hb hby d3_133) rfl rfl ?_
      refine XS.aconstNull X242.here hx rfl (hb hby d3_134) ?_
      refine st253 _ ?_
      show Steps p.tables e below (T253.setTop (mkF m 138 #[.val (.ref a1), .val (.int (1 : Int32)), .val (.ref d), .val (.int (0 : Int32)), .val (.int (0 : Int32)), .val (.int c2), .unset, .unset, .unset, .unset] [])) _
      exact X253.returnOut hx Bd.returns (hb hby d3_138) hr
    · show own_Init Z a1 (.ref d) (fun h => own_Bits Z h a1 c2.toInt (fun q => c0.toInt = q ∨ c1.toInt = q ∨ c2.toInt = q)) h0 n0 _ T253.heap _
      rw [e253]
      exact ⟨rfl, N253, KP253, Fx254, Fx255, Or.inl Fw253⟩
  · -- pc 66: no
    obtain ⟨bz, h_bz⟩ : ∃ zQ : Int32, ((c2 / (64 : Int32)) + (1 : Int32)) = zQ := ⟨_, rfl⟩
    have hbz : bz.toInt = c2.toInt / 64 + 1 ∧ bz.toInt ≤ 33 := by rw [← h_bz]; exact own_bz (by omega) (by decide) hc66_249
    have hbz0 : ¬ bz < 0 := own_nn (by omega)
    have hbzc : bz.toNatClampNeg ≤ 33 := own_cap hbz0 (by omega)
    have Fx256 := (Fx240.wr W242)
    obtain ⟨T257, h257, k257, X257, e257, E257, A257, st257⟩ := newP X242 hx hZ (own_q hw 26 rfl) e242 (g := (mkF m 77 #[.val (.ref a1), .val (.int (1 : Int32)), .val (.ref d), .val (.int (0 : Int32)), .val (.int (0 : Int32)), .val (.int c2), .unset, .unset, .unset, .unset] [(.int bz), (.ref a1)])) rfl (hb hby d3_77) rfl hbz0 (cap := 33) hbzc (by decide) (by decide) (by decide)
    obtain ⟨b257, g257⟩ : ∃ z, z = h242.size := ⟨_, rfl⟩
    rw [← g257] at A257 st257
    have sz_b257 : h0.size ≤ b257 := Nat.le_trans KP242.1 (Nat.le_of_eq g257.symm)
    have gn_b257 : n0 ≤ b257 := Nat.le_trans Z0 sz_b257
    have ne_a1_b257 : a1 ≠ b257 := Nat.ne_of_lt (Nat.lt_of_lt_of_le Fx256.lt (Nat.le_of_eq g257.symm))
    have ne_d_b257 : d ≠ b257 := Nat.ne_of_lt (Nat.lt_of_lt_of_le Fx243.lt (Nat.le_of_eq g257.symm))
    have KP257 := Keep.ext KP242 E257
    have V257 : own_FL Z h257 b257 k257 bz (fun _ => (0 : Int64)) := own_FL.new A257 hbz0
    have hS_0 := own_says0
    have Fx258 := (Fx256.ext E257)
    have Fx259 := (((((F_bits.other W233 (Or.inr (slot_ne (Or.inr (own_q hw 28 rfl)) (Or.inr (own_q hw 19 rfl)) (by decide) (t := (.array .long)) (t' := .boolean) (by decide) (by decide)))).other W236 (Or.inr (slot_ne (Or.inr (own_q hw 28 rfl)) (Or.inr (own_q hw 21 rfl)) (by decide) (t := (.array .long)) (t' := (.array .int)) (by decide) (by decide)))).other W239 (Or.inr (slot_ne (Or.inr (own_q hw 28 rfl)) (Or.inr (own_q hw 23 rfl)) (by decide) (t := (.array .long)) (t' := .boolean) (by decide) (by decide)))).other W242 (Or.inr (slot_ne (Or.inr (own_q hw 28 rfl)) (Or.inr (own_q hw 25 rfl)) (by decide) (t := (.array .long)) (t' := .boolean) (by decide) (by decide)))).ext E257)
    obtain ⟨T260, h260, X260, e260, W260, st260⟩ := putF X257 hx hZ hown (host := "") (Or.inl (own_q hw 27 rfl)) Via.refl e257 Fx259 Fx258 (Or.inr ⟨(own_q hw 28 rfl), rfl, hnm⟩) (own_q hw 11 rfl) (ty := (.array .long)) (by decide) rfl rfl (g := (mkF m 79 #[.val (.ref a1), .val (.int (1 : Int32)), .val (.ref d), .val (.int (0 : Int32)), .val (.int (0 : Int32)), .val (.int c2), .unset, .unset, .unset, .unset] [(.ref b257), (.ref a1)])) rfl rfl (hb hby d3_79)
    have KP260 := Keep.wr KP257 W260 (Or.inl (List.mem_of_getElem? (i := 0) rfl))
    have Fw260 := Fx259.same W260
    have N260 := Fr.snoc X260 N242 gn_a
    have Fx261 := ((Fx243.ext E257).other W260 (Ne.symm nad))
    have Vc262 := Fx261
    obtain ⟨cl262, Ar262, q262, S262, N262_, H262_, G262⟩ := Vc262
    have Vc263 := Fx261
    obtain ⟨cl263, Ar263, q263, S263, N263_, H263_, G263⟩ := Vc263
    have hin263 : ¬ ((0 : Int32) < 0 ∨ cl263.slots.size ≤ ((0 : Int32)).toNatClampNeg) := inb_of S263 ⟨by decide, by decide⟩
    have hat263 : cl263.slots[((0 : Int32)).toNatClampNeg]? = some (.int c0) := Has.at H263_ hin263 rfl
    obtain ⟨T264, X264, e264, st264⟩ := getF X260 hx hZ hown (host := "") (Or.inl (own_q hw 27 rfl)) Via.refl e260 Fw260 (g := (mkF m 108 #[.val (.ref a1), .val (.int (1 : Int32)), .val (.ref d), .val (.int (0 : Int32)), .val (.int (0 : Int32)), .val (.int c2), .val (.ref d), .val (.int (3 : Int32)), .val (.int (0 : Int32)), .val (.int c0)] [(.ref a1)])) rfl rfl (hb hby d3_108)
    have Fx265 := (V257.other W260 (Ne.symm ne_a1_b257))
    have Vc266 := Fx265
    obtain ⟨cl266, Ar266, q266, S266, N266_, H266_, G266⟩ := Vc266
    have hin266 : ¬ ((c0 / (64 : Int32)) < 0 ∨ cl266.slots.size ≤ ((c0 / (64 : Int32))).toNatClampNeg) := inb_of S266 ⟨(own_nn (by have := own_div64 c0 (by omega); omega)), (own_lt32 (by have := own_div64 c0 (by omega); omega))⟩
    have Vc267 := Fx265
    obtain ⟨cl267, Ar267, q267, S267, N267_, H267_, G267⟩ := Vc267
    have hin267 : ¬ ((c0 / (64 : Int32)) < 0 ∨ cl267.slots.size ≤ ((c0 / (64 : Int32))).toNatClampNeg) := inb_of S267 ⟨(own_nn (by have := own_div64 c0 (by omega); omega)), (own_lt32 (by have := own_div64 c0 (by omega); omega))⟩
    obtain ⟨T268, h268, X268, e268, W268, st268⟩ := stJ X264 hx hZ e264 Ar267 (j := (c0 / (64 : Int32))) hin267 (g := (mkF m 123 #[.val (.ref a1), .val (.int (1 : Int32)), .val (.ref d), .val (.int (0 : Int32)), .val (.int (0 : Int32)), .val (.int c2), .val (.ref d), .val (.int (3 : Int32)), .val (.int (0 : Int32)), .val (.int c0)] [(.long (((fun _ => (0 : Int64)) ((c0 / (64 : Int32))).toNatClampNeg) ||| ((1 : Int64) <<< (c0 &&& 0x3f).toInt64))), (.int (c0 / (64 : Int32))), (.ref b257)])) rfl rfl (hb hby d3_123)
    have KP268 := Keep.wr KP260 W268 (Or.inr sz_b257)
    have V268 : own_FL Z h268 b257 k257 bz (fun i => if i = ((c0 / (64 : Int32))).toNatClampNeg then (((fun _ => (0 : Int64)) ((c0 / (64 : Int32))).toNatClampNeg) ||| ((1 : Int64) <<< (c0 &&& 0x3f).toInt64)) else (fun _ => (0 : Int64)) i) := own_FL.set Ar267 q267 S267 N267_ H267_ G267 W268
    have N268 := Fr.snoc X268 N260 gn_b257
    obtain ⟨g_0, hS_1, B_0⟩ : ∃ g : Nat → Int64, own_Says g (fun q => (False ∨ c0.toInt = q)) ∧ own_FL Z h268 b257 k257 bz g := ⟨_, own_saysS hS_0 (by omega : 0 ≤ c0.toInt), V268⟩
    have Fx269 := (Fx261.other W268 ne_d_b257)
    have Vc270 := Fx269
    obtain ⟨cl270, Ar270, q270, S270, N270_, H270_, G270⟩ := Vc270
    have hin270 : ¬ ((1 : Int32) < 0 ∨ cl270.slots.size ≤ ((1 : Int32)).toNatClampNeg) := inb_of S270 ⟨by decide, by decide⟩
    have hat270 : cl270.slots[((1 : Int32)).toNatClampNeg]? = some (.int c1) := Has.at H270_ hin270 rfl
    have Fx271 := (Fw260.other W268 (Or.inl ne_a1_b257))
    obtain ⟨T272, X272, e272, st272⟩ := getF X268 hx hZ hown (host := "") (Or.inl (own_q hw 27 rfl)) Via.refl e268 Fx271 (g := (mkF m 108 #[.val (.ref a1), .val (.int (1 : Int32)), .val (.ref d), .val (.int (0 : Int32)), .val (.int (0 : Int32)), .val (.int c2), .val (.ref d), .val (.int (3 : Int32)), .val (.int (1 : Int32)), .val (.int c1)] [(.ref a1)])) rfl rfl (hb hby d3_108)
    have Vc273 := B_0
    obtain ⟨cl273, Ar273, q273, S273, N273_, H273_, G273⟩ := Vc273
    have hin273 : ¬ ((c1 / (64 : Int32)) < 0 ∨ cl273.slots.size ≤ ((c1 / (64 : Int32))).toNatClampNeg) := inb_of S273 ⟨(own_nn (by have := own_div64 c1 (by omega); omega)), (own_lt32 (by have := own_div64 c1 (by omega); omega))⟩
    have Vc274 := B_0
    obtain ⟨cl274, Ar274, q274, S274, N274_, H274_, G274⟩ := Vc274
    have hin274 : ¬ ((c1 / (64 : Int32)) < 0 ∨ cl274.slots.size ≤ ((c1 / (64 : Int32))).toNatClampNeg) := inb_of S274 ⟨(own_nn (by have := own_div64 c1 (by omega); omega)), (own_lt32 (by have := own_div64 c1 (by omega); omega))⟩
    obtain ⟨T275, h275, X275, e275, W275, st275⟩ := stJ X272 hx hZ e272 Ar274 (j := (c1 / (64 : Int32))) hin274 (g := (mkF m 123 #[.val (.ref a1), .val (.int (1 : Int32)), .val (.ref d), .val (.int (0 : Int32)), .val (.int (0 : Int32)), .val (.int c2), .val (.ref d), .val (.int (3 : Int32)), .val (.int (1 : Int32)), .val (.int c1)] [(.long ((g_0 ((c1 / (64 : Int32))).toNatClampNeg) ||| ((1 : Int64) <<< (c1 &&& 0x3f).toInt64))), (.int (c1 / (64 : Int32))), (.ref b257)])) rfl rfl (hb hby d3_123)
    have KP275 := Keep.wr KP268 W275 (Or.inr sz_b257)
    have V275 : own_FL Z h275 b257 k257 bz (fun i => if i = ((c1 / (64 : Int32))).toNatClampNeg then ((g_0 ((c1 / (64 : Int32))).toNatClampNeg) ||| ((1 : Int64) <<< (c1 &&& 0x3f).toInt64)) else g_0 i) := own_FL.set Ar274 q274 S274 N274_ H274_ G274 W275
    have N275 := Fr.snoc X275 N268 gn_b257
    obtain ⟨g_1, hS_2, B_1⟩ : ∃ g : Nat → Int64, own_Says g (fun q => ((False ∨ c0.toInt = q) ∨ c1.toInt = q)) ∧ own_FL Z h275 b257 k257 bz g := ⟨_, own_saysS hS_1 (by omega : 0 ≤ c1.toInt), V275⟩
    have Fx276 := (Fx269.other W275 ne_d_b257)
    have Vc277 := Fx276
    obtain ⟨cl277, Ar277, q277, S277, N277_, H277_, G277⟩ := Vc277
    have hin277 : ¬ ((2 : Int32) < 0 ∨ cl277.slots.size ≤ ((2 : Int32)).toNatClampNeg) := inb_of S277 ⟨by decide, by decide⟩
    have hat277 : cl277.slots[((2 : Int32)).toNatClampNeg]? = some (.int c2) := Has.at H277_ hin277 rfl
    have Fx278 := (Fx271.other W275 (Or.inl ne_a1_b257))
    obtain ⟨T279, X279, e279, st279⟩ := getF X275 hx hZ hown (host := "") (Or.inl (own_q hw 27 rfl)) Via.refl e275 Fx278 (g := (mkF m 108 #[.val (.ref a1), .val (.int (1 : Int32)), .val (.ref d), .val (.int (0 : Int32)), .val (.int (0 : Int32)), .val (.int c2), .val (.ref d), .val (.int (3 : Int32)), .val (.int (2 : Int32)), .val (.int c2)] [(.ref a1)])) rfl rfl (hb hby d3_108)
    have Vc280 := B_1
    obtain ⟨cl280, Ar280, q280, S280, N280_, H280_, G280⟩ := Vc280
    have hin280 : ¬ ((c2 / (64 : Int32)) < 0 ∨ cl280.slots.size ≤ ((c2 / (64 : Int32))).toNatClampNeg) := inb_of S280 ⟨(own_nn (by have := own_div64 c2 (by omega); omega)), (own_lt32 (by have := own_div64 c2 (by omega); omega))⟩
    have Vc281 := B_1
    obtain ⟨cl281, Ar281, q281, S281, N281_, H281_, G281⟩ := Vc281
    have hin281 : ¬ ((c2 / (64 : Int32)) < 0 ∨ cl281.slots.size ≤ ((c2 / (64 : Int32))).toNatClampNeg) := inb_of S281 ⟨(own_nn (by have := own_div64 c2 (by omega); omega)), (own_lt32 (by have := own_div64 c2 (by omega); omega))⟩
    obtain ⟨T282, h282, X282, e282, W282, st282⟩ := stJ X279 hx hZ e279 Ar281 (j := (c2 / (64 : Int32))) hin281 (g := (mkF m 123 #[.val (.ref a1), .val (.int (1 : Int32)), .val (.ref d), .val (.int (0 : Int32)), .val (.int (0 : Int32)), .val (.int c2), .val (.ref d), .val (.int (3 : Int32)), .val (.int (2 : Int32)), .val (.int c2)] [(.long ((g_1 ((c2 / (64 : Int32))).toNatClampNeg) ||| ((1 : Int64) <<< (c2 &&& 0x3f).toInt64))), (.int (c2 / (64 : Int32))), (.ref b257)])) rfl rfl (hb hby d3_123)
    have KP282 := Keep.wr KP275 W282 (Or.inr sz_b257)
    have V282 : own_FL Z h282 b257 k257 bz (fun i => if i = ((c2 / (64 : Int32))).toNatClampNeg then ((g_1 ((c2 / (64 : Int32))).toNatClampNeg) ||| ((1 : Int64) <<< (c2 &&& 0x3f).toInt64)) else g_1 i) := own_FL.set Ar281 q281 S281 N281_ H281_ G281 W282
    have N282 := Fr.snoc X282 N275 gn_b257
    obtain ⟨g_2, hS_3, B_2⟩ : ∃ g : Nat → Int64, own_Says g (fun q => (((False ∨ c0.toInt = q) ∨ c1.toInt = q) ∨ c2.toInt = q)) ∧ own_FL Z h282 b257 k257 bz g := ⟨_, own_saysS hS_2 (by omega : 0 ≤ c2.toInt), V282⟩
    have Fx283 := (Fx278.other W282 (Or.inl ne_a1_b257))
    have Fx284 := ((((Fx258.wr W260).wr W268).wr W275).wr W282)
    have Fx285 := (((((((Fw236.other W239 (Or.inr (slot_ne (Or.inr (own_q hw 21 rfl)) (Or.inr (own_q hw 23 rfl)) (by decide) (t := (.array .int)) (t' := .boolean) (by decide) (by decide)))).other W242 (Or.inr (slot_ne (Or.inr (own_q hw 21 rfl)) (Or.inr (own_q hw 25 rfl)) (by decide) (t := (.array .int)) (t' := .boolean) (by decide) (by decide)))).ext E257).other W260 (Or.inr (slot_ne (Or.inr (own_q hw 21 rfl)) (Or.inr (own_q hw 28 rfl)) (by decide) (t := (.array .int)) (t' := (.array .long)) (by decide) (by decide)))).other W268 (Or.inl ne_a1_b257)).other W275 (Or.inl ne_a1_b257)).other W282 (Or.inl ne_a1_b257))
    obtain ⟨fs, hr, hrun, hended, hW, hsame⟩ := X282.leave (v := none) (fun _ => rfl)
    refine ⟨_, _, ck250 _ ?_, hrun, hended, _, _, rfl, ?_, ⟨_, rfl⟩, hW, hsame.mono (by decide) (by decide)⟩
    · refine XS.icmpNo X242.here hx rfl (hb hby d3_66) rfl (flt hc66_249).2.2.1 ?_
      refine XS.aloadN X242.here hx rfl (hb hby d3_69) rfl rfl ?_
      refine XS.iload X242.here hx rfl (hb hby d3_70) rfl ?_
      refine XS.bipush X242.here hx rfl (hb hby d3_72) ?_
      refine XS.idiv X242.here hx rfl (hb hby d3_74) rfl (by decide) ?_
      refine XS.iconst X242.here hx rfl (hb hby d3_75) ?_
      refine XS.iadd X242.here hx rfl (hb hby d3_76) rfl ?_
      show Steps p.tables e below (T242.setTop (mkF m 77 #[.val (.ref a1), .val (.int (1 : Int32)), .val (.ref d), .val (.int (0 : Int32)), .val (.int (0 : Int32)), .val (.int c2), .unset, .unset, .unset, .unset] [(.int ((c2 / (64 : Int32)) + (1 : Int32))), (.ref a1)])) _
      rw [h_bz]
      show Steps p.tables e below (T242.setTop (mkF m 77 #[.val (.ref a1), .val (.int (1 : Int32)), .val (.ref d), .val (.int (0 : Int32)), .val (.int (0 : Int32)), .val (.int c2), .unset, .unset, .unset, .unset] [(.int bz), (.ref a1)])) _
      refine st257 _ ?_
      show Steps p.tables e below (T257.setTop (mkF m 79 #[.val (.ref a1), .val (.int (1 : Int32)), .val (.ref d), .val (.int (0 : Int32)), .val (.int (0 : Int32)), .val (.int c2), .unset, .unset, .unset, .unset] [(.ref b257), (.ref a1)])) _
      refine st260 _ ?_
      show Steps p.tables e below (T260.setTop (mkF m 82 #[.val (.ref a1), .val (.int (1 : Int32)), .val (.ref d), .val (.int (0 : Int32)), .val (.int (0 : Int32)), .val (.int c2), .unset, .unset, .unset, .unset] [])) _
      refine XS.aloadN X260.here hx rfl (hb hby d3_82) rfl rfl ?_
      refine XS.astore X260.here hx rfl (hb hby d3_83) rfl rfl (l' := #[.val (.ref a1), .val (.int (1 : Int32)), .val (.ref d), .val (.int (0 : Int32)), .val (.int (0 : Int32)), .val (.int c2), .val (.ref d), .unset, .unset, .unset]) rfl ?_
      refine XS.aload X260.here hx rfl (hb hby d3_85) rfl rfl ?_
      refine X260.arraylength hx (by rw [e260]; exact Ar262.1) (State.isArrayOf_alike hZ.alike Ar262.2.1) (g := (mkF m 87 #[.val (.ref a1), .val (.int (1 : Int32)), .val (.ref d), .val (.int (0 : Int32)), .val (.int (0 : Int32)), .val (.int c2), .val (.ref d), .unset, .unset, .unset] [(.ref d)])) rfl rfl (hb hby d3_87) _ ?_
      rw [len_of S262 N262_]
      show Steps p.tables e below (T260.setTop (mkF m 88 #[.val (.ref a1), .val (.int (1 : Int32)), .val (.ref d), .val (.int (0 : Int32)), .val (.int (0 : Int32)), .val (.int c2), .val (.ref d), .unset, .unset, .unset] [(.int (3 : Int32))])) _
      refine XS.istore X260.here hx rfl (hb hby d3_88) rfl (l' := #[.val (.ref a1), .val (.int (1 : Int32)), .val (.ref d), .val (.int (0 : Int32)), .val (.int (0 : Int32)), .val (.int c2), .val (.ref d), .val (.int (3 : Int32)), .unset, .unset]) rfl ?_
      refine XS.iconst X260.here hx rfl (hb hby d3_90) ?_
      refine XS.istore X260.here hx rfl (hb hby d3_91) rfl (l' := #[.val (.ref a1), .val (.int (1 : Int32)), .val (.ref d), .val (.int (0 : Int32)), .val (.int (0 : Int32)), .val (.int c2), .val (.ref d), .val (.int (3 : Int32)), .val (.int (0 : Int32)), .unset]) rfl ?_
      refine XS.iload X260.here hx rfl (hb hby d3_93) rfl ?_
      refine XS.iload X260.here hx rfl (hb hby d3_95) rfl ?_
      refine XS.icmpNo X260.here hx rfl (hb hby d3_97) rfl (tlt (by decide : (0 : Int32) < (3 : Int32))).2.1 ?_
      refine XS.aload X260.here hx rfl (hb hby d3_100) rfl rfl ?_
      refine XS.iload X260.here hx rfl (hb hby d3_102) rfl ?_
      refine X260.iaload hx (j := (0 : Int32)) (v := (.int c0)) (by rw [e260]; exact Ar263.1) (State.isArrayOf_alike hZ.alike Ar263.2.1) Ar263.2.2 hin263 hat263 (g := (mkF m 104 #[.val (.ref a1), .val (.int (1 : Int32)), .val (.ref d), .val (.int (0 : Int32)), .val (.int (0 : Int32)), .val (.int c2), .val (.ref d), .val (.int (3 : Int32)), .val (.int (0 : Int32)), .unset] [(.int (0 : Int32)), (.ref d)])) rfl rfl (hb hby d3_104) _ ?_
      show Steps p.tables e below (T260.setTop (mkF m 105 #[.val (.ref a1), .val (.int (1 : Int32)), .val (.ref d), .val (.int (0 : Int32)), .val (.int (0 : Int32)), .val (.int c2), .val (.ref d), .val (.int (3 : Int32)), .val (.int (0 : Int32)), .unset] [(.int c0)])) _
      refine XS.istore X260.here hx rfl (hb hby d3_105) rfl (l' := #[.val (.ref a1), .val (.int (1 : Int32)), .val (.ref d), .val (.int (0 : Int32)), .val (.int (0 : Int32)), .val (.int c2), .val (.ref d), .val (.int (3 : Int32)), .val (.int (0 : Int32)), .val (.int c0)]) rfl ?_
      refine XS.aloadN X260.here hx rfl (hb hby d3_107) rfl rfl ?_
      refine st264 _ ?_
      show Steps p.tables e below (T264.setTop (mkF m 111 #[.val (.ref a1), .val (.int (1 : Int32)), .val (.ref d), .val (.int (0 : Int32)), .val (.int (0 : Int32)), .val (.int c2), .val (.ref d), .val (.int (3 : Int32)), .val (.int (0 : Int32)), .val (.int c0)] [(.ref b257)])) _
      refine XS.iload X264.here hx rfl (hb hby d3_111) rfl ?_
      refine XS.bipush X264.here hx rfl (hb hby d3_113) ?_
      refine XS.idiv X264.here hx rfl (hb hby d3_115) rfl (by decide) ?_
      show Steps p.tables e below (T264.setTop (mkF m 116 #[.val (.ref a1), .val (.int (1 : Int32)), .val (.ref d), .val (.int (0 : Int32)), .val (.int (0 : Int32)), .val (.int c2), .val (.ref d), .val (.int (3 : Int32)), .val (.int (0 : Int32)), .val (.int c0)] [(.int (c0 / (64 : Int32))), (.ref b257)])) _
      jvm_step X264.here [X264.here.top, hx, (hb hby d3_116), Value.category]
      show Steps p.tables e below (T264.setTop (mkF m 117 #[.val (.ref a1), .val (.int (1 : Int32)), .val (.ref d), .val (.int (0 : Int32)), .val (.int (0 : Int32)), .val (.int c2), .val (.ref d), .val (.int (3 : Int32)), .val (.int (0 : Int32)), .val (.int c0)] [(.int (c0 / (64 : Int32))), (.ref b257), (.int (c0 / (64 : Int32))), (.ref b257)])) _
      refine X264.laload hx (j := (c0 / (64 : Int32))) (v := (.long ((fun _ => (0 : Int64)) ((c0 / (64 : Int32))).toNatClampNeg))) (by rw [e264]; exact Ar266.1) (State.isArrayOf_alike hZ.alike Ar266.2.1) Ar266.2.2 hin266 (own_FL.at H266_ hin266) (g := (mkF m 117 #[.val (.ref a1), .val (.int (1 : Int32)), .val (.ref d), .val (.int (0 : Int32)), .val (.int (0 : Int32)), .val (.int c2), .val (.ref d), .val (.int (3 : Int32)), .val (.int (0 : Int32)), .val (.int c0)] [(.int (c0 / (64 : Int32))), (.ref b257), (.int (c0 / (64 : Int32))), (.ref b257)])) rfl rfl (hb hby d3_117) _ ?_
      show Steps p.tables e below (T264.setTop (mkF m 118 #[.val (.ref a1), .val (.int (1 : Int32)), .val (.ref d), .val (.int (0 : Int32)), .val (.int (0 : Int32)), .val (.int c2), .val (.ref d), .val (.int (3 : Int32)), .val (.int (0 : Int32)), .val (.int c0)] [(.long ((fun _ => (0 : Int64)) ((c0 / (64 : Int32))).toNatClampNeg)), (.int (c0 / (64 : Int32))), (.ref b257)])) _
      refine XS.lconst X264.here hx rfl (hb hby d3_118) ?_
      refine XS.iload X264.here hx rfl (hb hby d3_119) rfl ?_
      refine XS.lshl X264.here hx rfl (hb hby d3_121) rfl ?_
      refine XS.lor X264.here hx rfl (hb hby d3_122) rfl ?_
      refine st268 _ ?_
      show Steps p.tables e below (T268.setTop (mkF m 124 #[.val (.ref a1), .val (.int (1 : Int32)), .val (.ref d), .val (.int (0 : Int32)), .val (.int (0 : Int32)), .val (.int c2), .val (.ref d), .val (.int (3 : Int32)), .val (.int (0 : Int32)), .val (.int c0)] [])) _
      refine XS.iinc X268.here hx rfl (hb hby d3_124) rfl (l' := #[.val (.ref a1), .val (.int (1 : Int32)), .val (.ref d), .val (.int (0 : Int32)), .val (.int (0 : Int32)), .val (.int c2), .val (.ref d), .val (.int (3 : Int32)), .val (.int (1 : Int32)), .val (.int c0)]) rfl ?_
      refine XS.goto X268.here hx rfl (pc0 := 127) (pc' := 93) rfl (hb hby d3_127) (by decide) (by decide) ?_
      refine XS.iload X268.here hx rfl (hb hby d3_93) rfl ?_
      refine XS.iload X268.here hx rfl (hb hby d3_95) rfl ?_
      refine XS.icmpNo X268.here hx rfl (hb hby d3_97) rfl (tlt (by decide : (1 : Int32) < (3 : Int32))).2.1 ?_
      refine XS.aload X268.here hx rfl (hb hby d3_100) rfl rfl ?_
      refine XS.iload X268.here hx rfl (hb hby d3_102) rfl ?_
      refine X268.iaload hx (j := (1 : Int32)) (v := (.int c1)) (by rw [e268]; exact Ar270.1) (State.isArrayOf_alike hZ.alike Ar270.2.1) Ar270.2.2 hin270 hat270 (g := (mkF m 104 #[.val (.ref a1), .val (.int (1 : Int32)), .val (.ref d), .val (.int (0 : Int32)), .val (.int (0 : Int32)), .val (.int c2), .val (.ref d), .val (.int (3 : Int32)), .val (.int (1 : Int32)), .val (.int c0)] [(.int (1 : Int32)), (.ref d)])) rfl rfl (hb hby d3_104) _ ?_
      show Steps p.tables e below (T268.setTop (mkF m 105 #[.val (.ref a1), .val (.int (1 : Int32)), .val (.ref d), .val (.int (0 : Int32)), .val (.int (0 : Int32)), .val (.int c2), .val (.ref d), .val (.int (3 : Int32)), .val (.int (1 : Int32)), .val (.int c0)] [(.int c1)])) _
      refine XS.istore X268.here hx rfl (hb hby d3_105) rfl (l' := #[.val (.ref a1), .val (.int (1 : Int32)), .val (.ref d), .val (.int (0 : Int32)), .val (.int (0 : Int32)), .val (.int c2), .val (.ref d), .val (.int (3 : Int32)), .val (.int (1 : Int32)), .val (.int c1)]) rfl ?_
      refine XS.aloadN X268.here hx rfl (hb hby d3_107) rfl rfl ?_
      refine st272 _ ?_
      show Steps p.tables e below (T272.setTop (mkF m 111 #[.val (.ref a1), .val (.int (1 : Int32)), .val (.ref d), .val (.int (0 : Int32)), .val (.int (0 : Int32)), .val (.int c2), .val (.ref d), .val (.int (3 : Int32)), .val (.int (1 : Int32)), .val (.int c1)] [(.ref b257)])) _
      refine XS.iload X272.here hx rfl (hb hby d3_111) rfl ?_
      refine XS.bipush X272.here hx rfl (hb hby d3_113) ?_
      refine XS.idiv X272.here hx rfl (hb hby d3_115) rfl (by decide) ?_
      show Steps p.tables e below (T272.setTop (mkF m 116 #[.val (.ref a1), .val (.int (1 : Int32)), .val (.ref d), .val (.int (0 : Int32)), .val (.int (0 : Int32)), .val (.int c2), .val (.ref d), .val (.int (3 : Int32)), .val (.int (1 : Int32)), .val (.int c1)] [(.int (c1 / (64 : Int32))), (.ref b257)])) _
      jvm_step X272.here [X272.here.top, hx, (hb hby d3_116), Value.category]
      show Steps p.tables e below (T272.setTop (mkF m 117 #[.val (.ref a1), .val (.int (1 : Int32)), .val (.ref d), .val (.int (0 : Int32)), .val (.int (0 : Int32)), .val (.int c2), .val (.ref d), .val (.int (3 : Int32)), .val (.int (1 : Int32)), .val (.int c1)] [(.int (c1 / (64 : Int32))), (.ref b257), (.int (c1 / (64 : Int32))), (.ref b257)])) _
      refine X272.laload hx (j := (c1 / (64 : Int32))) (v := (.long (g_0 ((c1 / (64 : Int32))).toNatClampNeg))) (by rw [e272]; exact Ar273.1) (State.isArrayOf_alike hZ.alike Ar273.2.1) Ar273.2.2 hin273 (own_FL.at H273_ hin273) (g := (mkF m 117 #[.val (.ref a1), .val (.int (1 : Int32)), .val (.ref d), .val (.int (0 : Int32)), .val (.int (0 : Int32)), .val (.int c2), .val (.ref d), .val (.int (3 : Int32)), .val (.int (1 : Int32)), .val (.int c1)] [(.int (c1 / (64 : Int32))), (.ref b257), (.int (c1 / (64 : Int32))), (.ref b257)])) rfl rfl (hb hby d3_117) _ ?_
      show Steps p.tables e below (T272.setTop (mkF m 118 #[.val (.ref a1), .val (.int (1 : Int32)), .val (.ref d), .val (.int (0 : Int32)), .val (.int (0 : Int32)), .val (.int c2), .val (.ref d), .val (.int (3 : Int32)), .val (.int (1 : Int32)), .val (.int c1)] [(.long (g_0 ((c1 / (64 : Int32))).toNatClampNeg)), (.int (c1 / (64 : Int32))), (.ref b257)])) _
      refine XS.lconst X272.here hx rfl (hb hby d3_118) ?_
      refine XS.iload X272.here hx rfl (hb hby d3_119) rfl ?_
      refine XS.lshl X272.here hx rfl (hb hby d3_121) rfl ?_
      refine XS.lor X272.here hx rfl (hb hby d3_122) rfl ?_
      refine st275 _ ?_
      show Steps p.tables e below (T275.setTop (mkF m 124 #[.val (.ref a1), .val (.int (1 : Int32)), .val (.ref d), .val (.int (0 : Int32)), .val (.int (0 : Int32)), .val (.int c2), .val (.ref d), .val (.int (3 : Int32)), .val (.int (1 : Int32)), .val (.int c1)] [])) _
      refine XS.iinc X275.here hx rfl (hb hby d3_124) rfl (l' := #[.val (.ref a1), .val (.int (1 : Int32)), .val (.ref d), .val (.int (0 : Int32)), .val (.int (0 : Int32)), .val (.int c2), .val (.ref d), .val (.int (3 : Int32)), .val (.int (2 : Int32)), .val (.int c1)]) rfl ?_
      refine XS.goto X275.here hx rfl (pc0 := 127) (pc' := 93) rfl (hb hby d3_127) (by decide) (by decide) ?_
      refine XS.iload X275.here hx rfl (hb hby d3_93) rfl ?_
      refine XS.iload X275.here hx rfl (hb hby d3_95) rfl ?_
      refine XS.icmpNo X275.here hx rfl (hb hby d3_97) rfl (tlt (by decide : (2 : Int32) < (3 : Int32))).2.1 ?_
      refine XS.aload X275.here hx rfl (hb hby d3_100) rfl rfl ?_
      refine XS.iload X275.here hx rfl (hb hby d3_102) rfl ?_
      refine X275.iaload hx (j := (2 : Int32)) (v := (.int c2)) (by rw [e275]; exact Ar277.1) (State.isArrayOf_alike hZ.alike Ar277.2.1) Ar277.2.2 hin277 hat277 (g := (mkF m 104 #[.val (.ref a1), .val (.int (1 : Int32)), .val (.ref d), .val (.int (0 : Int32)), .val (.int (0 : Int32)), .val (.int c2), .val (.ref d), .val (.int (3 : Int32)), .val (.int (2 : Int32)), .val (.int c1)] [(.int (2 : Int32)), (.ref d)])) rfl rfl (hb hby d3_104) _ ?_
      show Steps p.tables e below (T275.setTop (mkF m 105 #[.val (.ref a1), .val (.int (1 : Int32)), .val (.ref d), .val (.int (0 : Int32)), .val (.int (0 : Int32)), .val (.int c2), .val (.ref d), .val (.int (3 : Int32)), .val (.int (2 : Int32)), .val (.int c1)] [(.int c2)])) _
      refine XS.istore X275.here hx rfl (hb hby d3_105) rfl (l' := #[.val (.ref a1), .val (.int (1 : Int32)), .val (.ref d), .val (.int (0 : Int32)), .val (.int (0 : Int32)), .val (.int c2), .val (.ref d), .val (.int (3 : Int32)), .val (.int (2 : Int32)), .val (.int c2)]) rfl ?_
      refine XS.aloadN X275.here hx rfl (hb hby d3_107) rfl rfl ?_
      refine st279 _ ?_
      show Steps p.tables e below (T279.setTop (mkF m 111 #[.val (.ref a1), .val (.int (1 : Int32)), .val (.ref d), .val (.int (0 : Int32)), .val (.int (0 : Int32)), .val (.int c2), .val (.ref d), .val (.int (3 : Int32)), .val (.int (2 : Int32)), .val (.int c2)] [(.ref b257)])) _
      refine XS.iload X279.here hx rfl (hb hby d3_111) rfl ?_
      refine XS.bipush X279.here hx rfl (hb hby d3_113) ?_
      refine XS.idiv X279.here hx rfl (hb hby d3_115) rfl (by decide) ?_
      show Steps p.tables e below (T279.setTop (mkF m 116 #[.val (.ref a1), .val (.int (1 : Int32)), .val (.ref d), .val (.int (0 : Int32)), .val (.int (0 : Int32)), .val (.int c2), .val (.ref d), .val (.int (3 : Int32)), .val (.int (2 : Int32)), .val (.int c2)] [(.int (c2 / (64 : Int32))), (.ref b257)])) _
      jvm_step X279.here [X279.here.top, hx, (hb hby d3_116), Value.category]
      show Steps p.tables e below (T279.setTop (mkF m 117 #[.val (.ref a1), .val (.int (1 : Int32)), .val (.ref d), .val (.int (0 : Int32)), .val (.int (0 : Int32)), .val (.int c2), .val (.ref d), .val (.int (3 : Int32)), .val (.int (2 : Int32)), .val (.int c2)] [(.int (c2 / (64 : Int32))), (.ref b257), (.int (c2 / (64 : Int32))), (.ref b257)])) _
      refine X279.laload hx (j := (c2 / (64 : Int32))) (v := (.long (g_1 ((c2 / (64 : Int32))).toNatClampNeg))) (by rw [e279]; exact Ar280.1) (State.isArrayOf_alike hZ.alike Ar280.2.1) Ar280.2.2 hin280 (own_FL.at H280_ hin280) (g := (mkF m 117 #[.val (.ref a1), .val (.int (1 : Int32)), .val (.ref d), .val (.int (0 : Int32)), .val (.int (0 : Int32)), .val (.int c2), .val (.ref d), .val (.int (3 : Int32)), .val (.int (2 : Int32)), .val (.int c2)] [(.int (c2 / (64 : Int32))), (.ref b257), (.int (c2 / (64 : Int32))), (.ref b257)])) rfl rfl (hb hby d3_117) _ ?_
      show Steps p.tables e below (T279.setTop (mkF m 118 #[.val (.ref a1), .val (.int (1 : Int32)), .val (.ref d), .val (.int (0 : Int32)), .val (.int (0 : Int32)), .val (.int c2), .val (.ref d), .val (.int (3 : Int32)), .val (.int (2 : Int32)), .val (.int c2)] [(.long (g_1 ((c2 / (64 : Int32))).toNatClampNeg)), (.int (c2 / (64 : Int32))), (.ref b257)])) _
      refine XS.lconst X279.here hx rfl (hb hby d3_118) ?_
      refine XS.iload X279.here hx rfl (hb hby d3_119) rfl ?_
      refine XS.lshl X279.here hx rfl (hb hby d3_121) rfl ?_
      refine XS.lor X279.here hx rfl (hb hby d3_122) rfl ?_
      refine st282 _ ?_
      show Steps p.tables e below (T282.setTop (mkF m 124 #[.val (.ref a1), .val (.int (1 : Int32)), .val (.ref d), .val (.int (0 : Int32)), .val (.int (0 : Int32)), .val (.int c2), .val (.ref d), .val (.int (3 : Int32)), .val (.int (2 : Int32)), .val (.int c2)] [])) _
      refine XS.iinc X282.here hx rfl (hb hby d3_124) rfl (l' := #[.val (.ref a1), .val (.int (1 : Int32)), .val (.ref d), .val (.int (0 : Int32)), .val (.int (0 : Int32)), .val (.int c2), .val (.ref d), .val (.int (3 : Int32)), .val (.int (3 : Int32)), .val (.int c2)]) rfl ?_
      refine XS.goto X282.here hx rfl (pc0 := 127) (pc' := 93) rfl (hb hby d3_127) (by decide) (by decide) ?_
      refine XS.iload X282.here hx rfl (hb hby d3_93) rfl ?_
      refine XS.iload X282.here hx rfl (hb hby d3_95) rfl ?_
      refine XS.icmpYes X282.here hx rfl (pc0 := 97) (pc' := 130) rfl (hb hby d3_97) rfl (flt (by decide : ¬ ((3 : Int32) < (3 : Int32)))).2.1 (by decide) (by decide) ?_
      refine XS.goto X282.here hx rfl (pc0 := 130) (pc' := 138) rfl (hb hby d3_130) (by decide) (by decide) ?_
      exact X282.returnOut hx Bd.returns (hb hby d3_138) hr
    · show own_Init Z a1 (.ref d) (fun h => own_Bits Z h a1 c2.toInt (fun q => c0.toInt = q ∨ c1.toInt = q ∨ c2.toInt = q)) h0 n0 _ T282.heap _
      rw [e282]
      exact ⟨rfl, N282, KP282, Fx284, Fx285, Or.inr ⟨b257, _, bz, _, Fx283, B_2, hbz.1, own_saysC hS_3 (fun q => by simp only [false_or, or_assoc])⟩⟩
theorem ef_rm_tog_3 (m : MethodId) (x0 : Addr) : entryFrame m #[(.ref x0)] 1 = mkF m 0 #[.val (.ref x0)] [] := by first | (simp [entryFrame, mkF, argsToLocals, Value.category]; done) | rfl
set_option maxRecDepth 65536 in
set_option maxHeartbeats 40000000 in
theorem rm_tog_3 (l : Launch) (Z : State) (a0 : Array Value) (hw : ∀ d ∈ tables_1, d.before a0 Z = true) (ws : List Jvm.Cond) (d : Addr) (h0 : Heap) (n0 : Nat) (Z0 : n0 ≤ h0.size) (kd : ClassId) (c0 c1 c2 : Int32) (A_d : Arv Z h0 d kd .int (3 : Int32) [(.int c0), (.int c1), (.int c2)] (.int (0 : Int32))) (hs : 0 ≤ c0.toInt ∧ c0.toInt ≤ c1.toInt ∧ c1.toInt ≤ c2.toInt) :
    MetFree l (⟨"com/example/cubelet/cubelet/CellStore$Step", "together", "([I)Lcom/example/cubelet/cubelet/CellStore$Step;"⟩ : MethodName) (head1 (Jvm.Cond.code (⟨"com/example/cubelet/cubelet/CellStore$Step", "together", "([I)Lcom/example/cubelet/cubelet/CellStore$Step;"⟩ : MethodName) prog_13_method_3_code 1 (some (.object "com/example/cubelet/cubelet/CellStore$Step")) :: ws) ({ frames := 2, cells := 2, slots := 38, locals := 34 } : Room)) (fun aQ UQ => aQ = #[(.ref d)] ∧ Z.Warmed39 UQ.vm ∧ UQ.heap = h0) (fun _ _ _ _ _ => True) (fun _ UQ oQ UR => ∃ vQ LQ, oQ = .returned vQ ∧ own_Tog Z (.ref d) (fun a => (fun h => own_Bits Z h a c2.toInt (fun q => c0.toInt = q ∨ c1.toInt = q ∨ c2.toInt = q))) h0 n0 vQ UR.heap LQ ∧ FrameEnd UQ oQ UR LQ ({ frames := 2, cells := 2, slots := 38, locals := 34 } : Room).cells ({ frames := 2, cells := 2, slots := 38, locals := 34 } : Room).slots) := by
  refine MetFree.of_bodySF (plainFor_of_name pn_72) hisR ?_
  intro p e s m args below meth c s₁ Bd hml0 hP hK
  obtain ⟨rfl, hZ, hh⟩ := hP
  have hx := Bd.exec
  have hby := Bd.bytes
  have hml : c.maxLocals = 1 := hml0
  have hown : s.vm.findClass "com/example/cubelet/cubelet/CellStore$Step" = some m.cls := findClass_of_methodNamed Bd.named
  have hnm := (name_of_methodNamed Bd.named Bd.method).1
  have X0 : Stand p l e ({ frames := 2, cells := 2, slots := 38, locals := 34 } : Room) s m #[(.ref d)] below meth c s₁ [] 0 0 := Stand.of_body Bd
  have e0 : s₁.heap = h0 := by rw [← hh, Bd.state]; rfl
  have N0 := Fr.nil n0
  have pre0 : ∀ t, Steps p.tables e below (s₁.setTop (mkF m 0 #[.val (.ref d)] [])) t → Steps p.tables e below (s₁.setTop (entryFrame m #[(.ref d)] 1)) t := fun t kq => castTop (ef_rm_tog_3 m d) kq
  obtain ⟨T286, h286, X286, e286, E286, A286, D286, -, st286⟩ := newO X0 hx hZ hown (own_q hw 10 rfl) (own_q hw 11 rfl) (own_q hw 8 rfl) e0 (g := (mkF m 0 #[.val (.ref d)] [])) rfl (hb hby d2_0) (by decide) (by decide)
  obtain ⟨b286, g286⟩ : ∃ z, z = h0.size := ⟨_, rfl⟩
  rw [← g286] at A286 D286 st286
  have sz_b286 : h0.size ≤ b286 := Nat.le_trans (Keep.refl h0 []).1 (Nat.le_of_eq g286.symm)
  have gn_b286 : n0 ≤ b286 := Nat.le_trans Z0 sz_b286
  have ne_d_b286 : d ≠ b286 := Nat.ne_of_lt (Nat.lt_of_lt_of_le A_d.lt (Nat.le_of_eq g286.symm))
  have EX286 := own_ext_trans (own_ext_refl h0) E286
  have KP286 := Keep.ext (Keep.refl h0 []) E286
  have F286_takesValues : Fld Z h286 b286 "com/example/cubelet/cubelet/CellStore$Step" "takesValues" "Z" (.int (0 : Int32)) := D286 (Or.inr (own_q hw 19 rfl)) (ty := .boolean) (by decide)
  have F286_codes : Fld Z h286 b286 "com/example/cubelet/cubelet/CellStore$Step" "codes" "[I" .null := D286 (Or.inr (own_q hw 21 rfl)) (ty := (.array .int)) (by decide)
  have F286_takesAll : Fld Z h286 b286 "com/example/cubelet/cubelet/CellStore$Step" "takesAll" "Z" (.int (0 : Int32)) := D286 (Or.inr (own_q hw 23 rfl)) (ty := .boolean) (by decide)
  have F286_apart : Fld Z h286 b286 "com/example/cubelet/cubelet/CellStore$Step" "apart" "Z" (.int (0 : Int32)) := D286 (Or.inr (own_q hw 25 rfl)) (ty := .boolean) (by decide)
  have F286_bits : Fld Z h286 b286 "com/example/cubelet/cubelet/CellStore$Step" "bits" "[J" .null := D286 (Or.inr (own_q hw 28 rfl)) (ty := (.array .long)) (by decide)
  have Fx287 := (A_d.ext E286)
  obtain ⟨_, _, ⟨T288, L288, k288, n288⟩, -, X288, ⟨Lc288, hQ288, l288, y288, z288⟩, st288⟩ := X286.specialBack hx (y := (⟨"com/example/cubelet/cubelet/CellStore$Step", "<init>", "(Z[IZZ)V"⟩ : MethodName)) rfl hown (mvT hZ (own_q hw 12 rfl)) (mvT hZ (own_q hw 13 rfl)) (mvT hZ (own_q hw 14 rfl)) (by decide) (backOf (W := 1) (rm_ini_3 l Z a0 hw [] b286 d h286 n0 (Nat.le_trans Z0 EX286.1) A286 F286_takesValues F286_takesAll F286_apart F286_codes F286_bits gn_b286 kd c0 c1 c2 Fx287 hs (Ne.symm ne_d_b286)) hZ (own_q hw 14 rfl) (own_q hw 8 rfl) (by decide) (by decide)) (g := (mkF m 8 #[.val (.ref d)] [(.int (0 : Int32)), (.int (0 : Int32)), (.ref d), (.int (1 : Int32)), (.ref b286), (.ref b286)])) rfl (by rw [hml]; rfl) (Steps.refl _) (a := b286) (argsL := [(.int (1 : Int32)), (.ref d), (.int (0 : Int32)), (.int (0 : Int32))]) (rest := [(.ref b286)]) (lenOf pd_156 rfl) rfl (by show 2 * 0 + _ ≤ _; exact Nat.le_of_eq rfl) (hb hby d2_8) (fun _ _ => ⟨rfl, e286, (by decide : 1 + 1 ≤ _), (by decide : 5 + 33 ≤ _)⟩)
  dsimp only [Pt.U, Pt.locs, Pt.cells, Pt.slots] at X288 l288 y288 z288 st288 hQ288
  subst l288 y288 z288
  obtain ⟨rfl, N288q, K288, E288, Fc288, hB288⟩ := hQ288
  have N288 := Fr.app N0 N288q
  have e288 : T288.heap = T288.heap := rfl
  have EX288 := own_ext_keep EX286 K288 (allS sz_b286 all0)
  have KP288 := Keep.trans KP286 K288 (allS (Or.inr sz_b286) all0)
  obtain ⟨fs, hr, hrun, hended, hW, hsame⟩ := X288.leave (v := some (.ref b286)) (fun h => by rw [Bd.returns] at h; cases h)
  refine ⟨_, _, pre0 _ ?_, hrun, hended, _, _, rfl, ?_, ⟨_, rfl⟩, hW, hsame.mono (by decide) (by decide)⟩
  · refine st286 _ ?_
    show Steps p.tables e below (T286.setTop (mkF m 3 #[.val (.ref d)] [(.ref b286)])) _
    refine XS.dup X286.here hx rfl (hb hby d2_3) rfl rfl ?_
    refine XS.iconst X286.here hx rfl (hb hby d2_4) ?_
    refine XS.aloadN X286.here hx rfl (hb hby d2_5) rfl rfl ?_
    refine XS.iconst X286.here hx rfl (hb hby d2_6) ?_
    refine XS.iconst X286.here hx rfl (hb hby d2_7) ?_
    refine st288.trans ?_
    show Steps p.tables e below (T288.setTop (mkF m 11 #[.val (.ref d)] [(.ref b286)])) _
    exact retOut X288 hx Bd.returns rfl (Or.inr (Or.inr (Or.inr (Or.inr ⟨rfl, rfl, rfl⟩)))) (hb hby d2_11) hr
  · show own_Tog Z (.ref d) (fun a => (fun h => own_Bits Z h a c2.toInt (fun q => c0.toInt = q ∨ c1.toInt = q ∨ c2.toInt = q))) h0 n0 _ T288.heap _
    exact ⟨b286, rfl, N288, EX288, E288, Fc288, hB288⟩
theorem ef_rm_ini_4 (m : MethodId) (x0 : Addr) (x2 : Addr) : entryFrame m #[(.ref x0), (.int (1 : Int32)), (.ref x2), (.int (0 : Int32)), (.int (0 : Int32))] 10 = mkF m 0 #[.val (.ref x0), .val (.int (1 : Int32)), .val (.ref x2), .val (.int (0 : Int32)), .val (.int (0 : Int32)), .unset, .unset, .unset, .unset, .unset] [] := by first | (simp [entryFrame, mkF, argsToLocals, Value.category]; done) | rfl
set_option maxRecDepth 65536 in
set_option maxHeartbeats 40000000 in
theorem rm_ini_4 (l : Launch) (Z : State) (a0 : Array Value) (hw : ∀ d ∈ tables_1, d.before a0 Z = true) (ws : List Jvm.Cond) (a1 : Addr) (d : Addr) (h0 : Heap) (n0 : Nat) (Z0 : n0 ≤ h0.size) (E_a : Exa Z h0 a1 "com/example/cubelet/cubelet/CellStore$Step") (F_takesValues : Fld Z h0 a1 "com/example/cubelet/cubelet/CellStore$Step" "takesValues" "Z" (.int (0 : Int32))) (F_takesAll : Fld Z h0 a1 "com/example/cubelet/cubelet/CellStore$Step" "takesAll" "Z" (.int (0 : Int32))) (F_apart : Fld Z h0 a1 "com/example/cubelet/cubelet/CellStore$Step" "apart" "Z" (.int (0 : Int32))) (F_codes : Fld Z h0 a1 "com/example/cubelet/cubelet/CellStore$Step" "codes" "[I" .null) (F_bits : Fld Z h0 a1 "com/example/cubelet/cubelet/CellStore$Step" "bits" "[J" .null) (gn_a : n0 ≤ a1) (kd : ClassId) (c0 c1 c2 c3 : Int32) (A_d : Arv Z h0 d kd .int (4 : Int32) [(.int c0), (.int c1), (.int c2), (.int c3)] (.int (0 : Int32))) (hs : 0 ≤ c0.toInt ∧ c0.toInt ≤ c1.toInt ∧ c1.toInt ≤ c2.toInt ∧ c2.toInt ≤ c3.toInt) (nad : a1 ≠ d) :
    MetFree l (⟨"com/example/cubelet/cubelet/CellStore$Step", "<init>", "(Z[IZZ)V"⟩ : MethodName) (head1 (Jvm.Cond.code (⟨"com/example/cubelet/cubelet/CellStore$Step", "<init>", "(Z[IZZ)V"⟩ : MethodName) prog_13_method_1_code 10 none :: ws) ({ frames := 1, cells := 1, slots := 33, locals := 12 } : Room)) (fun aQ UQ => aQ = #[(.ref a1), (.int (1 : Int32)), (.ref d), (.int (0 : Int32)), (.int (0 : Int32))] ∧ Z.Warmed39 UQ.vm ∧ UQ.heap = h0) (fun _ _ _ _ _ => True) (fun _ UQ oQ UR => ∃ vQ LQ, oQ = .returned vQ ∧ own_Init Z a1 (.ref d) (fun h => own_Bits Z h a1 c3.toInt (fun q => c0.toInt = q ∨ c1.toInt = q ∨ c2.toInt = q ∨ c3.toInt = q)) h0 n0 vQ UR.heap LQ ∧ FrameEnd UQ oQ UR LQ ({ frames := 1, cells := 1, slots := 33, locals := 12 } : Room).cells ({ frames := 1, cells := 1, slots := 33, locals := 12 } : Room).slots) := by
  refine MetFree.of_bodySF (plainFor_of_name pn_72) hisR ?_
  intro p e s m args below meth c s₁ Bd hml0 hP hK
  obtain ⟨rfl, hZ, hh⟩ := hP
  have hx := Bd.exec
  have hby := Bd.bytes
  have hml : c.maxLocals = 10 := hml0
  have hown : s.vm.findClass "com/example/cubelet/cubelet/CellStore$Step" = some m.cls := findClass_of_methodNamed Bd.named
  have hnm := (name_of_methodNamed Bd.named Bd.method).1
  have X0 : Stand p l e ({ frames := 1, cells := 1, slots := 33, locals := 12 } : Room) s m #[(.ref a1), (.int (1 : Int32)), (.ref d), (.int (0 : Int32)), (.int (0 : Int32))] below meth c s₁ [] 0 0 := Stand.of_body Bd
  have e0 : s₁.heap = h0 := by rw [← hh, Bd.state]; rfl
  have N0 := Fr.nil n0
  have pre0 : ∀ t, Steps p.tables e below (s₁.setTop (mkF m 0 #[.val (.ref a1), .val (.int (1 : Int32)), .val (.ref d), .val (.int (0 : Int32)), .val (.int (0 : Int32)), .unset, .unset, .unset, .unset, .unset] [])) t → Steps p.tables e below (s₁.setTop (entryFrame m #[(.ref a1), (.int (1 : Int32)), (.ref d), (.int (0 : Int32)), (.int (0 : Int32))] 10)) t := fun t kq => castTop (ef_rm_ini_4 m a1 d) kq
  obtain ⟨T289, X289, e289, st289⟩ := initO X0 hx hZ hown (own_q hw 15 rfl) (own_q hw 16 rfl) (own_q hw 17 rfl) e0 (g := (mkF m 1 #[.val (.ref a1), .val (.int (1 : Int32)), .val (.ref d), .val (.int (0 : Int32)), .val (.int (0 : Int32)), .unset, .unset, .unset, .unset, .unset] [(.ref a1)])) rfl (by rw [hml]; rfl) rfl (hb hby d3_1) (by decide) (W := 0) (by show 2 * 0 + _ ≤ _; exact Nat.le_of_eq rfl) (by decide)
  obtain ⟨T290, h290, X290, e290, W290, st290⟩ := putFN X289 hx hZ hown (own_q hw 18 rfl) Via.refl e289 F_takesValues E_a (Or.inr ⟨(own_q hw 19 rfl), rfl, hnm⟩) (own_q hw 11 rfl) (ty := .boolean) (v' := (.int (1 : Int32))) (by decide) rfl rfl (g := (mkF m 6 #[.val (.ref a1), .val (.int (1 : Int32)), .val (.ref d), .val (.int (0 : Int32)), .val (.int (0 : Int32)), .unset, .unset, .unset, .unset, .unset] [(.int (1 : Int32)), (.ref a1)])) rfl rfl (hb hby d3_6)
  have KP290 := Keep.wr (Keep.refl h0 [a1]) W290 (Or.inl (List.mem_of_getElem? (i := 0) rfl))
  have Fw290 := F_takesValues.same W290
  have N290 := Fr.snoc X290 N0 gn_a
  have Fx291 := (E_a.wr W290)
  have Fx292 := (F_codes.other W290 (Or.inr (slot_ne (Or.inr (own_q hw 21 rfl)) (Or.inr (own_q hw 19 rfl)) (by decide) (t := (.array .int)) (t' := .boolean) (by decide) (by decide))))
  obtain ⟨T293, h293, X293, e293, W293, st293⟩ := putF X290 hx hZ hown (host := "") (Or.inl (own_q hw 20 rfl)) Via.refl e290 Fx292 Fx291 (Or.inr ⟨(own_q hw 21 rfl), rfl, hnm⟩) (own_q hw 11 rfl) (ty := (.array .int)) (by decide) rfl rfl (g := (mkF m 11 #[.val (.ref a1), .val (.int (1 : Int32)), .val (.ref d), .val (.int (0 : Int32)), .val (.int (0 : Int32)), .unset, .unset, .unset, .unset, .unset] [(.ref d), (.ref a1)])) rfl rfl (hb hby d3_11)
  have KP293 := Keep.wr KP290 W293 (Or.inl (List.mem_of_getElem? (i := 0) rfl))
  have Fw293 := Fx292.same W293
  have N293 := Fr.snoc X293 N290 gn_a
  have Fx294 := (Fx291.wr W293)
  have Fx295 := ((F_takesAll.other W290 (Or.inr (slot_ne (Or.inr (own_q hw 23 rfl)) (Or.inr (own_q hw 19 rfl)) (by decide) (t := .boolean) (t' := .boolean) (by decide) (by decide)))).other W293 (Or.inr (slot_ne (Or.inr (own_q hw 23 rfl)) (Or.inr (own_q hw 21 rfl)) (by decide) (t := .boolean) (t' := (.array .int)) (by decide) (by decide))))
  obtain ⟨T296, h296, X296, e296, W296, st296⟩ := putFN X293 hx hZ hown (own_q hw 22 rfl) Via.refl e293 Fx295 Fx294 (Or.inr ⟨(own_q hw 23 rfl), rfl, hnm⟩) (own_q hw 11 rfl) (ty := .boolean) (v' := (.int (0 : Int32))) (by decide) rfl rfl (g := (mkF m 16 #[.val (.ref a1), .val (.int (1 : Int32)), .val (.ref d), .val (.int (0 : Int32)), .val (.int (0 : Int32)), .unset, .unset, .unset, .unset, .unset] [(.int (0 : Int32)), (.ref a1)])) rfl rfl (hb hby d3_16)
  have KP296 := Keep.wr KP293 W296 (Or.inl (List.mem_of_getElem? (i := 0) rfl))
  have Fw296 := Fx295.same W296
  have N296 := Fr.snoc X296 N293 gn_a
  have Fx297 := (Fx294.wr W296)
  have Fx298 := (((F_apart.other W290 (Or.inr (slot_ne (Or.inr (own_q hw 25 rfl)) (Or.inr (own_q hw 19 rfl)) (by decide) (t := .boolean) (t' := .boolean) (by decide) (by decide)))).other W293 (Or.inr (slot_ne (Or.inr (own_q hw 25 rfl)) (Or.inr (own_q hw 21 rfl)) (by decide) (t := .boolean) (t' := (.array .int)) (by decide) (by decide)))).other W296 (Or.inr (slot_ne (Or.inr (own_q hw 25 rfl)) (Or.inr (own_q hw 23 rfl)) (by decide) (t := .boolean) (t' := .boolean) (by decide) (by decide))))
  obtain ⟨T299, h299, X299, e299, W299, st299⟩ := putFN X296 hx hZ hown (own_q hw 24 rfl) Via.refl e296 Fx298 Fx297 (Or.inr ⟨(own_q hw 25 rfl), rfl, hnm⟩) (own_q hw 11 rfl) (ty := .boolean) (v' := (.int (0 : Int32))) (by decide) rfl rfl (g := (mkF m 22 #[.val (.ref a1), .val (.int (1 : Int32)), .val (.ref d), .val (.int (0 : Int32)), .val (.int (0 : Int32)), .unset, .unset, .unset, .unset, .unset] [(.int (0 : Int32)), (.ref a1)])) rfl rfl (hb hby d3_22)
  have KP299 := Keep.wr KP296 W299 (Or.inl (List.mem_of_getElem? (i := 0) rfl))
  have Fw299 := Fx298.same W299
  have N299 := Fr.snoc X299 N296 gn_a
  have Fx300 := ((((A_d.other W290 (Ne.symm nad)).other W293 (Ne.symm nad)).other W296 (Ne.symm nad)).other W299 (Ne.symm nad))
  have Vc301 := Fx300
  obtain ⟨cl301, Ar301, q301, S301, N301_, H301_, G301⟩ := Vc301
  have Vc302 := Fx300
  obtain ⟨cl302, Ar302, q302, S302, N302_, H302_, G302⟩ := Vc302
  have Vc303 := Fx300
  obtain ⟨cl303, Ar303, q303, S303, N303_, H303_, G303⟩ := Vc303
  have hin303 : ¬ ((3 : Int32) < 0 ∨ cl303.slots.size ≤ ((3 : Int32)).toNatClampNeg) := inb_of S303 ⟨by decide, by decide⟩
  have hat303 : cl303.slots[((3 : Int32)).toNatClampNeg]? = some (.int c3) := Has.at H303_ hin303 rfl
  have Vc304 := Fx300
  obtain ⟨cl304, Ar304, q304, S304, N304_, H304_, G304⟩ := Vc304
  have Vc305 := Fx300
  obtain ⟨cl305, Ar305, q305, S305, N305_, H305_, G305⟩ := Vc305
  have ck307 : ∀ t, Steps p.tables e below (T299.setTop (mkF m 66 #[.val (.ref a1), .val (.int (1 : Int32)), .val (.ref d), .val (.int (0 : Int32)), .val (.int (0 : Int32)), .val (.int c3), .unset, .unset, .unset, .unset] [(.int (64 : Int32)), (.int (c3 / (32 : Int32)))])) t → Steps p.tables e below (s₁.setTop (entryFrame m #[(.ref a1), (.int (1 : Int32)), (.ref d), (.int (0 : Int32)), (.int (0 : Int32))] 10)) t := by
    intro t kt
    refine pre0 _ ?_
    refine XS.aloadN X0.here hx rfl (hb hby d3_0) rfl rfl ?_
    refine st289 _ ?_
    show Steps p.tables e below (T289.setTop (mkF m 4 #[.val (.ref a1), .val (.int (1 : Int32)), .val (.ref d), .val (.int (0 : Int32)), .val (.int (0 : Int32)), .unset, .unset, .unset, .unset, .unset] [])) _
    refine XS.aloadN X289.here hx rfl (hb hby d3_4) rfl rfl ?_
    refine XS.iloadN X289.here hx rfl (hb hby d3_5) rfl ?_
    refine st290 _ ?_
    show Steps p.tables e below (T290.setTop (mkF m 9 #[.val (.ref a1), .val (.int (1 : Int32)), .val (.ref d), .val (.int (0 : Int32)), .val (.int (0 : Int32)), .unset, .unset, .unset, .unset, .unset] [])) _
    refine XS.aloadN X290.here hx rfl (hb hby d3_9) rfl rfl ?_
    refine XS.aloadN X290.here hx rfl (hb hby d3_10) rfl rfl ?_
    refine st293 _ ?_
    show Steps p.tables e below (T293.setTop (mkF m 14 #[.val (.ref a1), .val (.int (1 : Int32)), .val (.ref d), .val (.int (0 : Int32)), .val (.int (0 : Int32)), .unset, .unset, .unset, .unset, .unset] [])) _
    refine XS.aloadN X293.here hx rfl (hb hby d3_14) rfl rfl ?_
    refine XS.iloadN X293.here hx rfl (hb hby d3_15) rfl ?_
    refine st296 _ ?_
    show Steps p.tables e below (T296.setTop (mkF m 19 #[.val (.ref a1), .val (.int (1 : Int32)), .val (.ref d), .val (.int (0 : Int32)), .val (.int (0 : Int32)), .unset, .unset, .unset, .unset, .unset] [])) _
    refine XS.aloadN X296.here hx rfl (hb hby d3_19) rfl rfl ?_
    refine XS.iload X296.here hx rfl (hb hby d3_20) rfl ?_
    refine st299 _ ?_
    show Steps p.tables e below (T299.setTop (mkF m 25 #[.val (.ref a1), .val (.int (1 : Int32)), .val (.ref d), .val (.int (0 : Int32)), .val (.int (0 : Int32)), .unset, .unset, .unset, .unset, .unset] [])) _
    refine XS.aloadN X299.here hx rfl (hb hby d3_25) rfl rfl ?_
    refine XS.ifnullNo X299.here hx rfl (hb hby d3_26) rfl ?_
    refine XS.aloadN X299.here hx rfl (hb hby d3_29) rfl rfl ?_
    refine X299.arraylength hx (by rw [e299]; exact Ar301.1) (State.isArrayOf_alike hZ.alike Ar301.2.1) (g := (mkF m 30 #[.val (.ref a1), .val (.int (1 : Int32)), .val (.ref d), .val (.int (0 : Int32)), .val (.int (0 : Int32)), .unset, .unset, .unset, .unset, .unset] [(.ref d)])) rfl rfl (hb hby d3_30) _ ?_
    rw [len_of S301 N301_]
    show Steps p.tables e below (T299.setTop (mkF m 31 #[.val (.ref a1), .val (.int (1 : Int32)), .val (.ref d), .val (.int (0 : Int32)), .val (.int (0 : Int32)), .unset, .unset, .unset, .unset, .unset] [(.int (4 : Int32))])) _
    refine XS.ifYes X299.here hx rfl (pc0 := 31) (pc' := 38) rfl (hb hby d3_31) rfl ((if0 _ _).trans (feq (by decide : ¬ ((4 : Int32) = (0 : Int32)))).2) (by decide) (by decide) ?_
    refine XS.aloadN X299.here hx rfl (hb hby d3_38) rfl rfl ?_
    refine XS.aloadN X299.here hx rfl (hb hby d3_39) rfl rfl ?_
    refine X299.arraylength hx (by rw [e299]; exact Ar302.1) (State.isArrayOf_alike hZ.alike Ar302.2.1) (g := (mkF m 40 #[.val (.ref a1), .val (.int (1 : Int32)), .val (.ref d), .val (.int (0 : Int32)), .val (.int (0 : Int32)), .unset, .unset, .unset, .unset, .unset] [(.ref d), (.ref d)])) rfl rfl (hb hby d3_40) _ ?_
    rw [len_of S302 N302_]
    show Steps p.tables e below (T299.setTop (mkF m 41 #[.val (.ref a1), .val (.int (1 : Int32)), .val (.ref d), .val (.int (0 : Int32)), .val (.int (0 : Int32)), .unset, .unset, .unset, .unset, .unset] [(.int (4 : Int32)), (.ref d)])) _
    refine XS.iconst X299.here hx rfl (hb hby d3_41) ?_
    refine XS.isub X299.here hx rfl (hb hby d3_42) rfl ?_
    refine X299.iaload hx (j := (3 : Int32)) (v := (.int c3)) (by rw [e299]; exact Ar303.1) (State.isArrayOf_alike hZ.alike Ar303.2.1) Ar303.2.2 hin303 hat303 (g := (mkF m 43 #[.val (.ref a1), .val (.int (1 : Int32)), .val (.ref d), .val (.int (0 : Int32)), .val (.int (0 : Int32)), .unset, .unset, .unset, .unset, .unset] [(.int (3 : Int32)), (.ref d)])) rfl rfl (hb hby d3_43) _ ?_
    show Steps p.tables e below (T299.setTop (mkF m 44 #[.val (.ref a1), .val (.int (1 : Int32)), .val (.ref d), .val (.int (0 : Int32)), .val (.int (0 : Int32)), .unset, .unset, .unset, .unset, .unset] [(.int c3)])) _
    refine XS.istore X299.here hx rfl (hb hby d3_44) rfl (l' := #[.val (.ref a1), .val (.int (1 : Int32)), .val (.ref d), .val (.int (0 : Int32)), .val (.int (0 : Int32)), .val (.int c3), .unset, .unset, .unset, .unset]) rfl ?_
    refine XS.aloadN X299.here hx rfl (hb hby d3_46) rfl rfl ?_
    refine XS.ifnullNo X299.here hx rfl (hb hby d3_47) rfl ?_
    refine XS.aloadN X299.here hx rfl (hb hby d3_50) rfl rfl ?_
    refine X299.arraylength hx (by rw [e299]; exact Ar304.1) (State.isArrayOf_alike hZ.alike Ar304.2.1) (g := (mkF m 51 #[.val (.ref a1), .val (.int (1 : Int32)), .val (.ref d), .val (.int (0 : Int32)), .val (.int (0 : Int32)), .val (.int c3), .unset, .unset, .unset, .unset] [(.ref d)])) rfl rfl (hb hby d3_51) _ ?_
    rw [len_of S304 N304_]
    show Steps p.tables e below (T299.setTop (mkF m 52 #[.val (.ref a1), .val (.int (1 : Int32)), .val (.ref d), .val (.int (0 : Int32)), .val (.int (0 : Int32)), .val (.int c3), .unset, .unset, .unset, .unset] [(.int (4 : Int32))])) _
    refine XS.iconst X299.here hx rfl (hb hby d3_52) ?_
    refine XS.icmpNo X299.here hx rfl (hb hby d3_53) rfl (tlt (by decide : (1 : Int32) < (4 : Int32))).2.2.2 ?_
    refine XS.iload X299.here hx rfl (hb hby d3_56) rfl ?_
    refine XS.bipush X299.here hx rfl (hb hby d3_58) ?_
    refine XS.idiv X299.here hx rfl (hb hby d3_60) rfl (by decide) ?_
    refine XS.bipush X299.here hx rfl (hb hby d3_61) ?_
    refine XS.aloadN X299.here hx rfl (hb hby d3_63) rfl rfl ?_
    refine X299.arraylength hx (by rw [e299]; exact Ar305.1) (State.isArrayOf_alike hZ.alike Ar305.2.1) (g := (mkF m 64 #[.val (.ref a1), .val (.int (1 : Int32)), .val (.ref d), .val (.int (0 : Int32)), .val (.int (0 : Int32)), .val (.int c3), .unset, .unset, .unset, .unset] [(.ref d), (.int (16 : Int32)), (.int (c3 / (32 : Int32)))])) rfl rfl (hb hby d3_64) _ ?_
    rw [len_of S305 N305_]
    show Steps p.tables e below (T299.setTop (mkF m 65 #[.val (.ref a1), .val (.int (1 : Int32)), .val (.ref d), .val (.int (0 : Int32)), .val (.int (0 : Int32)), .val (.int c3), .unset, .unset, .unset, .unset] [(.int (4 : Int32)), (.int (16 : Int32)), (.int (c3 / (32 : Int32)))])) _
    refine XS.imul X299.here hx rfl (hb hby d3_65) rfl ?_
    exact kt
  (try clear G305); (try clear H305_); (try clear N305_); (try clear S305); (try clear q305); (try clear Ar305); (try clear cl305); (try clear G304); (try clear H304_); (try clear N304_); (try clear S304); (try clear q304); (try clear Ar304); (try clear cl304); (try clear hat303); (try clear hin303); (try clear G303); (try clear H303_); (try clear N303_); (try clear S303); (try clear q303); (try clear Ar303); (try clear cl303); (try clear G302); (try clear H302_); (try clear N302_); (try clear S302); (try clear q302); (try clear Ar302); (try clear cl302); (try clear G301); (try clear H301_); (try clear N301_); (try clear S301); (try clear q301); (try clear Ar301); (try clear cl301); (try clear st299); (try clear Fx298); (try clear N296); (try clear KP296); (try clear st296); (try clear e296); (try clear X296); (try clear h296); (try clear T296); (try clear Fx295); (try clear Fx294); (try clear N293); (try clear KP293); (try clear st293); (try clear e293); (try clear X293); (try clear h293); (try clear T293); (try clear Fx292); (try clear Fx291); (try clear N290); (try clear KP290); (try clear st290); (try clear e290); (try clear X290); (try clear h290); (try clear T290); (try clear st289); (try clear e289); (try clear X289); (try clear T289)
  by_cases hc66_306 : (64 : Int32) < (c3 / (32 : Int32))
  · -- pc 66: yes
    have Fx308 := (Fx297.wr W299)
    have Fx309 := ((((F_bits.other W290 (Or.inr (slot_ne (Or.inr (own_q hw 28 rfl)) (Or.inr (own_q hw 19 rfl)) (by decide) (t := (.array .long)) (t' := .boolean) (by decide) (by decide)))).other W293 (Or.inr (slot_ne (Or.inr (own_q hw 28 rfl)) (Or.inr (own_q hw 21 rfl)) (by decide) (t := (.array .long)) (t' := (.array .int)) (by decide) (by decide)))).other W296 (Or.inr (slot_ne (Or.inr (own_q hw 28 rfl)) (Or.inr (own_q hw 23 rfl)) (by decide) (t := (.array .long)) (t' := .boolean) (by decide) (by decide)))).other W299 (Or.inr (slot_ne (Or.inr (own_q hw 28 rfl)) (Or.inr (own_q hw 25 rfl)) (by decide) (t := (.array .long)) (t' := .boolean) (by decide) (by decide))))
    obtain ⟨T310, h310, X310, e310, W310, st310⟩ := putF X299 hx hZ hown (host := "") (Or.inl (own_q hw 27 rfl)) Via.refl e299 Fx309 Fx308 (Or.inr ⟨(own_q hw 28 rfl), rfl, hnm⟩) (own_q hw 11 rfl) (ty := (.array .long)) (by decide) rfl rfl (g := (mkF m 135 #[.val (.ref a1), .val (.int (1 : Int32)), .val (.ref d), .val (.int (0 : Int32)), .val (.int (0 : Int32)), .val (.int c3), .unset, .unset, .unset, .unset] [.null, (.ref a1)])) rfl rfl (hb hby d3_135)
    have KP310 := Keep.wr KP299 W310 (Or.inl (List.mem_of_getElem? (i := 0) rfl))
    have Fw310 := Fx309.same W310
    have N310 := Fr.snoc X310 N299 gn_a
    have Fx311 := (Fx308.wr W310)
    have Fx312 := (((Fw293.other W296 (Or.inr (slot_ne (Or.inr (own_q hw 21 rfl)) (Or.inr (own_q hw 23 rfl)) (by decide) (t := (.array .int)) (t' := .boolean) (by decide) (by decide)))).other W299 (Or.inr (slot_ne (Or.inr (own_q hw 21 rfl)) (Or.inr (own_q hw 25 rfl)) (by decide) (t := (.array .int)) (t' := .boolean) (by decide) (by decide)))).other W310 (Or.inr (slot_ne (Or.inr (own_q hw 21 rfl)) (Or.inr (own_q hw 28 rfl)) (by decide) (t := (.array .int)) (t' := (.array .long)) (by decide) (by decide))))
    obtain ⟨fs, hr, hrun, hended, hW, hsame⟩ := X310.leave (v := none) (fun _ => rfl)
    refine ⟨_, _, ck307 _ ?_, hrun, hended, _, _, rfl, ?_, ⟨_, rfl⟩, hW, hsame.mono (by decide) (by decide)⟩
    · refine XS.icmpYes X299.here hx rfl (pc0 := 66) (pc' := 133) rfl (hb hby d3_66) rfl (tlt hc66_306).2.2.1 (by decide) (by decide) ?_
      refine XS.aloadN X299.here hx rfl (hb hby d3_133) rfl rfl ?_
      refine XS.aconstNull X299.here hx rfl (hb hby d3_134) ?_
      refine st310 _ ?_
      show Steps p.tables e below (T310.setTop (mkF m 138 #[.val (.ref a1), .val (.int (1 : Int32)), .val (.ref d), .val (.int (0 : Int32)), .val (.int (0 : Int32)), .val (.int c3), .unset, .unset, .unset, .unset] [])) _
      exact X310.returnOut hx Bd.returns (hb hby d3_138) hr
    · show own_Init Z a1 (.ref d) (fun h => own_Bits Z h a1 c3.toInt (fun q => c0.toInt = q ∨ c1.toInt = q ∨ c2.toInt = q ∨ c3.toInt = q)) h0 n0 _ T310.heap _
      rw [e310]
      exact ⟨rfl, N310, KP310, Fx311, Fx312, Or.inl Fw310⟩
  · -- pc 66: no
    obtain ⟨bz, h_bz⟩ : ∃ zQ : Int32, ((c3 / (64 : Int32)) + (1 : Int32)) = zQ := ⟨_, rfl⟩
    have hbz : bz.toInt = c3.toInt / 64 + 1 ∧ bz.toInt ≤ 33 := by rw [← h_bz]; exact own_bz (by omega) (by decide) hc66_306
    have hbz0 : ¬ bz < 0 := own_nn (by omega)
    have hbzc : bz.toNatClampNeg ≤ 33 := own_cap hbz0 (by omega)
    have Fx313 := (Fx297.wr W299)
    obtain ⟨T314, h314, k314, X314, e314, E314, A314, st314⟩ := newP X299 hx hZ (own_q hw 26 rfl) e299 (g := (mkF m 77 #[.val (.ref a1), .val (.int (1 : Int32)), .val (.ref d), .val (.int (0 : Int32)), .val (.int (0 : Int32)), .val (.int c3), .unset, .unset, .unset, .unset] [(.int bz), (.ref a1)])) rfl (hb hby d3_77) rfl hbz0 (cap := 33) hbzc (by decide) (by decide) (by decide)
    obtain ⟨b314, g314⟩ : ∃ z, z = h299.size := ⟨_, rfl⟩
    rw [← g314] at A314 st314
    have sz_b314 : h0.size ≤ b314 := Nat.le_trans KP299.1 (Nat.le_of_eq g314.symm)
    have gn_b314 : n0 ≤ b314 := Nat.le_trans Z0 sz_b314
    have ne_a1_b314 : a1 ≠ b314 := Nat.ne_of_lt (Nat.lt_of_lt_of_le Fx313.lt (Nat.le_of_eq g314.symm))
    have ne_d_b314 : d ≠ b314 := Nat.ne_of_lt (Nat.lt_of_lt_of_le Fx300.lt (Nat.le_of_eq g314.symm))
    have KP314 := Keep.ext KP299 E314
    have V314 : own_FL Z h314 b314 k314 bz (fun _ => (0 : Int64)) := own_FL.new A314 hbz0
    have hS_0 := own_says0
    have Fx315 := (Fx313.ext E314)
    have Fx316 := (((((F_bits.other W290 (Or.inr (slot_ne (Or.inr (own_q hw 28 rfl)) (Or.inr (own_q hw 19 rfl)) (by decide) (t := (.array .long)) (t' := .boolean) (by decide) (by decide)))).other W293 (Or.inr (slot_ne (Or.inr (own_q hw 28 rfl)) (Or.inr (own_q hw 21 rfl)) (by decide) (t := (.array .long)) (t' := (.array .int)) (by decide) (by decide)))).other W296 (Or.inr (slot_ne (Or.inr (own_q hw 28 rfl)) (Or.inr (own_q hw 23 rfl)) (by decide) (t := (.array .long)) (t' := .boolean) (by decide) (by decide)))).other W299 (Or.inr (slot_ne (Or.inr (own_q hw 28 rfl)) (Or.inr (own_q hw 25 rfl)) (by decide) (t := (.array .long)) (t' := .boolean) (by decide) (by decide)))).ext E314)
    obtain ⟨T317, h317, X317, e317, W317, st317⟩ := putF X314 hx hZ hown (host := "") (Or.inl (own_q hw 27 rfl)) Via.refl e314 Fx316 Fx315 (Or.inr ⟨(own_q hw 28 rfl), rfl, hnm⟩) (own_q hw 11 rfl) (ty := (.array .long)) (by decide) rfl rfl (g := (mkF m 79 #[.val (.ref a1), .val (.int (1 : Int32)), .val (.ref d), .val (.int (0 : Int32)), .val (.int (0 : Int32)), .val (.int c3), .unset, .unset, .unset, .unset] [(.ref b314), (.ref a1)])) rfl rfl (hb hby d3_79)
    have KP317 := Keep.wr KP314 W317 (Or.inl (List.mem_of_getElem? (i := 0) rfl))
    have Fw317 := Fx316.same W317
    have N317 := Fr.snoc X317 N299 gn_a
    have Fx318 := ((Fx300.ext E314).other W317 (Ne.symm nad))
    have Vc319 := Fx318
    obtain ⟨cl319, Ar319, q319, S319, N319_, H319_, G319⟩ := Vc319
    have Vc320 := Fx318
    obtain ⟨cl320, Ar320, q320, S320, N320_, H320_, G320⟩ := Vc320
    have hin320 : ¬ ((0 : Int32) < 0 ∨ cl320.slots.size ≤ ((0 : Int32)).toNatClampNeg) := inb_of S320 ⟨by decide, by decide⟩
    have hat320 : cl320.slots[((0 : Int32)).toNatClampNeg]? = some (.int c0) := Has.at H320_ hin320 rfl
    obtain ⟨T321, X321, e321, st321⟩ := getF X317 hx hZ hown (host := "") (Or.inl (own_q hw 27 rfl)) Via.refl e317 Fw317 (g := (mkF m 108 #[.val (.ref a1), .val (.int (1 : Int32)), .val (.ref d), .val (.int (0 : Int32)), .val (.int (0 : Int32)), .val (.int c3), .val (.ref d), .val (.int (4 : Int32)), .val (.int (0 : Int32)), .val (.int c0)] [(.ref a1)])) rfl rfl (hb hby d3_108)
    have Fx322 := (V314.other W317 (Ne.symm ne_a1_b314))
    have Vc323 := Fx322
    obtain ⟨cl323, Ar323, q323, S323, N323_, H323_, G323⟩ := Vc323
    have hin323 : ¬ ((c0 / (64 : Int32)) < 0 ∨ cl323.slots.size ≤ ((c0 / (64 : Int32))).toNatClampNeg) := inb_of S323 ⟨(own_nn (by have := own_div64 c0 (by omega); omega)), (own_lt32 (by have := own_div64 c0 (by omega); omega))⟩
    have Vc324 := Fx322
    obtain ⟨cl324, Ar324, q324, S324, N324_, H324_, G324⟩ := Vc324
    have hin324 : ¬ ((c0 / (64 : Int32)) < 0 ∨ cl324.slots.size ≤ ((c0 / (64 : Int32))).toNatClampNeg) := inb_of S324 ⟨(own_nn (by have := own_div64 c0 (by omega); omega)), (own_lt32 (by have := own_div64 c0 (by omega); omega))⟩
    obtain ⟨T325, h325, X325, e325, W325, st325⟩ := stJ X321 hx hZ e321 Ar324 (j := (c0 / (64 : Int32))) hin324 (g := (mkF m 123 #[.val (.ref a1), .val (.int (1 : Int32)), .val (.ref d), .val (.int (0 : Int32)), .val (.int (0 : Int32)), .val (.int c3), .val (.ref d), .val (.int (4 : Int32)), .val (.int (0 : Int32)), .val (.int c0)] [(.long (((fun _ => (0 : Int64)) ((c0 / (64 : Int32))).toNatClampNeg) ||| ((1 : Int64) <<< (c0 &&& 0x3f).toInt64))), (.int (c0 / (64 : Int32))), (.ref b314)])) rfl rfl (hb hby d3_123)
    have KP325 := Keep.wr KP317 W325 (Or.inr sz_b314)
    have V325 : own_FL Z h325 b314 k314 bz (fun i => if i = ((c0 / (64 : Int32))).toNatClampNeg then (((fun _ => (0 : Int64)) ((c0 / (64 : Int32))).toNatClampNeg) ||| ((1 : Int64) <<< (c0 &&& 0x3f).toInt64)) else (fun _ => (0 : Int64)) i) := own_FL.set Ar324 q324 S324 N324_ H324_ G324 W325
    have N325 := Fr.snoc X325 N317 gn_b314
    obtain ⟨g_0, hS_1, B_0⟩ : ∃ g : Nat → Int64, own_Says g (fun q => (False ∨ c0.toInt = q)) ∧ own_FL Z h325 b314 k314 bz g := ⟨_, own_saysS hS_0 (by omega : 0 ≤ c0.toInt), V325⟩
    have Fx326 := (Fx318.other W325 ne_d_b314)
    have Vc327 := Fx326
    obtain ⟨cl327, Ar327, q327, S327, N327_, H327_, G327⟩ := Vc327
    have hin327 : ¬ ((1 : Int32) < 0 ∨ cl327.slots.size ≤ ((1 : Int32)).toNatClampNeg) := inb_of S327 ⟨by decide, by decide⟩
    have hat327 : cl327.slots[((1 : Int32)).toNatClampNeg]? = some (.int c1) := Has.at H327_ hin327 rfl
    have Fx328 := (Fw317.other W325 (Or.inl ne_a1_b314))
    obtain ⟨T329, X329, e329, st329⟩ := getF X325 hx hZ hown (host := "") (Or.inl (own_q hw 27 rfl)) Via.refl e325 Fx328 (g := (mkF m 108 #[.val (.ref a1), .val (.int (1 : Int32)), .val (.ref d), .val (.int (0 : Int32)), .val (.int (0 : Int32)), .val (.int c3), .val (.ref d), .val (.int (4 : Int32)), .val (.int (1 : Int32)), .val (.int c1)] [(.ref a1)])) rfl rfl (hb hby d3_108)
    have Vc330 := B_0
    obtain ⟨cl330, Ar330, q330, S330, N330_, H330_, G330⟩ := Vc330
    have hin330 : ¬ ((c1 / (64 : Int32)) < 0 ∨ cl330.slots.size ≤ ((c1 / (64 : Int32))).toNatClampNeg) := inb_of S330 ⟨(own_nn (by have := own_div64 c1 (by omega); omega)), (own_lt32 (by have := own_div64 c1 (by omega); omega))⟩
    have Vc331 := B_0
    obtain ⟨cl331, Ar331, q331, S331, N331_, H331_, G331⟩ := Vc331
    have hin331 : ¬ ((c1 / (64 : Int32)) < 0 ∨ cl331.slots.size ≤ ((c1 / (64 : Int32))).toNatClampNeg) := inb_of S331 ⟨(own_nn (by have := own_div64 c1 (by omega); omega)), (own_lt32 (by have := own_div64 c1 (by omega); omega))⟩
    obtain ⟨T332, h332, X332, e332, W332, st332⟩ := stJ X329 hx hZ e329 Ar331 (j := (c1 / (64 : Int32))) hin331 (g := (mkF m 123 #[.val (.ref a1), .val (.int (1 : Int32)), .val (.ref d), .val (.int (0 : Int32)), .val (.int (0 : Int32)), .val (.int c3), .val (.ref d), .val (.int (4 : Int32)), .val (.int (1 : Int32)), .val (.int c1)] [(.long ((g_0 ((c1 / (64 : Int32))).toNatClampNeg) ||| ((1 : Int64) <<< (c1 &&& 0x3f).toInt64))), (.int (c1 / (64 : Int32))), (.ref b314)])) rfl rfl (hb hby d3_123)
    have KP332 := Keep.wr KP325 W332 (Or.inr sz_b314)
    have V332 : own_FL Z h332 b314 k314 bz (fun i => if i = ((c1 / (64 : Int32))).toNatClampNeg then ((g_0 ((c1 / (64 : Int32))).toNatClampNeg) ||| ((1 : Int64) <<< (c1 &&& 0x3f).toInt64)) else g_0 i) := own_FL.set Ar331 q331 S331 N331_ H331_ G331 W332
    have N332 := Fr.snoc X332 N325 gn_b314
    obtain ⟨g_1, hS_2, B_1⟩ : ∃ g : Nat → Int64, own_Says g (fun q => ((False ∨ c0.toInt = q) ∨ c1.toInt = q)) ∧ own_FL Z h332 b314 k314 bz g := ⟨_, own_saysS hS_1 (by omega : 0 ≤ c1.toInt), V332⟩
    have Fx333 := (Fx326.other W332 ne_d_b314)
    have Vc334 := Fx333
    obtain ⟨cl334, Ar334, q334, S334, N334_, H334_, G334⟩ := Vc334
    have hin334 : ¬ ((2 : Int32) < 0 ∨ cl334.slots.size ≤ ((2 : Int32)).toNatClampNeg) := inb_of S334 ⟨by decide, by decide⟩
    have hat334 : cl334.slots[((2 : Int32)).toNatClampNeg]? = some (.int c2) := Has.at H334_ hin334 rfl
    have Fx335 := (Fx328.other W332 (Or.inl ne_a1_b314))
    obtain ⟨T336, X336, e336, st336⟩ := getF X332 hx hZ hown (host := "") (Or.inl (own_q hw 27 rfl)) Via.refl e332 Fx335 (g := (mkF m 108 #[.val (.ref a1), .val (.int (1 : Int32)), .val (.ref d), .val (.int (0 : Int32)), .val (.int (0 : Int32)), .val (.int c3), .val (.ref d), .val (.int (4 : Int32)), .val (.int (2 : Int32)), .val (.int c2)] [(.ref a1)])) rfl rfl (hb hby d3_108)
    have Vc337 := B_1
    obtain ⟨cl337, Ar337, q337, S337, N337_, H337_, G337⟩ := Vc337
    have hin337 : ¬ ((c2 / (64 : Int32)) < 0 ∨ cl337.slots.size ≤ ((c2 / (64 : Int32))).toNatClampNeg) := inb_of S337 ⟨(own_nn (by have := own_div64 c2 (by omega); omega)), (own_lt32 (by have := own_div64 c2 (by omega); omega))⟩
    have Vc338 := B_1
    obtain ⟨cl338, Ar338, q338, S338, N338_, H338_, G338⟩ := Vc338
    have hin338 : ¬ ((c2 / (64 : Int32)) < 0 ∨ cl338.slots.size ≤ ((c2 / (64 : Int32))).toNatClampNeg) := inb_of S338 ⟨(own_nn (by have := own_div64 c2 (by omega); omega)), (own_lt32 (by have := own_div64 c2 (by omega); omega))⟩
    obtain ⟨T339, h339, X339, e339, W339, st339⟩ := stJ X336 hx hZ e336 Ar338 (j := (c2 / (64 : Int32))) hin338 (g := (mkF m 123 #[.val (.ref a1), .val (.int (1 : Int32)), .val (.ref d), .val (.int (0 : Int32)), .val (.int (0 : Int32)), .val (.int c3), .val (.ref d), .val (.int (4 : Int32)), .val (.int (2 : Int32)), .val (.int c2)] [(.long ((g_1 ((c2 / (64 : Int32))).toNatClampNeg) ||| ((1 : Int64) <<< (c2 &&& 0x3f).toInt64))), (.int (c2 / (64 : Int32))), (.ref b314)])) rfl rfl (hb hby d3_123)
    have KP339 := Keep.wr KP332 W339 (Or.inr sz_b314)
    have V339 : own_FL Z h339 b314 k314 bz (fun i => if i = ((c2 / (64 : Int32))).toNatClampNeg then ((g_1 ((c2 / (64 : Int32))).toNatClampNeg) ||| ((1 : Int64) <<< (c2 &&& 0x3f).toInt64)) else g_1 i) := own_FL.set Ar338 q338 S338 N338_ H338_ G338 W339
    have N339 := Fr.snoc X339 N332 gn_b314
    obtain ⟨g_2, hS_3, B_2⟩ : ∃ g : Nat → Int64, own_Says g (fun q => (((False ∨ c0.toInt = q) ∨ c1.toInt = q) ∨ c2.toInt = q)) ∧ own_FL Z h339 b314 k314 bz g := ⟨_, own_saysS hS_2 (by omega : 0 ≤ c2.toInt), V339⟩
    have Fx340 := (Fx333.other W339 ne_d_b314)
    have Vc341 := Fx340
    obtain ⟨cl341, Ar341, q341, S341, N341_, H341_, G341⟩ := Vc341
    have hin341 : ¬ ((3 : Int32) < 0 ∨ cl341.slots.size ≤ ((3 : Int32)).toNatClampNeg) := inb_of S341 ⟨by decide, by decide⟩
    have hat341 : cl341.slots[((3 : Int32)).toNatClampNeg]? = some (.int c3) := Has.at H341_ hin341 rfl
    have Fx342 := (Fx335.other W339 (Or.inl ne_a1_b314))
    obtain ⟨T343, X343, e343, st343⟩ := getF X339 hx hZ hown (host := "") (Or.inl (own_q hw 27 rfl)) Via.refl e339 Fx342 (g := (mkF m 108 #[.val (.ref a1), .val (.int (1 : Int32)), .val (.ref d), .val (.int (0 : Int32)), .val (.int (0 : Int32)), .val (.int c3), .val (.ref d), .val (.int (4 : Int32)), .val (.int (3 : Int32)), .val (.int c3)] [(.ref a1)])) rfl rfl (hb hby d3_108)
    have Vc344 := B_2
    obtain ⟨cl344, Ar344, q344, S344, N344_, H344_, G344⟩ := Vc344
    have hin344 : ¬ ((c3 / (64 : Int32)) < 0 ∨ cl344.slots.size ≤ ((c3 / (64 : Int32))).toNatClampNeg) := inb_of S344 ⟨(own_nn (by have := own_div64 c3 (by omega); omega)), (own_lt32 (by have := own_div64 c3 (by omega); omega))⟩
    have Vc345 := B_2
    obtain ⟨cl345, Ar345, q345, S345, N345_, H345_, G345⟩ := Vc345
    have hin345 : ¬ ((c3 / (64 : Int32)) < 0 ∨ cl345.slots.size ≤ ((c3 / (64 : Int32))).toNatClampNeg) := inb_of S345 ⟨(own_nn (by have := own_div64 c3 (by omega); omega)), (own_lt32 (by have := own_div64 c3 (by omega); omega))⟩
    obtain ⟨T346, h346, X346, e346, W346, st346⟩ := stJ X343 hx hZ e343 Ar345 (j := (c3 / (64 : Int32))) hin345 (g := (mkF m 123 #[.val (.ref a1), .val (.int (1 : Int32)), .val (.ref d), .val (.int (0 : Int32)), .val (.int (0 : Int32)), .val (.int c3), .val (.ref d), .val (.int (4 : Int32)), .val (.int (3 : Int32)), .val (.int c3)] [(.long ((g_2 ((c3 / (64 : Int32))).toNatClampNeg) ||| ((1 : Int64) <<< (c3 &&& 0x3f).toInt64))), (.int (c3 / (64 : Int32))), (.ref b314)])) rfl rfl (hb hby d3_123)
    have KP346 := Keep.wr KP339 W346 (Or.inr sz_b314)
    have V346 : own_FL Z h346 b314 k314 bz (fun i => if i = ((c3 / (64 : Int32))).toNatClampNeg then ((g_2 ((c3 / (64 : Int32))).toNatClampNeg) ||| ((1 : Int64) <<< (c3 &&& 0x3f).toInt64)) else g_2 i) := own_FL.set Ar345 q345 S345 N345_ H345_ G345 W346
    have N346 := Fr.snoc X346 N339 gn_b314
    obtain ⟨g_3, hS_4, B_3⟩ : ∃ g : Nat → Int64, own_Says g (fun q => ((((False ∨ c0.toInt = q) ∨ c1.toInt = q) ∨ c2.toInt = q) ∨ c3.toInt = q)) ∧ own_FL Z h346 b314 k314 bz g := ⟨_, own_saysS hS_3 (by omega : 0 ≤ c3.toInt), V346⟩
    have Fx347 := (Fx342.other W346 (Or.inl ne_a1_b314))
    have Fx348 := (((((Fx315.wr W317).wr W325).wr W332).wr W339).wr W346)
    have Fx349 := ((((((((Fw293.other W296 (Or.inr (slot_ne (Or.inr (own_q hw 21 rfl)) (Or.inr (own_q hw 23 rfl)) (by decide) (t := (.array .int)) (t' := .boolean) (by decide) (by decide)))).other W299 (Or.inr (slot_ne (Or.inr (own_q hw 21 rfl)) (Or.inr (own_q hw 25 rfl)) (by decide) (t := (.array .int)) (t' := .boolean) (by decide) (by decide)))).ext E314).other W317 (Or.inr (slot_ne (Or.inr (own_q hw 21 rfl)) (Or.inr (own_q hw 28 rfl)) (by decide) (t := (.array .int)) (t' := (.array .long)) (by decide) (by decide)))).other W325 (Or.inl ne_a1_b314)).other W332 (Or.inl ne_a1_b314)).other W339 (Or.inl ne_a1_b314)).other W346 (Or.inl ne_a1_b314))
    obtain ⟨fs, hr, hrun, hended, hW, hsame⟩ := X346.leave (v := none) (fun _ => rfl)
    refine ⟨_, _, ck307 _ ?_, hrun, hended, _, _, rfl, ?_, ⟨_, rfl⟩, hW, hsame.mono (by decide) (by decide)⟩
    · refine XS.icmpNo X299.here hx rfl (hb hby d3_66) rfl (flt hc66_306).2.2.1 ?_
      refine XS.aloadN X299.here hx rfl (hb hby d3_69) rfl rfl ?_
      refine XS.iload X299.here hx rfl (hb hby d3_70) rfl ?_
      refine XS.bipush X299.here hx rfl (hb hby d3_72) ?_
      refine XS.idiv X299.here hx rfl (hb hby d3_74) rfl (by decide) ?_
      refine XS.iconst X299.here hx rfl (hb hby d3_75) ?_
      refine XS.iadd X299.here hx rfl (hb hby d3_76) rfl ?_
      show Steps p.tables e below (T299.setTop (mkF m 77 #[.val (.ref a1), .val (.int (1 : Int32)), .val (.ref d), .val (.int (0 : Int32)), .val (.int (0 : Int32)), .val (.int c3), .unset, .unset, .unset, .unset] [(.int ((c3 / (64 : Int32)) + (1 : Int32))), (.ref a1)])) _
      rw [h_bz]
      show Steps p.tables e below (T299.setTop (mkF m 77 #[.val (.ref a1), .val (.int (1 : Int32)), .val (.ref d), .val (.int (0 : Int32)), .val (.int (0 : Int32)), .val (.int c3), .unset, .unset, .unset, .unset] [(.int bz), (.ref a1)])) _
      refine st314 _ ?_
      show Steps p.tables e below (T314.setTop (mkF m 79 #[.val (.ref a1), .val (.int (1 : Int32)), .val (.ref d), .val (.int (0 : Int32)), .val (.int (0 : Int32)), .val (.int c3), .unset, .unset, .unset, .unset] [(.ref b314), (.ref a1)])) _
      refine st317 _ ?_
      show Steps p.tables e below (T317.setTop (mkF m 82 #[.val (.ref a1), .val (.int (1 : Int32)), .val (.ref d), .val (.int (0 : Int32)), .val (.int (0 : Int32)), .val (.int c3), .unset, .unset, .unset, .unset] [])) _
      refine XS.aloadN X317.here hx rfl (hb hby d3_82) rfl rfl ?_
      refine XS.astore X317.here hx rfl (hb hby d3_83) rfl rfl (l' := #[.val (.ref a1), .val (.int (1 : Int32)), .val (.ref d), .val (.int (0 : Int32)), .val (.int (0 : Int32)), .val (.int c3), .val (.ref d), .unset, .unset, .unset]) rfl ?_
      refine XS.aload X317.here hx rfl (hb hby d3_85) rfl rfl ?_
      refine X317.arraylength hx (by rw [e317]; exact Ar319.1) (State.isArrayOf_alike hZ.alike Ar319.2.1) (g := (mkF m 87 #[.val (.ref a1), .val (.int (1 : Int32)), .val (.ref d), .val (.int (0 : Int32)), .val (.int (0 : Int32)), .val (.int c3), .val (.ref d), .unset, .unset, .unset] [(.ref d)])) rfl rfl (hb hby d3_87) _ ?_
      rw [len_of S319 N319_]
      show Steps p.tables e below (T317.setTop (mkF m 88 #[.val (.ref a1), .val (.int (1 : Int32)), .val (.ref d), .val (.int (0 : Int32)), .val (.int (0 : Int32)), .val (.int c3), .val (.ref d), .unset, .unset, .unset] [(.int (4 : Int32))])) _
      refine XS.istore X317.here hx rfl (hb hby d3_88) rfl (l' := #[.val (.ref a1), .val (.int (1 : Int32)), .val (.ref d), .val (.int (0 : Int32)), .val (.int (0 : Int32)), .val (.int c3), .val (.ref d), .val (.int (4 : Int32)), .unset, .unset]) rfl ?_
      refine XS.iconst X317.here hx rfl (hb hby d3_90) ?_
      refine XS.istore X317.here hx rfl (hb hby d3_91) rfl (l' := #[.val (.ref a1), .val (.int (1 : Int32)), .val (.ref d), .val (.int (0 : Int32)), .val (.int (0 : Int32)), .val (.int c3), .val (.ref d), .val (.int (4 : Int32)), .val (.int (0 : Int32)), .unset]) rfl ?_
      refine XS.iload X317.here hx rfl (hb hby d3_93) rfl ?_
      refine XS.iload X317.here hx rfl (hb hby d3_95) rfl ?_
      refine XS.icmpNo X317.here hx rfl (hb hby d3_97) rfl (tlt (by decide : (0 : Int32) < (4 : Int32))).2.1 ?_
      refine XS.aload X317.here hx rfl (hb hby d3_100) rfl rfl ?_
      refine XS.iload X317.here hx rfl (hb hby d3_102) rfl ?_
      refine X317.iaload hx (j := (0 : Int32)) (v := (.int c0)) (by rw [e317]; exact Ar320.1) (State.isArrayOf_alike hZ.alike Ar320.2.1) Ar320.2.2 hin320 hat320 (g := (mkF m 104 #[.val (.ref a1), .val (.int (1 : Int32)), .val (.ref d), .val (.int (0 : Int32)), .val (.int (0 : Int32)), .val (.int c3), .val (.ref d), .val (.int (4 : Int32)), .val (.int (0 : Int32)), .unset] [(.int (0 : Int32)), (.ref d)])) rfl rfl (hb hby d3_104) _ ?_
      show Steps p.tables e below (T317.setTop (mkF m 105 #[.val (.ref a1), .val (.int (1 : Int32)), .val (.ref d), .val (.int (0 : Int32)), .val (.int (0 : Int32)), .val (.int c3), .val (.ref d), .val (.int (4 : Int32)), .val (.int (0 : Int32)), .unset] [(.int c0)])) _
      refine XS.istore X317.here hx rfl (hb hby d3_105) rfl (l' := #[.val (.ref a1), .val (.int (1 : Int32)), .val (.ref d), .val (.int (0 : Int32)), .val (.int (0 : Int32)), .val (.int c3), .val (.ref d), .val (.int (4 : Int32)), .val (.int (0 : Int32)), .val (.int c0)]) rfl ?_
      refine XS.aloadN X317.here hx rfl (hb hby d3_107) rfl rfl ?_
      refine st321 _ ?_
      show Steps p.tables e below (T321.setTop (mkF m 111 #[.val (.ref a1), .val (.int (1 : Int32)), .val (.ref d), .val (.int (0 : Int32)), .val (.int (0 : Int32)), .val (.int c3), .val (.ref d), .val (.int (4 : Int32)), .val (.int (0 : Int32)), .val (.int c0)] [(.ref b314)])) _
      refine XS.iload X321.here hx rfl (hb hby d3_111) rfl ?_
      refine XS.bipush X321.here hx rfl (hb hby d3_113) ?_
      refine XS.idiv X321.here hx rfl (hb hby d3_115) rfl (by decide) ?_
      show Steps p.tables e below (T321.setTop (mkF m 116 #[.val (.ref a1), .val (.int (1 : Int32)), .val (.ref d), .val (.int (0 : Int32)), .val (.int (0 : Int32)), .val (.int c3), .val (.ref d), .val (.int (4 : Int32)), .val (.int (0 : Int32)), .val (.int c0)] [(.int (c0 / (64 : Int32))), (.ref b314)])) _
      jvm_step X321.here [X321.here.top, hx, (hb hby d3_116), Value.category]
      show Steps p.tables e below (T321.setTop (mkF m 117 #[.val (.ref a1), .val (.int (1 : Int32)), .val (.ref d), .val (.int (0 : Int32)), .val (.int (0 : Int32)), .val (.int c3), .val (.ref d), .val (.int (4 : Int32)), .val (.int (0 : Int32)), .val (.int c0)] [(.int (c0 / (64 : Int32))), (.ref b314), (.int (c0 / (64 : Int32))), (.ref b314)])) _
      refine X321.laload hx (j := (c0 / (64 : Int32))) (v := (.long ((fun _ => (0 : Int64)) ((c0 / (64 : Int32))).toNatClampNeg))) (by rw [e321]; exact Ar323.1) (State.isArrayOf_alike hZ.alike Ar323.2.1) Ar323.2.2 hin323 (own_FL.at H323_ hin323) (g := (mkF m 117 #[.val (.ref a1), .val (.int (1 : Int32)), .val (.ref d), .val (.int (0 : Int32)), .val (.int (0 : Int32)), .val (.int c3), .val (.ref d), .val (.int (4 : Int32)), .val (.int (0 : Int32)), .val (.int c0)] [(.int (c0 / (64 : Int32))), (.ref b314), (.int (c0 / (64 : Int32))), (.ref b314)])) rfl rfl (hb hby d3_117) _ ?_
      show Steps p.tables e below (T321.setTop (mkF m 118 #[.val (.ref a1), .val (.int (1 : Int32)), .val (.ref d), .val (.int (0 : Int32)), .val (.int (0 : Int32)), .val (.int c3), .val (.ref d), .val (.int (4 : Int32)), .val (.int (0 : Int32)), .val (.int c0)] [(.long ((fun _ => (0 : Int64)) ((c0 / (64 : Int32))).toNatClampNeg)), (.int (c0 / (64 : Int32))), (.ref b314)])) _
      refine XS.lconst X321.here hx rfl (hb hby d3_118) ?_
      refine XS.iload X321.here hx rfl (hb hby d3_119) rfl ?_
      refine XS.lshl X321.here hx rfl (hb hby d3_121) rfl ?_
      refine XS.lor X321.here hx rfl (hb hby d3_122) rfl ?_
      refine st325 _ ?_
      show Steps p.tables e below (T325.setTop (mkF m 124 #[.val (.ref a1), .val (.int (1 : Int32)), .val (.ref d), .val (.int (0 : Int32)), .val (.int (0 : Int32)), .val (.int c3), .val (.ref d), .val (.int (4 : Int32)), .val (.int (0 : Int32)), .val (.int c0)] [])) _
      refine XS.iinc X325.here hx rfl (hb hby d3_124) rfl (l' := #[.val (.ref a1), .val (.int (1 : Int32)), .val (.ref d), .val (.int (0 : Int32)), .val (.int (0 : Int32)), .val (.int c3), .val (.ref d), .val (.int (4 : Int32)), .val (.int (1 : Int32)), .val (.int c0)]) rfl ?_
      refine XS.goto X325.here hx rfl (pc0 := 127) (pc' := 93) rfl (hb hby d3_127) (by decide) (by decide) ?_
      refine XS.iload X325.here hx rfl (hb hby d3_93) rfl ?_
      refine XS.iload X325.here hx rfl (hb hby d3_95) rfl ?_
      refine XS.icmpNo X325.here hx rfl (hb hby d3_97) rfl (tlt (by decide : (1 : Int32) < (4 : Int32))).2.1 ?_
      refine XS.aload X325.here hx rfl (hb hby d3_100) rfl rfl ?_
      refine XS.iload X325.here hx rfl (hb hby d3_102) rfl ?_
      refine X325.iaload hx (j := (1 : Int32)) (v := (.int c1)) (by rw [e325]; exact Ar327.1) (State.isArrayOf_alike hZ.alike Ar327.2.1) Ar327.2.2 hin327 hat327 (g := (mkF m 104 #[.val (.ref a1), .val (.int (1 : Int32)), .val (.ref d), .val (.int (0 : Int32)), .val (.int (0 : Int32)), .val (.int c3), .val (.ref d), .val (.int (4 : Int32)), .val (.int (1 : Int32)), .val (.int c0)] [(.int (1 : Int32)), (.ref d)])) rfl rfl (hb hby d3_104) _ ?_
      show Steps p.tables e below (T325.setTop (mkF m 105 #[.val (.ref a1), .val (.int (1 : Int32)), .val (.ref d), .val (.int (0 : Int32)), .val (.int (0 : Int32)), .val (.int c3), .val (.ref d), .val (.int (4 : Int32)), .val (.int (1 : Int32)), .val (.int c0)] [(.int c1)])) _
      refine XS.istore X325.here hx rfl (hb hby d3_105) rfl (l' := #[.val (.ref a1), .val (.int (1 : Int32)), .val (.ref d), .val (.int (0 : Int32)), .val (.int (0 : Int32)), .val (.int c3), .val (.ref d), .val (.int (4 : Int32)), .val (.int (1 : Int32)), .val (.int c1)]) rfl ?_
      refine XS.aloadN X325.here hx rfl (hb hby d3_107) rfl rfl ?_
      refine st329 _ ?_
      show Steps p.tables e below (T329.setTop (mkF m 111 #[.val (.ref a1), .val (.int (1 : Int32)), .val (.ref d), .val (.int (0 : Int32)), .val (.int (0 : Int32)), .val (.int c3), .val (.ref d), .val (.int (4 : Int32)), .val (.int (1 : Int32)), .val (.int c1)] [(.ref b314)])) _
      refine XS.iload X329.here hx rfl (hb hby d3_111) rfl ?_
      refine XS.bipush X329.here hx rfl (hb hby d3_113) ?_
      refine XS.idiv X329.here hx rfl (hb hby d3_115) rfl (by decide) ?_
      show Steps p.tables e below (T329.setTop (mkF m 116 #[.val (.ref a1), .val (.int (1 : Int32)), .val (.ref d), .val (.int (0 : Int32)), .val (.int (0 : Int32)), .val (.int c3), .val (.ref d), .val (.int (4 : Int32)), .val (.int (1 : Int32)), .val (.int c1)] [(.int (c1 / (64 : Int32))), (.ref b314)])) _
      jvm_step X329.here [X329.here.top, hx, (hb hby d3_116), Value.category]
      show Steps p.tables e below (T329.setTop (mkF m 117 #[.val (.ref a1), .val (.int (1 : Int32)), .val (.ref d), .val (.int (0 : Int32)), .val (.int (0 : Int32)), .val (.int c3), .val (.ref d), .val (.int (4 : Int32)), .val (.int (1 : Int32)), .val (.int c1)] [(.int (c1 / (64 : Int32))), (.ref b314), (.int (c1 / (64 : Int32))), (.ref b314)])) _
      refine X329.laload hx (j := (c1 / (64 : Int32))) (v := (.long (g_0 ((c1 / (64 : Int32))).toNatClampNeg))) (by rw [e329]; exact Ar330.1) (State.isArrayOf_alike hZ.alike Ar330.2.1) Ar330.2.2 hin330 (own_FL.at H330_ hin330) (g := (mkF m 117 #[.val (.ref a1), .val (.int (1 : Int32)), .val (.ref d), .val (.int (0 : Int32)), .val (.int (0 : Int32)), .val (.int c3), .val (.ref d), .val (.int (4 : Int32)), .val (.int (1 : Int32)), .val (.int c1)] [(.int (c1 / (64 : Int32))), (.ref b314), (.int (c1 / (64 : Int32))), (.ref b314)])) rfl rfl (hb hby d3_117) _ ?_
      show Steps p.tables e below (T329.setTop (mkF m 118 #[.val (.ref a1), .val (.int (1 : Int32)), .val (.ref d), .val (.int (0 : Int32)), .val (.int (0 : Int32)), .val (.int c3), .val (.ref d), .val (.int (4 : Int32)), .val (.int (1 : Int32)), .val (.int c1)] [(.long (g_0 ((c1 / (64 : Int32))).toNatClampNeg)), (.int (c1 / (64 : Int32))), (.ref b314)])) _
      refine XS.lconst X329.here hx rfl (hb hby d3_118) ?_
      refine XS.iload X329.here hx rfl (hb hby d3_119) rfl ?_
      refine XS.lshl X329.here hx rfl (hb hby d3_121) rfl ?_
      refine XS.lor X329.here hx rfl (hb hby d3_122) rfl ?_
      refine st332 _ ?_
      show Steps p.tables e below (T332.setTop (mkF m 124 #[.val (.ref a1), .val (.int (1 : Int32)), .val (.ref d), .val (.int (0 : Int32)), .val (.int (0 : Int32)), .val (.int c3), .val (.ref d), .val (.int (4 : Int32)), .val (.int (1 : Int32)), .val (.int c1)] [])) _
      refine XS.iinc X332.here hx rfl (hb hby d3_124) rfl (l' := #[.val (.ref a1), .val (.int (1 : Int32)), .val (.ref d), .val (.int (0 : Int32)), .val (.int (0 : Int32)), .val (.int c3), .val (.ref d), .val (.int (4 : Int32)), .val (.int (2 : Int32)), .val (.int c1)]) rfl ?_
      refine XS.goto X332.here hx rfl (pc0 := 127) (pc' := 93) rfl (hb hby d3_127) (by decide) (by decide) ?_
      refine XS.iload X332.here hx rfl (hb hby d3_93) rfl ?_
      refine XS.iload X332.here hx rfl (hb hby d3_95) rfl ?_
      refine XS.icmpNo X332.here hx rfl (hb hby d3_97) rfl (tlt (by decide : (2 : Int32) < (4 : Int32))).2.1 ?_
      refine XS.aload X332.here hx rfl (hb hby d3_100) rfl rfl ?_
      refine XS.iload X332.here hx rfl (hb hby d3_102) rfl ?_
      refine X332.iaload hx (j := (2 : Int32)) (v := (.int c2)) (by rw [e332]; exact Ar334.1) (State.isArrayOf_alike hZ.alike Ar334.2.1) Ar334.2.2 hin334 hat334 (g := (mkF m 104 #[.val (.ref a1), .val (.int (1 : Int32)), .val (.ref d), .val (.int (0 : Int32)), .val (.int (0 : Int32)), .val (.int c3), .val (.ref d), .val (.int (4 : Int32)), .val (.int (2 : Int32)), .val (.int c1)] [(.int (2 : Int32)), (.ref d)])) rfl rfl (hb hby d3_104) _ ?_
      show Steps p.tables e below (T332.setTop (mkF m 105 #[.val (.ref a1), .val (.int (1 : Int32)), .val (.ref d), .val (.int (0 : Int32)), .val (.int (0 : Int32)), .val (.int c3), .val (.ref d), .val (.int (4 : Int32)), .val (.int (2 : Int32)), .val (.int c1)] [(.int c2)])) _
      refine XS.istore X332.here hx rfl (hb hby d3_105) rfl (l' := #[.val (.ref a1), .val (.int (1 : Int32)), .val (.ref d), .val (.int (0 : Int32)), .val (.int (0 : Int32)), .val (.int c3), .val (.ref d), .val (.int (4 : Int32)), .val (.int (2 : Int32)), .val (.int c2)]) rfl ?_
      refine XS.aloadN X332.here hx rfl (hb hby d3_107) rfl rfl ?_
      refine st336 _ ?_
      show Steps p.tables e below (T336.setTop (mkF m 111 #[.val (.ref a1), .val (.int (1 : Int32)), .val (.ref d), .val (.int (0 : Int32)), .val (.int (0 : Int32)), .val (.int c3), .val (.ref d), .val (.int (4 : Int32)), .val (.int (2 : Int32)), .val (.int c2)] [(.ref b314)])) _
      refine XS.iload X336.here hx rfl (hb hby d3_111) rfl ?_
      refine XS.bipush X336.here hx rfl (hb hby d3_113) ?_
      refine XS.idiv X336.here hx rfl (hb hby d3_115) rfl (by decide) ?_
      show Steps p.tables e below (T336.setTop (mkF m 116 #[.val (.ref a1), .val (.int (1 : Int32)), .val (.ref d), .val (.int (0 : Int32)), .val (.int (0 : Int32)), .val (.int c3), .val (.ref d), .val (.int (4 : Int32)), .val (.int (2 : Int32)), .val (.int c2)] [(.int (c2 / (64 : Int32))), (.ref b314)])) _
      jvm_step X336.here [X336.here.top, hx, (hb hby d3_116), Value.category]
      show Steps p.tables e below (T336.setTop (mkF m 117 #[.val (.ref a1), .val (.int (1 : Int32)), .val (.ref d), .val (.int (0 : Int32)), .val (.int (0 : Int32)), .val (.int c3), .val (.ref d), .val (.int (4 : Int32)), .val (.int (2 : Int32)), .val (.int c2)] [(.int (c2 / (64 : Int32))), (.ref b314), (.int (c2 / (64 : Int32))), (.ref b314)])) _
      refine X336.laload hx (j := (c2 / (64 : Int32))) (v := (.long (g_1 ((c2 / (64 : Int32))).toNatClampNeg))) (by rw [e336]; exact Ar337.1) (State.isArrayOf_alike hZ.alike Ar337.2.1) Ar337.2.2 hin337 (own_FL.at H337_ hin337) (g := (mkF m 117 #[.val (.ref a1), .val (.int (1 : Int32)), .val (.ref d), .val (.int (0 : Int32)), .val (.int (0 : Int32)), .val (.int c3), .val (.ref d), .val (.int (4 : Int32)), .val (.int (2 : Int32)), .val (.int c2)] [(.int (c2 / (64 : Int32))), (.ref b314), (.int (c2 / (64 : Int32))), (.ref b314)])) rfl rfl (hb hby d3_117) _ ?_
      show Steps p.tables e below (T336.setTop (mkF m 118 #[.val (.ref a1), .val (.int (1 : Int32)), .val (.ref d), .val (.int (0 : Int32)), .val (.int (0 : Int32)), .val (.int c3), .val (.ref d), .val (.int (4 : Int32)), .val (.int (2 : Int32)), .val (.int c2)] [(.long (g_1 ((c2 / (64 : Int32))).toNatClampNeg)), (.int (c2 / (64 : Int32))), (.ref b314)])) _
      refine XS.lconst X336.here hx rfl (hb hby d3_118) ?_
      refine XS.iload X336.here hx rfl (hb hby d3_119) rfl ?_
      refine XS.lshl X336.here hx rfl (hb hby d3_121) rfl ?_
      refine XS.lor X336.here hx rfl (hb hby d3_122) rfl ?_
      refine st339 _ ?_
      show Steps p.tables e below (T339.setTop (mkF m 124 #[.val (.ref a1), .val (.int (1 : Int32)), .val (.ref d), .val (.int (0 : Int32)), .val (.int (0 : Int32)), .val (.int c3), .val (.ref d), .val (.int (4 : Int32)), .val (.int (2 : Int32)), .val (.int c2)] [])) _
      refine XS.iinc X339.here hx rfl (hb hby d3_124) rfl (l' := #[.val (.ref a1), .val (.int (1 : Int32)), .val (.ref d), .val (.int (0 : Int32)), .val (.int (0 : Int32)), .val (.int c3), .val (.ref d), .val (.int (4 : Int32)), .val (.int (3 : Int32)), .val (.int c2)]) rfl ?_
      refine XS.goto X339.here hx rfl (pc0 := 127) (pc' := 93) rfl (hb hby d3_127) (by decide) (by decide) ?_
      refine XS.iload X339.here hx rfl (hb hby d3_93) rfl ?_
      refine XS.iload X339.here hx rfl (hb hby d3_95) rfl ?_
      refine XS.icmpNo X339.here hx rfl (hb hby d3_97) rfl (tlt (by decide : (3 : Int32) < (4 : Int32))).2.1 ?_
      refine XS.aload X339.here hx rfl (hb hby d3_100) rfl rfl ?_
      refine XS.iload X339.here hx rfl (hb hby d3_102) rfl ?_
      refine X339.iaload hx (j := (3 : Int32)) (v := (.int c3)) (by rw [e339]; exact Ar341.1) (State.isArrayOf_alike hZ.alike Ar341.2.1) Ar341.2.2 hin341 hat341 (g := (mkF m 104 #[.val (.ref a1), .val (.int (1 : Int32)), .val (.ref d), .val (.int (0 : Int32)), .val (.int (0 : Int32)), .val (.int c3), .val (.ref d), .val (.int (4 : Int32)), .val (.int (3 : Int32)), .val (.int c2)] [(.int (3 : Int32)), (.ref d)])) rfl rfl (hb hby d3_104) _ ?_
      show Steps p.tables e below (T339.setTop (mkF m 105 #[.val (.ref a1), .val (.int (1 : Int32)), .val (.ref d), .val (.int (0 : Int32)), .val (.int (0 : Int32)), .val (.int c3), .val (.ref d), .val (.int (4 : Int32)), .val (.int (3 : Int32)), .val (.int c2)] [(.int c3)])) _
      refine XS.istore X339.here hx rfl (hb hby d3_105) rfl (l' := #[.val (.ref a1), .val (.int (1 : Int32)), .val (.ref d), .val (.int (0 : Int32)), .val (.int (0 : Int32)), .val (.int c3), .val (.ref d), .val (.int (4 : Int32)), .val (.int (3 : Int32)), .val (.int c3)]) rfl ?_
      refine XS.aloadN X339.here hx rfl (hb hby d3_107) rfl rfl ?_
      refine st343 _ ?_
      show Steps p.tables e below (T343.setTop (mkF m 111 #[.val (.ref a1), .val (.int (1 : Int32)), .val (.ref d), .val (.int (0 : Int32)), .val (.int (0 : Int32)), .val (.int c3), .val (.ref d), .val (.int (4 : Int32)), .val (.int (3 : Int32)), .val (.int c3)] [(.ref b314)])) _
      refine XS.iload X343.here hx rfl (hb hby d3_111) rfl ?_
      refine XS.bipush X343.here hx rfl (hb hby d3_113) ?_
      refine XS.idiv X343.here hx rfl (hb hby d3_115) rfl (by decide) ?_
      show Steps p.tables e below (T343.setTop (mkF m 116 #[.val (.ref a1), .val (.int (1 : Int32)), .val (.ref d), .val (.int (0 : Int32)), .val (.int (0 : Int32)), .val (.int c3), .val (.ref d), .val (.int (4 : Int32)), .val (.int (3 : Int32)), .val (.int c3)] [(.int (c3 / (64 : Int32))), (.ref b314)])) _
      jvm_step X343.here [X343.here.top, hx, (hb hby d3_116), Value.category]
      show Steps p.tables e below (T343.setTop (mkF m 117 #[.val (.ref a1), .val (.int (1 : Int32)), .val (.ref d), .val (.int (0 : Int32)), .val (.int (0 : Int32)), .val (.int c3), .val (.ref d), .val (.int (4 : Int32)), .val (.int (3 : Int32)), .val (.int c3)] [(.int (c3 / (64 : Int32))), (.ref b314), (.int (c3 / (64 : Int32))), (.ref b314)])) _
      refine X343.laload hx (j := (c3 / (64 : Int32))) (v := (.long (g_2 ((c3 / (64 : Int32))).toNatClampNeg))) (by rw [e343]; exact Ar344.1) (State.isArrayOf_alike hZ.alike Ar344.2.1) Ar344.2.2 hin344 (own_FL.at H344_ hin344) (g := (mkF m 117 #[.val (.ref a1), .val (.int (1 : Int32)), .val (.ref d), .val (.int (0 : Int32)), .val (.int (0 : Int32)), .val (.int c3), .val (.ref d), .val (.int (4 : Int32)), .val (.int (3 : Int32)), .val (.int c3)] [(.int (c3 / (64 : Int32))), (.ref b314), (.int (c3 / (64 : Int32))), (.ref b314)])) rfl rfl (hb hby d3_117) _ ?_
      show Steps p.tables e below (T343.setTop (mkF m 118 #[.val (.ref a1), .val (.int (1 : Int32)), .val (.ref d), .val (.int (0 : Int32)), .val (.int (0 : Int32)), .val (.int c3), .val (.ref d), .val (.int (4 : Int32)), .val (.int (3 : Int32)), .val (.int c3)] [(.long (g_2 ((c3 / (64 : Int32))).toNatClampNeg)), (.int (c3 / (64 : Int32))), (.ref b314)])) _
      refine XS.lconst X343.here hx rfl (hb hby d3_118) ?_
      refine XS.iload X343.here hx rfl (hb hby d3_119) rfl ?_
      refine XS.lshl X343.here hx rfl (hb hby d3_121) rfl ?_
      refine XS.lor X343.here hx rfl (hb hby d3_122) rfl ?_
      refine st346 _ ?_
      show Steps p.tables e below (T346.setTop (mkF m 124 #[.val (.ref a1), .val (.int (1 : Int32)), .val (.ref d), .val (.int (0 : Int32)), .val (.int (0 : Int32)), .val (.int c3), .val (.ref d), .val (.int (4 : Int32)), .val (.int (3 : Int32)), .val (.int c3)] [])) _
      refine XS.iinc X346.here hx rfl (hb hby d3_124) rfl (l' := #[.val (.ref a1), .val (.int (1 : Int32)), .val (.ref d), .val (.int (0 : Int32)), .val (.int (0 : Int32)), .val (.int c3), .val (.ref d), .val (.int (4 : Int32)), .val (.int (4 : Int32)), .val (.int c3)]) rfl ?_
      refine XS.goto X346.here hx rfl (pc0 := 127) (pc' := 93) rfl (hb hby d3_127) (by decide) (by decide) ?_
      refine XS.iload X346.here hx rfl (hb hby d3_93) rfl ?_
      refine XS.iload X346.here hx rfl (hb hby d3_95) rfl ?_
      refine XS.icmpYes X346.here hx rfl (pc0 := 97) (pc' := 130) rfl (hb hby d3_97) rfl (flt (by decide : ¬ ((4 : Int32) < (4 : Int32)))).2.1 (by decide) (by decide) ?_
      refine XS.goto X346.here hx rfl (pc0 := 130) (pc' := 138) rfl (hb hby d3_130) (by decide) (by decide) ?_
      exact X346.returnOut hx Bd.returns (hb hby d3_138) hr
    · show own_Init Z a1 (.ref d) (fun h => own_Bits Z h a1 c3.toInt (fun q => c0.toInt = q ∨ c1.toInt = q ∨ c2.toInt = q ∨ c3.toInt = q)) h0 n0 _ T346.heap _
      rw [e346]
      exact ⟨rfl, N346, KP346, Fx348, Fx349, Or.inr ⟨b314, _, bz, _, Fx347, B_3, hbz.1, own_saysC hS_4 (fun q => by simp only [false_or, or_assoc])⟩⟩
theorem ef_rm_tog_4 (m : MethodId) (x0 : Addr) : entryFrame m #[(.ref x0)] 1 = mkF m 0 #[.val (.ref x0)] [] := by first | (simp [entryFrame, mkF, argsToLocals, Value.category]; done) | rfl
set_option maxRecDepth 65536 in
set_option maxHeartbeats 40000000 in
theorem rm_tog_4 (l : Launch) (Z : State) (a0 : Array Value) (hw : ∀ d ∈ tables_1, d.before a0 Z = true) (ws : List Jvm.Cond) (d : Addr) (h0 : Heap) (n0 : Nat) (Z0 : n0 ≤ h0.size) (kd : ClassId) (c0 c1 c2 c3 : Int32) (A_d : Arv Z h0 d kd .int (4 : Int32) [(.int c0), (.int c1), (.int c2), (.int c3)] (.int (0 : Int32))) (hs : 0 ≤ c0.toInt ∧ c0.toInt ≤ c1.toInt ∧ c1.toInt ≤ c2.toInt ∧ c2.toInt ≤ c3.toInt) :
    MetFree l (⟨"com/example/cubelet/cubelet/CellStore$Step", "together", "([I)Lcom/example/cubelet/cubelet/CellStore$Step;"⟩ : MethodName) (head1 (Jvm.Cond.code (⟨"com/example/cubelet/cubelet/CellStore$Step", "together", "([I)Lcom/example/cubelet/cubelet/CellStore$Step;"⟩ : MethodName) prog_13_method_3_code 1 (some (.object "com/example/cubelet/cubelet/CellStore$Step")) :: ws) ({ frames := 2, cells := 2, slots := 38, locals := 34 } : Room)) (fun aQ UQ => aQ = #[(.ref d)] ∧ Z.Warmed39 UQ.vm ∧ UQ.heap = h0) (fun _ _ _ _ _ => True) (fun _ UQ oQ UR => ∃ vQ LQ, oQ = .returned vQ ∧ own_Tog Z (.ref d) (fun a => (fun h => own_Bits Z h a c3.toInt (fun q => c0.toInt = q ∨ c1.toInt = q ∨ c2.toInt = q ∨ c3.toInt = q))) h0 n0 vQ UR.heap LQ ∧ FrameEnd UQ oQ UR LQ ({ frames := 2, cells := 2, slots := 38, locals := 34 } : Room).cells ({ frames := 2, cells := 2, slots := 38, locals := 34 } : Room).slots) := by
  refine MetFree.of_bodySF (plainFor_of_name pn_72) hisR ?_
  intro p e s m args below meth c s₁ Bd hml0 hP hK
  obtain ⟨rfl, hZ, hh⟩ := hP
  have hx := Bd.exec
  have hby := Bd.bytes
  have hml : c.maxLocals = 1 := hml0
  have hown : s.vm.findClass "com/example/cubelet/cubelet/CellStore$Step" = some m.cls := findClass_of_methodNamed Bd.named
  have hnm := (name_of_methodNamed Bd.named Bd.method).1
  have X0 : Stand p l e ({ frames := 2, cells := 2, slots := 38, locals := 34 } : Room) s m #[(.ref d)] below meth c s₁ [] 0 0 := Stand.of_body Bd
  have e0 : s₁.heap = h0 := by rw [← hh, Bd.state]; rfl
  have N0 := Fr.nil n0
  have pre0 : ∀ t, Steps p.tables e below (s₁.setTop (mkF m 0 #[.val (.ref d)] [])) t → Steps p.tables e below (s₁.setTop (entryFrame m #[(.ref d)] 1)) t := fun t kq => castTop (ef_rm_tog_4 m d) kq
  obtain ⟨T350, h350, X350, e350, E350, A350, D350, -, st350⟩ := newO X0 hx hZ hown (own_q hw 10 rfl) (own_q hw 11 rfl) (own_q hw 8 rfl) e0 (g := (mkF m 0 #[.val (.ref d)] [])) rfl (hb hby d2_0) (by decide) (by decide)
  obtain ⟨b350, g350⟩ : ∃ z, z = h0.size := ⟨_, rfl⟩
  rw [← g350] at A350 D350 st350
  have sz_b350 : h0.size ≤ b350 := Nat.le_trans (Keep.refl h0 []).1 (Nat.le_of_eq g350.symm)
  have gn_b350 : n0 ≤ b350 := Nat.le_trans Z0 sz_b350
  have ne_d_b350 : d ≠ b350 := Nat.ne_of_lt (Nat.lt_of_lt_of_le A_d.lt (Nat.le_of_eq g350.symm))
  have EX350 := own_ext_trans (own_ext_refl h0) E350
  have KP350 := Keep.ext (Keep.refl h0 []) E350
  have F350_takesValues : Fld Z h350 b350 "com/example/cubelet/cubelet/CellStore$Step" "takesValues" "Z" (.int (0 : Int32)) := D350 (Or.inr (own_q hw 19 rfl)) (ty := .boolean) (by decide)
  have F350_codes : Fld Z h350 b350 "com/example/cubelet/cubelet/CellStore$Step" "codes" "[I" .null := D350 (Or.inr (own_q hw 21 rfl)) (ty := (.array .int)) (by decide)
  have F350_takesAll : Fld Z h350 b350 "com/example/cubelet/cubelet/CellStore$Step" "takesAll" "Z" (.int (0 : Int32)) := D350 (Or.inr (own_q hw 23 rfl)) (ty := .boolean) (by decide)
  have F350_apart : Fld Z h350 b350 "com/example/cubelet/cubelet/CellStore$Step" "apart" "Z" (.int (0 : Int32)) := D350 (Or.inr (own_q hw 25 rfl)) (ty := .boolean) (by decide)
  have F350_bits : Fld Z h350 b350 "com/example/cubelet/cubelet/CellStore$Step" "bits" "[J" .null := D350 (Or.inr (own_q hw 28 rfl)) (ty := (.array .long)) (by decide)
  have Fx351 := (A_d.ext E350)
  obtain ⟨_, _, ⟨T352, L352, k352, n352⟩, -, X352, ⟨Lc352, hQ352, l352, y352, z352⟩, st352⟩ := X350.specialBack hx (y := (⟨"com/example/cubelet/cubelet/CellStore$Step", "<init>", "(Z[IZZ)V"⟩ : MethodName)) rfl hown (mvT hZ (own_q hw 12 rfl)) (mvT hZ (own_q hw 13 rfl)) (mvT hZ (own_q hw 14 rfl)) (by decide) (backOf (W := 1) (rm_ini_4 l Z a0 hw [] b350 d h350 n0 (Nat.le_trans Z0 EX350.1) A350 F350_takesValues F350_takesAll F350_apart F350_codes F350_bits gn_b350 kd c0 c1 c2 c3 Fx351 hs (Ne.symm ne_d_b350)) hZ (own_q hw 14 rfl) (own_q hw 8 rfl) (by decide) (by decide)) (g := (mkF m 8 #[.val (.ref d)] [(.int (0 : Int32)), (.int (0 : Int32)), (.ref d), (.int (1 : Int32)), (.ref b350), (.ref b350)])) rfl (by rw [hml]; rfl) (Steps.refl _) (a := b350) (argsL := [(.int (1 : Int32)), (.ref d), (.int (0 : Int32)), (.int (0 : Int32))]) (rest := [(.ref b350)]) (lenOf pd_156 rfl) rfl (by show 2 * 0 + _ ≤ _; exact Nat.le_of_eq rfl) (hb hby d2_8) (fun _ _ => ⟨rfl, e350, (by decide : 1 + 1 ≤ _), (by decide : 5 + 33 ≤ _)⟩)
  dsimp only [Pt.U, Pt.locs, Pt.cells, Pt.slots] at X352 l352 y352 z352 st352 hQ352
  subst l352 y352 z352
  obtain ⟨rfl, N352q, K352, E352, Fc352, hB352⟩ := hQ352
  have N352 := Fr.app N0 N352q
  have e352 : T352.heap = T352.heap := rfl
  have EX352 := own_ext_keep EX350 K352 (allS sz_b350 all0)
  have KP352 := Keep.trans KP350 K352 (allS (Or.inr sz_b350) all0)
  obtain ⟨fs, hr, hrun, hended, hW, hsame⟩ := X352.leave (v := some (.ref b350)) (fun h => by rw [Bd.returns] at h; cases h)
  refine ⟨_, _, pre0 _ ?_, hrun, hended, _, _, rfl, ?_, ⟨_, rfl⟩, hW, hsame.mono (by decide) (by decide)⟩
  · refine st350 _ ?_
    show Steps p.tables e below (T350.setTop (mkF m 3 #[.val (.ref d)] [(.ref b350)])) _
    refine XS.dup X350.here hx rfl (hb hby d2_3) rfl rfl ?_
    refine XS.iconst X350.here hx rfl (hb hby d2_4) ?_
    refine XS.aloadN X350.here hx rfl (hb hby d2_5) rfl rfl ?_
    refine XS.iconst X350.here hx rfl (hb hby d2_6) ?_
    refine XS.iconst X350.here hx rfl (hb hby d2_7) ?_
    refine st352.trans ?_
    show Steps p.tables e below (T352.setTop (mkF m 11 #[.val (.ref d)] [(.ref b350)])) _
    exact retOut X352 hx Bd.returns rfl (Or.inr (Or.inr (Or.inr (Or.inr ⟨rfl, rfl, rfl⟩)))) (hb hby d2_11) hr
  · show own_Tog Z (.ref d) (fun a => (fun h => own_Bits Z h a c3.toInt (fun q => c0.toInt = q ∨ c1.toInt = q ∨ c2.toInt = q ∨ c3.toInt = q))) h0 n0 _ T352.heap _
    exact ⟨b350, rfl, N352, EX352, E352, Fc352, hB352⟩
theorem pd_217 : parseMethodDescriptor "(JJ)J" = some ⟨[.long, .long], some .long⟩ := by decide +kernel
theorem pd_218 : parseMethodDescriptor "([I)Lcom/example/cubelet/cubelet/CellStore$Step;" = some ⟨[(.array .int)], some (.object "com/example/cubelet/cubelet/CellStore$Step")⟩ := by decide +kernel
theorem pd_219 : parseMethodDescriptor "(I)Z" = some ⟨[.int], some .boolean⟩ := by decide +kernel
theorem pd_220 : parseMethodDescriptor "(II)I" = some ⟨[.int, .int], some .int⟩ := by decide +kernel
theorem pn_221 : plainName "com/example/cubelet/cubelet/StepTogetherPinLaw" = true := by first | (simp [plainName, overriddenIn]; done) | decide +kernel
theorem ef_rm_law (m : MethodId) (x0 : Int32) (x1 : Int32) (x2 : Int32) (x3 : Int32) (x4 : Int32) (x5 : Int32) : entryFrame m #[(.int x0), (.int x1), (.int x2), (.int x3), (.int x4), (.int x5)] maxLocals = mkF m 0 #[.val (.int x0), .val (.int x1), .val (.int x2), .val (.int x3), .val (.int x4), .val (.int x5), .unset, .unset, .unset, .unset, .unset, .unset, .unset, .unset, .unset, .unset, .unset, .unset, .unset, .unset, .unset, .unset, .unset, .unset, .unset, .unset] [] := by first | (simp [entryFrame, mkF, argsToLocals, Value.category, maxLocals]; done) | rfl
set_option maxRecDepth 65536 in
set_option maxHeartbeats 40000000 in
theorem rm_law (l : Launch) (Z : State) (a0 : Array Value) (hw : ∀ d ∈ tables_1, d.before a0 Z = true) (ws : List Jvm.Cond) (p0 : Int32) (p1 : Int32) (p2 : Int32) (p3 : Int32) (p4 : Int32) (p5 : Int32) (h0 : Heap) (n0 : Nat) (Z0 : n0 ≤ h0.size)  :
    MetFree l x (head1 (Jvm.Cond.code x code maxLocals ret :: ws) room_1) (fun aQ UQ => aQ = #[(.int p0), (.int p1), (.int p2), (.int p3), (.int p4), (.int p5)] ∧ Z.Warmed39 UQ.vm ∧ UQ.heap = h0) (fun _ _ _ _ _ => True) (fun _ UQ oQ UR => ∃ vQ LQ, oQ = .returned vQ ∧ own_Made (some (.int 1)) n0 vQ UR.heap LQ ∧ FrameEnd UQ oQ UR LQ room_1.cells room_1.slots) := by
  refine MetFree.of_bodySF (plainFor_of_name pn_221) hisR ?_
  intro p e s m args below meth c s₁ Bd hml0 hP hK
  obtain ⟨rfl, hZ, hh⟩ := hP
  have hx := Bd.exec
  have hby := Bd.bytes
  have hml : c.maxLocals = 26 := hml0
  have hown : s.vm.findClass "com/example/cubelet/cubelet/StepTogetherPinLaw" = some m.cls := findClass_of_methodNamed Bd.named
  have hnm := (name_of_methodNamed Bd.named Bd.method).1
  have X0 : Stand p l e room_1 s m #[(.int p0), (.int p1), (.int p2), (.int p3), (.int p4), (.int p5)] below meth c s₁ [] 0 0 := Stand.of_body Bd
  have e0 : s₁.heap = h0 := by rw [← hh, Bd.state]; rfl
  have N0 := Fr.nil n0
  have pre0 : ∀ t, Steps p.tables e below (s₁.setTop (mkF m 0 #[.val (.int p0), .val (.int p1), .val (.int p2), .val (.int p3), .val (.int p4), .val (.int p5), .unset, .unset, .unset, .unset, .unset, .unset, .unset, .unset, .unset, .unset, .unset, .unset, .unset, .unset, .unset, .unset, .unset, .unset, .unset, .unset] [])) t → Steps p.tables e below (s₁.setTop (entryFrame m #[(.int p0), (.int p1), (.int p2), (.int p3), (.int p4), (.int p5)] maxLocals)) t := fun t kq => castTop (ef_rm_law m p0 p1 p2 p3 p4 p5) kq
  obtain ⟨n7, h_n7⟩ : ∃ zQ : Int32, (p5 &&& (7 : Int32)) = zQ := ⟨_, rfl⟩
  obtain ⟨T355, L355, sm, lim, X355, e355, N355, hj355_0, ck355⟩ : ∃ (TJ : State) (LJ : List Loc) (sm : Int32) (lim : Int64), Stand p l e room_1 s m #[(.int p0), (.int p1), (.int p2), (.int p3), (.int p4), (.int p5)] below meth c TJ LJ 0 0 ∧ TJ.heap = h0 ∧ Fr n0 LJ ∧ (1023 ≤ lim.toInt ∧ lim.toInt ≤ 2147483647) ∧ (∀ t, Steps p.tables e below (TJ.setTop (mkF m 36 #[.val (.int p0), .val (.int p1), .val (.int p2), .val (.int p3), .val (.int p4), .val (.int p5), .val (.int n7), .val (.int sm), .unset, .unset, .unset, .unset, .unset, .unset, .unset, .unset, .unset, .unset, .unset, .unset, .unset, .unset, .unset, .unset, .unset, .unset] [(.long lim)])) t → Steps p.tables e below (s₁.setTop (entryFrame m #[(.int p0), (.int p1), (.int p2), (.int p3), (.int p4), (.int p5)] maxLocals)) t) := by
    have ck357 : ∀ t, Steps p.tables e below (s₁.setTop (mkF m 12 #[.val (.int p0), .val (.int p1), .val (.int p2), .val (.int p3), .val (.int p4), .val (.int p5), .val (.int n7), .unset, .unset, .unset, .unset, .unset, .unset, .unset, .unset, .unset, .unset, .unset, .unset, .unset, .unset, .unset, .unset, .unset, .unset, .unset] [(.int (p5 &&& (8 : Int32)))])) t → Steps p.tables e below (s₁.setTop (entryFrame m #[(.int p0), (.int p1), (.int p2), (.int p3), (.int p4), (.int p5)] maxLocals)) t := by
      intro t kt
      refine pre0 _ ?_
      refine XS.iload X0.here hx rfl (hb hby at_0) rfl ?_
      refine XS.bipush X0.here hx rfl (hb hby at_2) ?_
      refine XS.iand X0.here hx rfl (hb hby at_4) rfl ?_
      show Steps p.tables e below (s₁.setTop (mkF m 5 #[.val (.int p0), .val (.int p1), .val (.int p2), .val (.int p3), .val (.int p4), .val (.int p5), .unset, .unset, .unset, .unset, .unset, .unset, .unset, .unset, .unset, .unset, .unset, .unset, .unset, .unset, .unset, .unset, .unset, .unset, .unset, .unset] [(.int (p5 &&& (7 : Int32)))])) _
      rw [h_n7]
      show Steps p.tables e below (s₁.setTop (mkF m 5 #[.val (.int p0), .val (.int p1), .val (.int p2), .val (.int p3), .val (.int p4), .val (.int p5), .unset, .unset, .unset, .unset, .unset, .unset, .unset, .unset, .unset, .unset, .unset, .unset, .unset, .unset, .unset, .unset, .unset, .unset, .unset, .unset] [(.int n7)])) _
      refine XS.istore X0.here hx rfl (hb hby at_5) rfl (l' := #[.val (.int p0), .val (.int p1), .val (.int p2), .val (.int p3), .val (.int p4), .val (.int p5), .val (.int n7), .unset, .unset, .unset, .unset, .unset, .unset, .unset, .unset, .unset, .unset, .unset, .unset, .unset, .unset, .unset, .unset, .unset, .unset, .unset]) rfl ?_
      refine XS.iload X0.here hx rfl (hb hby at_7) rfl ?_
      refine XS.bipush X0.here hx rfl (hb hby at_9) ?_
      refine XS.iand X0.here hx rfl (hb hby at_11) rfl ?_
      exact kt
    by_cases hc12_356 : (p5 &&& (8 : Int32)) = (0 : Int32)
    · -- pc 12: yes
      refine ⟨s₁, _, (0 : Int32), (2147483647 : Int64), X0, e0, N0, ⟨by decide, by decide⟩, fun t kt => ?_⟩
      refine ck357 _ ?_
      refine XS.ifYes X0.here hx rfl (pc0 := 12) (pc' := 19) rfl (hb hby at_12) rfl ((if0 _ _).trans (teq hc12_356).1) (by decide) (by decide) ?_
      refine XS.iconst X0.here hx rfl (hb hby at_19) ?_
      refine XS.istore X0.here hx rfl (hb hby at_20) rfl (l' := #[.val (.int p0), .val (.int p1), .val (.int p2), .val (.int p3), .val (.int p4), .val (.int p5), .val (.int n7), .val (.int (0 : Int32)), .unset, .unset, .unset, .unset, .unset, .unset, .unset, .unset, .unset, .unset, .unset, .unset, .unset, .unset, .unset, .unset, .unset, .unset]) rfl ?_
      refine XS.iload X0.here hx rfl (hb hby at_22) rfl ?_
      refine XS.ifYes X0.here hx rfl (pc0 := 24) (pc' := 33) rfl (hb hby at_24) rfl ((if0 _ _).trans (teq (by decide : (0 : Int32) = (0 : Int32))).1) (by decide) (by decide) ?_
      refine X0.ldc2Long hx hown (mvT hZ (own_q hw 0 rfl)) (g := (mkF m 33 #[.val (.int p0), .val (.int p1), .val (.int p2), .val (.int p3), .val (.int p4), .val (.int p5), .val (.int n7), .val (.int (0 : Int32)), .unset, .unset, .unset, .unset, .unset, .unset, .unset, .unset, .unset, .unset, .unset, .unset, .unset, .unset, .unset, .unset, .unset, .unset] [])) rfl (hb hby at_33) _ ?_
      exact kt
    · -- pc 12: no
      refine ⟨s₁, _, (1 : Int32), (1023 : Int64), X0, e0, N0, ⟨by decide, by decide⟩, fun t kt => ?_⟩
      refine ck357 _ ?_
      refine XS.ifNo X0.here hx rfl (hb hby at_12) rfl ((if0 _ _).trans (feq hc12_356).1) ?_
      refine XS.iconst X0.here hx rfl (hb hby at_15) ?_
      refine XS.goto X0.here hx rfl (pc0 := 16) (pc' := 20) rfl (hb hby at_16) (by decide) (by decide) ?_
      refine XS.istore X0.here hx rfl (hb hby at_20) rfl (l' := #[.val (.int p0), .val (.int p1), .val (.int p2), .val (.int p3), .val (.int p4), .val (.int p5), .val (.int n7), .val (.int (1 : Int32)), .unset, .unset, .unset, .unset, .unset, .unset, .unset, .unset, .unset, .unset, .unset, .unset, .unset, .unset, .unset, .unset, .unset, .unset]) rfl ?_
      refine XS.iload X0.here hx rfl (hb hby at_22) rfl ?_
      refine XS.ifNo X0.here hx rfl (hb hby at_24) rfl ((if0 _ _).trans (feq (by decide : ¬ ((1 : Int32) = (0 : Int32)))).1) ?_
      refine X0.ldc2Long hx hown (mvT hZ (own_q hw 34 rfl)) (g := (mkF m 27 #[.val (.int p0), .val (.int p1), .val (.int p2), .val (.int p3), .val (.int p4), .val (.int p5), .val (.int n7), .val (.int (1 : Int32)), .unset, .unset, .unset, .unset, .unset, .unset, .unset, .unset, .unset, .unset, .unset, .unset, .unset, .unset, .unset, .unset, .unset, .unset] [])) rfl (hb hby at_27) _ ?_
      show Steps p.tables e below (s₁.setTop (mkF m 30 #[.val (.int p0), .val (.int p1), .val (.int p2), .val (.int p3), .val (.int p4), .val (.int p5), .val (.int n7), .val (.int (1 : Int32)), .unset, .unset, .unset, .unset, .unset, .unset, .unset, .unset, .unset, .unset, .unset, .unset, .unset, .unset, .unset, .unset, .unset, .unset] [(.long (1023 : Int64))])) _
      refine XS.goto X0.here hx rfl (pc0 := 30) (pc' := 36) rfl (hb hby at_30) (by decide) (by decide) ?_
      exact kt
  have hlim := hj355_0
  obtain ⟨C0, h_C0⟩ : ∃ zQ : Int64, (((p0.toInt64) &&& (2147483647 : Int64)) % (lim + (1 : Int64))) = zQ := ⟨_, rfl⟩
  have hC0 : 0 ≤ C0.toInt ∧ C0.toInt ≤ lim.toInt := by rw [← h_C0]; exact own_c0 hlim
  obtain ⟨C1, h_C1⟩ : ∃ zQ : Int64, (C0 + (((p1.toInt64) &&& (2147483647 : Int64)) % ((lim - C0) + (1 : Int64)))) = zQ := ⟨_, rfl⟩
  have hD1 : C0.toInt ≤ C1.toInt ∧ C1.toInt ≤ lim.toInt := by rw [← h_C1]; exact own_cS hlim hC0
  have hC1 : 0 ≤ C1.toInt ∧ C1.toInt ≤ lim.toInt := by omega
  obtain ⟨C2, h_C2⟩ : ∃ zQ : Int64, (C1 + (((p2.toInt64) &&& (2147483647 : Int64)) % ((lim - C1) + (1 : Int64)))) = zQ := ⟨_, rfl⟩
  have hD2 : C1.toInt ≤ C2.toInt ∧ C2.toInt ≤ lim.toInt := by rw [← h_C2]; exact own_cS hlim hC1
  have hC2 : 0 ≤ C2.toInt ∧ C2.toInt ≤ lim.toInt := by omega
  obtain ⟨C3, h_C3⟩ : ∃ zQ : Int64, (C2 + (((p3.toInt64) &&& (2147483647 : Int64)) % ((lim - C2) + (1 : Int64)))) = zQ := ⟨_, rfl⟩
  have hD3 : C2.toInt ≤ C3.toInt ∧ C3.toInt ≤ lim.toInt := by rw [← h_C3]; exact own_cS hlim hC2
  have hC3 : 0 ≤ C3.toInt ∧ C3.toInt ≤ lim.toInt := by omega
  have ck358 : ∀ t, Steps p.tables e below (T355.setTop (mkF m 108 #[.val (.int p0), .val (.int p1), .val (.int p2), .val (.int p3), .val (.int p4), .val (.int p5), .val (.int n7), .val (.int sm), .val (.long lim), .second, .val (.long C0), .second, .val (.long C1), .second, .val (.long C2), .second, .val (.long C3), .second, .unset, .unset, .unset, .unset, .unset, .unset, .unset, .unset] [])) t → Steps p.tables e below (s₁.setTop (entryFrame m #[(.int p0), (.int p1), (.int p2), (.int p3), (.int p4), (.int p5)] maxLocals)) t := by
    intro t kt
    refine ck355 _ ?_
    refine XS.lstore X355.here hx rfl (hb hby at_36) rfl (l' := #[.val (.int p0), .val (.int p1), .val (.int p2), .val (.int p3), .val (.int p4), .val (.int p5), .val (.int n7), .val (.int sm), .val (.long lim), .second, .unset, .unset, .unset, .unset, .unset, .unset, .unset, .unset, .unset, .unset, .unset, .unset, .unset, .unset, .unset, .unset]) rfl ?_
    refine XS.iloadN X355.here hx rfl (hb hby at_38) rfl ?_
    refine XS.i2l X355.here hx rfl (hb hby at_39) rfl ?_
    refine X355.ldc2Long hx hown (mvT hZ (own_q hw 0 rfl)) (g := (mkF m 40 #[.val (.int p0), .val (.int p1), .val (.int p2), .val (.int p3), .val (.int p4), .val (.int p5), .val (.int n7), .val (.int sm), .val (.long lim), .second, .unset, .unset, .unset, .unset, .unset, .unset, .unset, .unset, .unset, .unset, .unset, .unset, .unset, .unset, .unset, .unset] [(.long (p0.toInt64))])) rfl (hb hby at_40) _ ?_
    show Steps p.tables e below (T355.setTop (mkF m 43 #[.val (.int p0), .val (.int p1), .val (.int p2), .val (.int p3), .val (.int p4), .val (.int p5), .val (.int n7), .val (.int sm), .val (.long lim), .second, .unset, .unset, .unset, .unset, .unset, .unset, .unset, .unset, .unset, .unset, .unset, .unset, .unset, .unset, .unset, .unset] [(.long (2147483647 : Int64)), (.long (p0.toInt64))])) _
    refine XS.land X355.here hx rfl (hb hby at_43) rfl ?_
    refine XS.lload X355.here hx rfl (hb hby at_44) rfl ?_
    refine XS.lconst X355.here hx rfl (hb hby at_46) ?_
    refine XS.ladd X355.here hx rfl (hb hby at_47) rfl ?_
    refine XS.lrem X355.here hx rfl (hb hby at_48) rfl (own_nz (own_l1 hlim).1) ?_
    show Steps p.tables e below (T355.setTop (mkF m 49 #[.val (.int p0), .val (.int p1), .val (.int p2), .val (.int p3), .val (.int p4), .val (.int p5), .val (.int n7), .val (.int sm), .val (.long lim), .second, .unset, .unset, .unset, .unset, .unset, .unset, .unset, .unset, .unset, .unset, .unset, .unset, .unset, .unset, .unset, .unset] [(.long (((p0.toInt64) &&& (2147483647 : Int64)) - (((p0.toInt64) &&& (2147483647 : Int64)) / (lim + (1 : Int64))) * (lim + (1 : Int64))))])) _
    rw [lrem_mod]
    show Steps p.tables e below (T355.setTop (mkF m 49 #[.val (.int p0), .val (.int p1), .val (.int p2), .val (.int p3), .val (.int p4), .val (.int p5), .val (.int n7), .val (.int sm), .val (.long lim), .second, .unset, .unset, .unset, .unset, .unset, .unset, .unset, .unset, .unset, .unset, .unset, .unset, .unset, .unset, .unset, .unset] [(.long (((p0.toInt64) &&& (2147483647 : Int64)) % (lim + (1 : Int64))))])) _
    rw [h_C0]
    show Steps p.tables e below (T355.setTop (mkF m 49 #[.val (.int p0), .val (.int p1), .val (.int p2), .val (.int p3), .val (.int p4), .val (.int p5), .val (.int n7), .val (.int sm), .val (.long lim), .second, .unset, .unset, .unset, .unset, .unset, .unset, .unset, .unset, .unset, .unset, .unset, .unset, .unset, .unset, .unset, .unset] [(.long C0)])) _
    refine XS.lstore X355.here hx rfl (hb hby at_49) rfl (l' := #[.val (.int p0), .val (.int p1), .val (.int p2), .val (.int p3), .val (.int p4), .val (.int p5), .val (.int n7), .val (.int sm), .val (.long lim), .second, .val (.long C0), .second, .unset, .unset, .unset, .unset, .unset, .unset, .unset, .unset, .unset, .unset, .unset, .unset, .unset, .unset]) rfl ?_
    refine XS.lload X355.here hx rfl (hb hby at_51) rfl ?_
    refine XS.iloadN X355.here hx rfl (hb hby at_53) rfl ?_
    refine XS.i2l X355.here hx rfl (hb hby at_54) rfl ?_
    refine X355.ldc2Long hx hown (mvT hZ (own_q hw 0 rfl)) (g := (mkF m 55 #[.val (.int p0), .val (.int p1), .val (.int p2), .val (.int p3), .val (.int p4), .val (.int p5), .val (.int n7), .val (.int sm), .val (.long lim), .second, .val (.long C0), .second, .unset, .unset, .unset, .unset, .unset, .unset, .unset, .unset, .unset, .unset, .unset, .unset, .unset, .unset] [(.long (p1.toInt64)), (.long C0)])) rfl (hb hby at_55) _ ?_
    show Steps p.tables e below (T355.setTop (mkF m 58 #[.val (.int p0), .val (.int p1), .val (.int p2), .val (.int p3), .val (.int p4), .val (.int p5), .val (.int n7), .val (.int sm), .val (.long lim), .second, .val (.long C0), .second, .unset, .unset, .unset, .unset, .unset, .unset, .unset, .unset, .unset, .unset, .unset, .unset, .unset, .unset] [(.long (2147483647 : Int64)), (.long (p1.toInt64)), (.long C0)])) _
    refine XS.land X355.here hx rfl (hb hby at_58) rfl ?_
    refine XS.lload X355.here hx rfl (hb hby at_59) rfl ?_
    refine XS.lload X355.here hx rfl (hb hby at_61) rfl ?_
    refine XS.lsub X355.here hx rfl (hb hby at_63) rfl ?_
    refine XS.lconst X355.here hx rfl (hb hby at_64) ?_
    refine XS.ladd X355.here hx rfl (hb hby at_65) rfl ?_
    refine XS.lrem X355.here hx rfl (hb hby at_66) rfl (own_nz (own_l2 hlim hC0).1) ?_
    show Steps p.tables e below (T355.setTop (mkF m 67 #[.val (.int p0), .val (.int p1), .val (.int p2), .val (.int p3), .val (.int p4), .val (.int p5), .val (.int n7), .val (.int sm), .val (.long lim), .second, .val (.long C0), .second, .unset, .unset, .unset, .unset, .unset, .unset, .unset, .unset, .unset, .unset, .unset, .unset, .unset, .unset] [(.long (((p1.toInt64) &&& (2147483647 : Int64)) - (((p1.toInt64) &&& (2147483647 : Int64)) / ((lim - C0) + (1 : Int64))) * ((lim - C0) + (1 : Int64)))), (.long C0)])) _
    rw [lrem_mod]
    show Steps p.tables e below (T355.setTop (mkF m 67 #[.val (.int p0), .val (.int p1), .val (.int p2), .val (.int p3), .val (.int p4), .val (.int p5), .val (.int n7), .val (.int sm), .val (.long lim), .second, .val (.long C0), .second, .unset, .unset, .unset, .unset, .unset, .unset, .unset, .unset, .unset, .unset, .unset, .unset, .unset, .unset] [(.long (((p1.toInt64) &&& (2147483647 : Int64)) % ((lim - C0) + (1 : Int64)))), (.long C0)])) _
    refine XS.ladd X355.here hx rfl (hb hby at_67) rfl ?_
    show Steps p.tables e below (T355.setTop (mkF m 68 #[.val (.int p0), .val (.int p1), .val (.int p2), .val (.int p3), .val (.int p4), .val (.int p5), .val (.int n7), .val (.int sm), .val (.long lim), .second, .val (.long C0), .second, .unset, .unset, .unset, .unset, .unset, .unset, .unset, .unset, .unset, .unset, .unset, .unset, .unset, .unset] [(.long (C0 + (((p1.toInt64) &&& (2147483647 : Int64)) % ((lim - C0) + (1 : Int64)))))])) _
    rw [h_C1]
    show Steps p.tables e below (T355.setTop (mkF m 68 #[.val (.int p0), .val (.int p1), .val (.int p2), .val (.int p3), .val (.int p4), .val (.int p5), .val (.int n7), .val (.int sm), .val (.long lim), .second, .val (.long C0), .second, .unset, .unset, .unset, .unset, .unset, .unset, .unset, .unset, .unset, .unset, .unset, .unset, .unset, .unset] [(.long C1)])) _
    refine XS.lstore X355.here hx rfl (hb hby at_68) rfl (l' := #[.val (.int p0), .val (.int p1), .val (.int p2), .val (.int p3), .val (.int p4), .val (.int p5), .val (.int n7), .val (.int sm), .val (.long lim), .second, .val (.long C0), .second, .val (.long C1), .second, .unset, .unset, .unset, .unset, .unset, .unset, .unset, .unset, .unset, .unset, .unset, .unset]) rfl ?_
    refine XS.lload X355.here hx rfl (hb hby at_70) rfl ?_
    refine XS.iloadN X355.here hx rfl (hb hby at_72) rfl ?_
    refine XS.i2l X355.here hx rfl (hb hby at_73) rfl ?_
    refine X355.ldc2Long hx hown (mvT hZ (own_q hw 0 rfl)) (g := (mkF m 74 #[.val (.int p0), .val (.int p1), .val (.int p2), .val (.int p3), .val (.int p4), .val (.int p5), .val (.int n7), .val (.int sm), .val (.long lim), .second, .val (.long C0), .second, .val (.long C1), .second, .unset, .unset, .unset, .unset, .unset, .unset, .unset, .unset, .unset, .unset, .unset, .unset] [(.long (p2.toInt64)), (.long C1)])) rfl (hb hby at_74) _ ?_
    show Steps p.tables e below (T355.setTop (mkF m 77 #[.val (.int p0), .val (.int p1), .val (.int p2), .val (.int p3), .val (.int p4), .val (.int p5), .val (.int n7), .val (.int sm), .val (.long lim), .second, .val (.long C0), .second, .val (.long C1), .second, .unset, .unset, .unset, .unset, .unset, .unset, .unset, .unset, .unset, .unset, .unset, .unset] [(.long (2147483647 : Int64)), (.long (p2.toInt64)), (.long C1)])) _
    refine XS.land X355.here hx rfl (hb hby at_77) rfl ?_
    refine XS.lload X355.here hx rfl (hb hby at_78) rfl ?_
    refine XS.lload X355.here hx rfl (hb hby at_80) rfl ?_
    refine XS.lsub X355.here hx rfl (hb hby at_82) rfl ?_
    refine XS.lconst X355.here hx rfl (hb hby at_83) ?_
    refine XS.ladd X355.here hx rfl (hb hby at_84) rfl ?_
    refine XS.lrem X355.here hx rfl (hb hby at_85) rfl (own_nz (own_l2 hlim hC1).1) ?_
    show Steps p.tables e below (T355.setTop (mkF m 86 #[.val (.int p0), .val (.int p1), .val (.int p2), .val (.int p3), .val (.int p4), .val (.int p5), .val (.int n7), .val (.int sm), .val (.long lim), .second, .val (.long C0), .second, .val (.long C1), .second, .unset, .unset, .unset, .unset, .unset, .unset, .unset, .unset, .unset, .unset, .unset, .unset] [(.long (((p2.toInt64) &&& (2147483647 : Int64)) - (((p2.toInt64) &&& (2147483647 : Int64)) / ((lim - C1) + (1 : Int64))) * ((lim - C1) + (1 : Int64)))), (.long C1)])) _
    rw [lrem_mod]
    show Steps p.tables e below (T355.setTop (mkF m 86 #[.val (.int p0), .val (.int p1), .val (.int p2), .val (.int p3), .val (.int p4), .val (.int p5), .val (.int n7), .val (.int sm), .val (.long lim), .second, .val (.long C0), .second, .val (.long C1), .second, .unset, .unset, .unset, .unset, .unset, .unset, .unset, .unset, .unset, .unset, .unset, .unset] [(.long (((p2.toInt64) &&& (2147483647 : Int64)) % ((lim - C1) + (1 : Int64)))), (.long C1)])) _
    refine XS.ladd X355.here hx rfl (hb hby at_86) rfl ?_
    show Steps p.tables e below (T355.setTop (mkF m 87 #[.val (.int p0), .val (.int p1), .val (.int p2), .val (.int p3), .val (.int p4), .val (.int p5), .val (.int n7), .val (.int sm), .val (.long lim), .second, .val (.long C0), .second, .val (.long C1), .second, .unset, .unset, .unset, .unset, .unset, .unset, .unset, .unset, .unset, .unset, .unset, .unset] [(.long (C1 + (((p2.toInt64) &&& (2147483647 : Int64)) % ((lim - C1) + (1 : Int64)))))])) _
    rw [h_C2]
    show Steps p.tables e below (T355.setTop (mkF m 87 #[.val (.int p0), .val (.int p1), .val (.int p2), .val (.int p3), .val (.int p4), .val (.int p5), .val (.int n7), .val (.int sm), .val (.long lim), .second, .val (.long C0), .second, .val (.long C1), .second, .unset, .unset, .unset, .unset, .unset, .unset, .unset, .unset, .unset, .unset, .unset, .unset] [(.long C2)])) _
    refine XS.lstore X355.here hx rfl (hb hby at_87) rfl (l' := #[.val (.int p0), .val (.int p1), .val (.int p2), .val (.int p3), .val (.int p4), .val (.int p5), .val (.int n7), .val (.int sm), .val (.long lim), .second, .val (.long C0), .second, .val (.long C1), .second, .val (.long C2), .second, .unset, .unset, .unset, .unset, .unset, .unset, .unset, .unset, .unset, .unset]) rfl ?_
    refine XS.lload X355.here hx rfl (hb hby at_89) rfl ?_
    refine XS.iloadN X355.here hx rfl (hb hby at_91) rfl ?_
    refine XS.i2l X355.here hx rfl (hb hby at_92) rfl ?_
    refine X355.ldc2Long hx hown (mvT hZ (own_q hw 0 rfl)) (g := (mkF m 93 #[.val (.int p0), .val (.int p1), .val (.int p2), .val (.int p3), .val (.int p4), .val (.int p5), .val (.int n7), .val (.int sm), .val (.long lim), .second, .val (.long C0), .second, .val (.long C1), .second, .val (.long C2), .second, .unset, .unset, .unset, .unset, .unset, .unset, .unset, .unset, .unset, .unset] [(.long (p3.toInt64)), (.long C2)])) rfl (hb hby at_93) _ ?_
    show Steps p.tables e below (T355.setTop (mkF m 96 #[.val (.int p0), .val (.int p1), .val (.int p2), .val (.int p3), .val (.int p4), .val (.int p5), .val (.int n7), .val (.int sm), .val (.long lim), .second, .val (.long C0), .second, .val (.long C1), .second, .val (.long C2), .second, .unset, .unset, .unset, .unset, .unset, .unset, .unset, .unset, .unset, .unset] [(.long (2147483647 : Int64)), (.long (p3.toInt64)), (.long C2)])) _
    refine XS.land X355.here hx rfl (hb hby at_96) rfl ?_
    refine XS.lload X355.here hx rfl (hb hby at_97) rfl ?_
    refine XS.lload X355.here hx rfl (hb hby at_99) rfl ?_
    refine XS.lsub X355.here hx rfl (hb hby at_101) rfl ?_
    refine XS.lconst X355.here hx rfl (hb hby at_102) ?_
    refine XS.ladd X355.here hx rfl (hb hby at_103) rfl ?_
    refine XS.lrem X355.here hx rfl (hb hby at_104) rfl (own_nz (own_l2 hlim hC2).1) ?_
    show Steps p.tables e below (T355.setTop (mkF m 105 #[.val (.int p0), .val (.int p1), .val (.int p2), .val (.int p3), .val (.int p4), .val (.int p5), .val (.int n7), .val (.int sm), .val (.long lim), .second, .val (.long C0), .second, .val (.long C1), .second, .val (.long C2), .second, .unset, .unset, .unset, .unset, .unset, .unset, .unset, .unset, .unset, .unset] [(.long (((p3.toInt64) &&& (2147483647 : Int64)) - (((p3.toInt64) &&& (2147483647 : Int64)) / ((lim - C2) + (1 : Int64))) * ((lim - C2) + (1 : Int64)))), (.long C2)])) _
    rw [lrem_mod]
    show Steps p.tables e below (T355.setTop (mkF m 105 #[.val (.int p0), .val (.int p1), .val (.int p2), .val (.int p3), .val (.int p4), .val (.int p5), .val (.int n7), .val (.int sm), .val (.long lim), .second, .val (.long C0), .second, .val (.long C1), .second, .val (.long C2), .second, .unset, .unset, .unset, .unset, .unset, .unset, .unset, .unset, .unset, .unset] [(.long (((p3.toInt64) &&& (2147483647 : Int64)) % ((lim - C2) + (1 : Int64)))), (.long C2)])) _
    refine XS.ladd X355.here hx rfl (hb hby at_105) rfl ?_
    show Steps p.tables e below (T355.setTop (mkF m 106 #[.val (.int p0), .val (.int p1), .val (.int p2), .val (.int p3), .val (.int p4), .val (.int p5), .val (.int n7), .val (.int sm), .val (.long lim), .second, .val (.long C0), .second, .val (.long C1), .second, .val (.long C2), .second, .unset, .unset, .unset, .unset, .unset, .unset, .unset, .unset, .unset, .unset] [(.long (C2 + (((p3.toInt64) &&& (2147483647 : Int64)) % ((lim - C2) + (1 : Int64)))))])) _
    rw [h_C3]
    show Steps p.tables e below (T355.setTop (mkF m 106 #[.val (.int p0), .val (.int p1), .val (.int p2), .val (.int p3), .val (.int p4), .val (.int p5), .val (.int n7), .val (.int sm), .val (.long lim), .second, .val (.long C0), .second, .val (.long C1), .second, .val (.long C2), .second, .unset, .unset, .unset, .unset, .unset, .unset, .unset, .unset, .unset, .unset] [(.long C3)])) _
    refine XS.lstore X355.here hx rfl (hb hby at_106) rfl (l' := #[.val (.int p0), .val (.int p1), .val (.int p2), .val (.int p3), .val (.int p4), .val (.int p5), .val (.int n7), .val (.int sm), .val (.long lim), .second, .val (.long C0), .second, .val (.long C1), .second, .val (.long C2), .second, .val (.long C3), .second, .unset, .unset, .unset, .unset, .unset, .unset, .unset, .unset]) rfl ?_
    exact kt
  rcases own_and7 p5 with hn | hn | hn | hn | hn | hn
  · -- flags & 7 is 0
    obtain rfl : (0 : Int32) = n7 := hn.symm.trans h_n7
    have ck359 : ∀ t, Steps p.tables e below (T355.setTop (mkF m 264 #[.val (.int p0), .val (.int p1), .val (.int p2), .val (.int p3), .val (.int p4), .val (.int p5), .val (.int (0 : Int32)), .val (.int sm), .val (.long lim), .second, .val (.long C0), .second, .val (.long C1), .second, .val (.long C2), .second, .val (.long C3), .second, .val (.int (-1 : Int32)), .val .null, .val (.int (((p5.toUInt32 >>> ((4 : Int32) &&& 31).toUInt32).toInt32) &&& (3 : Int32))), .unset, .unset, .unset, .unset, .unset] [])) t → Steps p.tables e below (s₁.setTop (entryFrame m #[(.int p0), (.int p1), (.int p2), (.int p3), (.int p4), (.int p5)] maxLocals)) t := by
      intro t kt
      refine ck358 _ ?_
      refine XS.iload X355.here hx rfl (hb hby at_108) rfl ?_
      refine XS.ifNo X355.here hx rfl (hb hby at_110) rfl ((if0 _ _).trans (teq (by decide : (0 : Int32) = (0 : Int32))).2) ?_
      refine XS.iconst X355.here hx rfl (hb hby at_113) ?_
      refine XS.goto X355.here hx rfl (pc0 := 114) (pc' := 125) rfl (hb hby at_114) (by decide) (by decide) ?_
      refine XS.istore X355.here hx rfl (hb hby at_125) rfl (l' := #[.val (.int p0), .val (.int p1), .val (.int p2), .val (.int p3), .val (.int p4), .val (.int p5), .val (.int (0 : Int32)), .val (.int sm), .val (.long lim), .second, .val (.long C0), .second, .val (.long C1), .second, .val (.long C2), .second, .val (.long C3), .second, .val (.int (-1 : Int32)), .unset, .unset, .unset, .unset, .unset, .unset, .unset]) rfl ?_
      refine XS.aconstNull X355.here hx rfl (hb hby at_127) ?_
      refine XS.astore X355.here hx rfl (hb hby at_128) rfl rfl (l' := #[.val (.int p0), .val (.int p1), .val (.int p2), .val (.int p3), .val (.int p4), .val (.int p5), .val (.int (0 : Int32)), .val (.int sm), .val (.long lim), .second, .val (.long C0), .second, .val (.long C1), .second, .val (.long C2), .second, .val (.long C3), .second, .val (.int (-1 : Int32)), .val .null, .unset, .unset, .unset, .unset, .unset, .unset]) rfl ?_
      refine XS.iload X355.here hx rfl (hb hby at_130) rfl ?_
      refine XS.ifYes X355.here hx rfl (pc0 := 132) (pc' := 143) rfl (hb hby at_132) rfl ((if0 _ _).trans (feq (by decide : ¬ ((-1 : Int32) = (0 : Int32)))).2) (by decide) (by decide) ?_
      refine XS.iload X355.here hx rfl (hb hby at_143) rfl ?_
      refine XS.iconst X355.here hx rfl (hb hby at_145) ?_
      refine XS.icmpYes X355.here hx rfl (pc0 := 146) (pc' := 163) rfl (hb hby at_146) rfl (feq (by decide : ¬ ((-1 : Int32) = (1 : Int32)))).2 (by decide) (by decide) ?_
      refine XS.iload X355.here hx rfl (hb hby at_163) rfl ?_
      refine XS.iconst X355.here hx rfl (hb hby at_165) ?_
      refine XS.icmpYes X355.here hx rfl (pc0 := 166) (pc' := 189) rfl (hb hby at_166) rfl (feq (by decide : ¬ ((-1 : Int32) = (2 : Int32)))).2 (by decide) (by decide) ?_
      refine XS.iload X355.here hx rfl (hb hby at_189) rfl ?_
      refine XS.iconst X355.here hx rfl (hb hby at_191) ?_
      refine XS.icmpYes X355.here hx rfl (pc0 := 192) (pc' := 221) rfl (hb hby at_192) rfl (feq (by decide : ¬ ((-1 : Int32) = (3 : Int32)))).2 (by decide) (by decide) ?_
      refine XS.iload X355.here hx rfl (hb hby at_221) rfl ?_
      refine XS.iconst X355.here hx rfl (hb hby at_223) ?_
      refine XS.icmpYes X355.here hx rfl (pc0 := 224) (pc' := 256) rfl (hb hby at_224) rfl (feq (by decide : ¬ ((-1 : Int32) = (4 : Int32)))).2 (by decide) (by decide) ?_
      refine XS.iload X355.here hx rfl (hb hby at_256) rfl ?_
      refine XS.iconst X355.here hx rfl (hb hby at_258) ?_
      refine XS.iushr X355.here hx rfl (hb hby at_259) rfl ?_
      refine XS.iconst X355.here hx rfl (hb hby at_260) ?_
      refine XS.iand X355.here hx rfl (hb hby at_261) rfl ?_
      refine XS.istore X355.here hx rfl (hb hby at_262) rfl (l' := #[.val (.int p0), .val (.int p1), .val (.int p2), .val (.int p3), .val (.int p4), .val (.int p5), .val (.int (0 : Int32)), .val (.int sm), .val (.long lim), .second, .val (.long C0), .second, .val (.long C1), .second, .val (.long C2), .second, .val (.long C3), .second, .val (.int (-1 : Int32)), .val .null, .val (.int (((p5.toUInt32 >>> ((4 : Int32) &&& 31).toUInt32).toInt32) &&& (3 : Int32))), .unset, .unset, .unset, .unset, .unset]) rfl ?_
      exact kt
    obtain ⟨T364, L364, pk, X364, e364, N364, hj364_0, ck364⟩ : ∃ (TJ : State) (LJ : List Loc) (pk : Int64), Stand p l e room_1 s m #[(.int p0), (.int p1), (.int p2), (.int p3), (.int p4), (.int p5)] below meth c TJ LJ 0 0 ∧ TJ.heap = h0 ∧ Fr n0 LJ ∧ (0 ≤ pk.toInt ∧ pk.toInt ≤ lim.toInt) ∧ (∀ t, Steps p.tables e below (TJ.setTop (mkF m 298 #[.val (.int p0), .val (.int p1), .val (.int p2), .val (.int p3), .val (.int p4), .val (.int p5), .val (.int (0 : Int32)), .val (.int sm), .val (.long lim), .second, .val (.long C0), .second, .val (.long C1), .second, .val (.long C2), .second, .val (.long C3), .second, .val (.int (-1 : Int32)), .val .null, .val (.int (((p5.toUInt32 >>> ((4 : Int32) &&& 31).toUInt32).toInt32) &&& (3 : Int32))), .unset, .unset, .unset, .unset, .unset] [(.long pk)])) t → Steps p.tables e below (s₁.setTop (entryFrame m #[(.int p0), (.int p1), (.int p2), (.int p3), (.int p4), (.int p5)] maxLocals)) t) := by
      by_cases hc266_365 : (((p5.toUInt32 >>> ((4 : Int32) &&& 31).toUInt32).toInt32) &&& (3 : Int32)) = (0 : Int32)
      · -- pc 266: yes
        refine ⟨T355, _, C0, X355, e355, N355, hC0, fun t kt => ?_⟩
        refine ck359 _ ?_
        refine XS.iload X355.here hx rfl (hb hby at_264) rfl ?_
        refine XS.ifNo X355.here hx rfl (hb hby at_266) rfl ((if0 _ _).trans (teq hc266_365).2) ?_
        refine XS.lload X355.here hx rfl (hb hby at_269) rfl ?_
        refine XS.goto X355.here hx rfl (pc0 := 271) (pc' := 298) rfl (hb hby at_271) (by decide) (by decide) ?_
        exact kt
      · -- pc 266: no
        have ck367 : ∀ t, Steps p.tables e below (T355.setTop (mkF m 277 #[.val (.int p0), .val (.int p1), .val (.int p2), .val (.int p3), .val (.int p4), .val (.int p5), .val (.int (0 : Int32)), .val (.int sm), .val (.long lim), .second, .val (.long C0), .second, .val (.long C1), .second, .val (.long C2), .second, .val (.long C3), .second, .val (.int (-1 : Int32)), .val .null, .val (.int (((p5.toUInt32 >>> ((4 : Int32) &&& 31).toUInt32).toInt32) &&& (3 : Int32))), .unset, .unset, .unset, .unset, .unset] [(.int (1 : Int32)), (.int (((p5.toUInt32 >>> ((4 : Int32) &&& 31).toUInt32).toInt32) &&& (3 : Int32)))])) t → Steps p.tables e below (s₁.setTop (entryFrame m #[(.int p0), (.int p1), (.int p2), (.int p3), (.int p4), (.int p5)] maxLocals)) t := by
          intro t kt
          refine ck359 _ ?_
          refine XS.iload X355.here hx rfl (hb hby at_264) rfl ?_
          refine XS.ifYes X355.here hx rfl (pc0 := 266) (pc' := 274) rfl (hb hby at_266) rfl ((if0 _ _).trans (feq hc266_365).2) (by decide) (by decide) ?_
          refine XS.iload X355.here hx rfl (hb hby at_274) rfl ?_
          refine XS.iconst X355.here hx rfl (hb hby at_276) ?_
          exact kt
        by_cases hc277_366 : (((p5.toUInt32 >>> ((4 : Int32) &&& 31).toUInt32).toInt32) &&& (3 : Int32)) = (1 : Int32)
        · -- pc 277: yes
          refine ⟨T355, _, C1, X355, e355, N355, hC1, fun t kt => ?_⟩
          refine ck367 _ ?_
          refine XS.icmpNo X355.here hx rfl (hb hby at_277) rfl (teq hc277_366).2 ?_
          refine XS.lload X355.here hx rfl (hb hby at_280) rfl ?_
          refine XS.goto X355.here hx rfl (pc0 := 282) (pc' := 298) rfl (hb hby at_282) (by decide) (by decide) ?_
          exact kt
        · -- pc 277: no
          by_cases hc288_368 : (((p5.toUInt32 >>> ((4 : Int32) &&& 31).toUInt32).toInt32) &&& (3 : Int32)) = (2 : Int32)
          · -- pc 288: yes
            refine ⟨T355, _, C2, X355, e355, N355, hC2, fun t kt => ?_⟩
            refine ck367 _ ?_
            refine XS.icmpYes X355.here hx rfl (pc0 := 277) (pc' := 285) rfl (hb hby at_277) rfl (feq hc277_366).2 (by decide) (by decide) ?_
            refine XS.iload X355.here hx rfl (hb hby at_285) rfl ?_
            refine XS.iconst X355.here hx rfl (hb hby at_287) ?_
            refine XS.icmpNo X355.here hx rfl (hb hby at_288) rfl (teq hc288_368).2 ?_
            refine XS.lload X355.here hx rfl (hb hby at_291) rfl ?_
            refine XS.goto X355.here hx rfl (pc0 := 293) (pc' := 298) rfl (hb hby at_293) (by decide) (by decide) ?_
            exact kt
          · -- pc 288: no
            refine ⟨T355, _, C3, X355, e355, N355, hC3, fun t kt => ?_⟩
            refine ck367 _ ?_
            refine XS.icmpYes X355.here hx rfl (pc0 := 277) (pc' := 285) rfl (hb hby at_277) rfl (feq hc277_366).2 (by decide) (by decide) ?_
            refine XS.iload X355.here hx rfl (hb hby at_285) rfl ?_
            refine XS.iconst X355.here hx rfl (hb hby at_287) ?_
            refine XS.icmpYes X355.here hx rfl (pc0 := 288) (pc' := 296) rfl (hb hby at_288) rfl (feq hc288_368).2 (by decide) (by decide) ?_
            refine XS.lload X355.here hx rfl (hb hby at_296) rfl ?_
            exact kt
    have hpk := hj364_0
    obtain ⟨T372, L372, qq, X372, e372, N372, hj372_0, ck372⟩ : ∃ (TJ : State) (LJ : List Loc) (qq : Int32), Stand p l e room_1 s m #[(.int p0), (.int p1), (.int p2), (.int p3), (.int p4), (.int p5)] below meth c TJ LJ 0 0 ∧ TJ.heap = h0 ∧ Fr n0 LJ ∧ (0 ≤ qq.toInt) ∧ (∀ t, Steps p.tables e below (TJ.setTop (mkF m 345 #[.val (.int p0), .val (.int p1), .val (.int p2), .val (.int p3), .val (.int p4), .val (.int p5), .val (.int (0 : Int32)), .val (.int sm), .val (.long lim), .second, .val (.long C0), .second, .val (.long C1), .second, .val (.long C2), .second, .val (.long C3), .second, .val (.int (-1 : Int32)), .val .null, .val (.int (((p5.toUInt32 >>> ((4 : Int32) &&& 31).toUInt32).toInt32) &&& (3 : Int32))), .val (.long pk), .second, .val (.int qq), .unset, .unset] [])) t → Steps p.tables e below (s₁.setTop (entryFrame m #[(.int p0), (.int p1), (.int p2), (.int p3), (.int p4), (.int p5)] maxLocals)) t) := by
      have ck374 : ∀ t, Steps p.tables e below (T364.setTop (mkF m 305 #[.val (.int p0), .val (.int p1), .val (.int p2), .val (.int p3), .val (.int p4), .val (.int p5), .val (.int (0 : Int32)), .val (.int sm), .val (.long lim), .second, .val (.long C0), .second, .val (.long C1), .second, .val (.long C2), .second, .val (.long C3), .second, .val (.int (-1 : Int32)), .val .null, .val (.int (((p5.toUInt32 >>> ((4 : Int32) &&& 31).toUInt32).toInt32) &&& (3 : Int32))), .val (.long pk), .second, .unset, .unset, .unset] [(.int (p5 &&& (64 : Int32)))])) t → Steps p.tables e below (s₁.setTop (entryFrame m #[(.int p0), (.int p1), (.int p2), (.int p3), (.int p4), (.int p5)] maxLocals)) t := by
        intro t kt
        refine ck364 _ ?_
        refine XS.lstore X364.here hx rfl (hb hby at_298) rfl (l' := #[.val (.int p0), .val (.int p1), .val (.int p2), .val (.int p3), .val (.int p4), .val (.int p5), .val (.int (0 : Int32)), .val (.int sm), .val (.long lim), .second, .val (.long C0), .second, .val (.long C1), .second, .val (.long C2), .second, .val (.long C3), .second, .val (.int (-1 : Int32)), .val .null, .val (.int (((p5.toUInt32 >>> ((4 : Int32) &&& 31).toUInt32).toInt32) &&& (3 : Int32))), .val (.long pk), .second, .unset, .unset, .unset]) rfl ?_
        refine XS.iload X364.here hx rfl (hb hby at_300) rfl ?_
        refine XS.bipush X364.here hx rfl (hb hby at_302) ?_
        refine XS.iand X364.here hx rfl (hb hby at_304) rfl ?_
        exact kt
      by_cases hc305_373 : (p5 &&& (64 : Int32)) = (0 : Int32)
      · -- pc 305: yes
        refine ⟨T364, _, ((((p4.toInt64) &&& (2147483647 : Int64)) % (lim + (1 : Int64))).toInt32), X364, e364, N364, (own_q2 hlim), fun t kt => ?_⟩
        refine ck374 _ ?_
        refine XS.ifYes X364.here hx rfl (pc0 := 305) (pc' := 330) rfl (hb hby at_305) rfl ((if0 _ _).trans (teq hc305_373).1) (by decide) (by decide) ?_
        refine XS.iload X364.here hx rfl (hb hby at_330) rfl ?_
        refine XS.i2l X364.here hx rfl (hb hby at_332) rfl ?_
        refine X364.ldc2Long hx hown (mvT hZ (own_q hw 0 rfl)) (g := (mkF m 333 #[.val (.int p0), .val (.int p1), .val (.int p2), .val (.int p3), .val (.int p4), .val (.int p5), .val (.int (0 : Int32)), .val (.int sm), .val (.long lim), .second, .val (.long C0), .second, .val (.long C1), .second, .val (.long C2), .second, .val (.long C3), .second, .val (.int (-1 : Int32)), .val .null, .val (.int (((p5.toUInt32 >>> ((4 : Int32) &&& 31).toUInt32).toInt32) &&& (3 : Int32))), .val (.long pk), .second, .unset, .unset, .unset] [(.long (p4.toInt64))])) rfl (hb hby at_333) _ ?_
        show Steps p.tables e below (T364.setTop (mkF m 336 #[.val (.int p0), .val (.int p1), .val (.int p2), .val (.int p3), .val (.int p4), .val (.int p5), .val (.int (0 : Int32)), .val (.int sm), .val (.long lim), .second, .val (.long C0), .second, .val (.long C1), .second, .val (.long C2), .second, .val (.long C3), .second, .val (.int (-1 : Int32)), .val .null, .val (.int (((p5.toUInt32 >>> ((4 : Int32) &&& 31).toUInt32).toInt32) &&& (3 : Int32))), .val (.long pk), .second, .unset, .unset, .unset] [(.long (2147483647 : Int64)), (.long (p4.toInt64))])) _
        refine XS.land X364.here hx rfl (hb hby at_336) rfl ?_
        refine XS.lload X364.here hx rfl (hb hby at_337) rfl ?_
        refine XS.lconst X364.here hx rfl (hb hby at_339) ?_
        refine XS.ladd X364.here hx rfl (hb hby at_340) rfl ?_
        refine XS.lrem X364.here hx rfl (hb hby at_341) rfl (own_nz (own_l1 hlim).1) ?_
        show Steps p.tables e below (T364.setTop (mkF m 342 #[.val (.int p0), .val (.int p1), .val (.int p2), .val (.int p3), .val (.int p4), .val (.int p5), .val (.int (0 : Int32)), .val (.int sm), .val (.long lim), .second, .val (.long C0), .second, .val (.long C1), .second, .val (.long C2), .second, .val (.long C3), .second, .val (.int (-1 : Int32)), .val .null, .val (.int (((p5.toUInt32 >>> ((4 : Int32) &&& 31).toUInt32).toInt32) &&& (3 : Int32))), .val (.long pk), .second, .unset, .unset, .unset] [(.long (((p4.toInt64) &&& (2147483647 : Int64)) - (((p4.toInt64) &&& (2147483647 : Int64)) / (lim + (1 : Int64))) * (lim + (1 : Int64))))])) _
        rw [lrem_mod]
        show Steps p.tables e below (T364.setTop (mkF m 342 #[.val (.int p0), .val (.int p1), .val (.int p2), .val (.int p3), .val (.int p4), .val (.int p5), .val (.int (0 : Int32)), .val (.int sm), .val (.long lim), .second, .val (.long C0), .second, .val (.long C1), .second, .val (.long C2), .second, .val (.long C3), .second, .val (.int (-1 : Int32)), .val .null, .val (.int (((p5.toUInt32 >>> ((4 : Int32) &&& 31).toUInt32).toInt32) &&& (3 : Int32))), .val (.long pk), .second, .unset, .unset, .unset] [(.long (((p4.toInt64) &&& (2147483647 : Int64)) % (lim + (1 : Int64))))])) _
        refine XS.l2i X364.here hx rfl (hb hby at_342) rfl ?_
        refine XS.istore X364.here hx rfl (hb hby at_343) rfl (l' := #[.val (.int p0), .val (.int p1), .val (.int p2), .val (.int p3), .val (.int p4), .val (.int p5), .val (.int (0 : Int32)), .val (.int sm), .val (.long lim), .second, .val (.long C0), .second, .val (.long C1), .second, .val (.long C2), .second, .val (.long C3), .second, .val (.int (-1 : Int32)), .val .null, .val (.int (((p5.toUInt32 >>> ((4 : Int32) &&& 31).toUInt32).toInt32) &&& (3 : Int32))), .val (.long pk), .second, .val (.int ((((p4.toInt64) &&& (2147483647 : Int64)) % (lim + (1 : Int64))).toInt32)), .unset, .unset]) rfl ?_
        exact kt
      · -- pc 305: no
        obtain ⟨_, _, ⟨T375, L375, k375, n375⟩, -, X375, ⟨Lc375, hQ375, l375, y375, z375⟩, st375⟩ := Jvm.LawKit.callS X364 hx (y := (⟨"java/lang/Math", "min", "(JJ)J"⟩ : MethodName)) hown (mvT hZ (own_q hw 35 rfl)) (mvT hZ (own_q hw 36 rfl)) (mvT hZ (own_q hw 3 rfl)) (mvT hZ (own_q hw 37 rfl)) (by decide) (backOf (W := 0) (rm_minJ l Z a0 hw [] lim (pk + ((((p5.toUInt32 >>> ((7 : Int32) &&& 31).toUInt32).toInt32) &&& (1 : Int32)).toInt64)) h0 n0 Z0 (if (0 : Int32) < (lcmpW lim (pk + ((((p5.toUInt32 >>> ((7 : Int32) &&& 31).toUInt32).toInt32) &&& (1 : Int32)).toInt64))) then (pk + ((((p5.toUInt32 >>> ((7 : Int32) &&& 31).toUInt32).toInt32) &&& (1 : Int32)).toInt64)) else lim) rfl) hZ (own_q hw 37 rfl) (own_q hw 3 rfl) (by decide) (by decide)) (g := (mkF m 321 #[.val (.int p0), .val (.int p1), .val (.int p2), .val (.int p3), .val (.int p4), .val (.int p5), .val (.int (0 : Int32)), .val (.int sm), .val (.long lim), .second, .val (.long C0), .second, .val (.long C1), .second, .val (.long C2), .second, .val (.long C3), .second, .val (.int (-1 : Int32)), .val .null, .val (.int (((p5.toUInt32 >>> ((4 : Int32) &&& 31).toUInt32).toInt32) &&& (3 : Int32))), .val (.long pk), .second, .unset, .unset, .unset] [(.long (pk + ((((p5.toUInt32 >>> ((7 : Int32) &&& 31).toUInt32).toInt32) &&& (1 : Int32)).toInt64))), (.long lim)])) rfl (by rw [hml]; rfl) (argsL := [(.long lim), (.long (pk + ((((p5.toUInt32 >>> ((7 : Int32) &&& 31).toUInt32).toInt32) &&& (1 : Int32)).toInt64)))]) (rest := []) (lenOf pd_217 rfl) rfl (by show 2 * 0 + _ ≤ _; exact Nat.le_of_eq rfl) (hb hby at_321) (fun _ _ => ⟨rfl, e364, (by decide : 0 + 0 ≤ _), (by decide : 0 + 0 ≤ _)⟩)
        dsimp only [Pt.U, Pt.locs, Pt.cells, Pt.slots] at X375 l375 y375 z375 st375 hQ375
        subst l375 y375 z375
        obtain ⟨rfl, N375q, e375⟩ := hQ375
        have N375 := Fr.app N364 N375q
        refine ⟨T375, _, ((if (0 : Int32) < (lcmpW lim (pk + ((((p5.toUInt32 >>> ((7 : Int32) &&& 31).toUInt32).toInt32) &&& (1 : Int32)).toInt64))) then (pk + ((((p5.toUInt32 >>> ((7 : Int32) &&& 31).toUInt32).toInt32) &&& (1 : Int32)).toInt64)) else lim).toInt32), X375, e375, N375, (own_q1 hlim hpk), fun t kt => ?_⟩
        refine ck374 _ ?_
        refine XS.ifNo X364.here hx rfl (hb hby at_305) rfl ((if0 _ _).trans (feq hc305_373).1) ?_
        refine XS.lload X364.here hx rfl (hb hby at_308) rfl ?_
        refine XS.lload X364.here hx rfl (hb hby at_310) rfl ?_
        refine XS.iload X364.here hx rfl (hb hby at_312) rfl ?_
        refine XS.bipush X364.here hx rfl (hb hby at_314) ?_
        refine XS.iushr X364.here hx rfl (hb hby at_316) rfl ?_
        refine XS.iconst X364.here hx rfl (hb hby at_317) ?_
        refine XS.iand X364.here hx rfl (hb hby at_318) rfl ?_
        refine XS.i2l X364.here hx rfl (hb hby at_319) rfl ?_
        refine XS.ladd X364.here hx rfl (hb hby at_320) rfl ?_
        refine st375 _ ?_
        show Steps p.tables e below (T375.setTop (mkF m 324 #[.val (.int p0), .val (.int p1), .val (.int p2), .val (.int p3), .val (.int p4), .val (.int p5), .val (.int (0 : Int32)), .val (.int sm), .val (.long lim), .second, .val (.long C0), .second, .val (.long C1), .second, .val (.long C2), .second, .val (.long C3), .second, .val (.int (-1 : Int32)), .val .null, .val (.int (((p5.toUInt32 >>> ((4 : Int32) &&& 31).toUInt32).toInt32) &&& (3 : Int32))), .val (.long pk), .second, .unset, .unset, .unset] [(.long (if (0 : Int32) < (lcmpW lim (pk + ((((p5.toUInt32 >>> ((7 : Int32) &&& 31).toUInt32).toInt32) &&& (1 : Int32)).toInt64))) then (pk + ((((p5.toUInt32 >>> ((7 : Int32) &&& 31).toUInt32).toInt32) &&& (1 : Int32)).toInt64)) else lim))])) _
        refine XS.l2i X375.here hx rfl (hb hby at_324) rfl ?_
        refine XS.istore X375.here hx rfl (hb hby at_325) rfl (l' := #[.val (.int p0), .val (.int p1), .val (.int p2), .val (.int p3), .val (.int p4), .val (.int p5), .val (.int (0 : Int32)), .val (.int sm), .val (.long lim), .second, .val (.long C0), .second, .val (.long C1), .second, .val (.long C2), .second, .val (.long C3), .second, .val (.int (-1 : Int32)), .val .null, .val (.int (((p5.toUInt32 >>> ((4 : Int32) &&& 31).toUInt32).toInt32) &&& (3 : Int32))), .val (.long pk), .second, .val (.int ((if (0 : Int32) < (lcmpW lim (pk + ((((p5.toUInt32 >>> ((7 : Int32) &&& 31).toUInt32).toInt32) &&& (1 : Int32)).toInt64))) then (pk + ((((p5.toUInt32 >>> ((7 : Int32) &&& 31).toUInt32).toInt32) &&& (1 : Int32)).toInt64)) else lim).toInt32)), .unset, .unset]) rfl ?_
        refine XS.goto X375.here hx rfl (pc0 := 327) (pc' := 345) rfl (hb hby at_327) (by decide) (by decide) ?_
        exact kt
    have hqq := hj372_0
    have hqL := c_i2l qq
    obtain ⟨_, _, ⟨T376, L376, k376, n376⟩, -, X376, ⟨Lc376, hQ376, l376, y376, z376⟩, st376⟩ := Jvm.LawKit.callS X372 hx (y := (⟨"com/example/cubelet/cubelet/CellStore$Step", "together", "([I)Lcom/example/cubelet/cubelet/CellStore$Step;"⟩ : MethodName)) hown (mvT hZ (own_q hw 6 rfl)) (mvT hZ (own_q hw 7 rfl)) (mvT hZ (own_q hw 8 rfl)) (mvT hZ (own_q hw 9 rfl)) (by decide) (backOf (W := 0) (rm_tog_null l Z a0 hw [] h0 n0 Z0 ) hZ (own_q hw 9 rfl) (own_q hw 8 rfl) (by decide) (by decide)) (g := (mkF m 347 #[.val (.int p0), .val (.int p1), .val (.int p2), .val (.int p3), .val (.int p4), .val (.int p5), .val (.int (0 : Int32)), .val (.int sm), .val (.long lim), .second, .val (.long C0), .second, .val (.long C1), .second, .val (.long C2), .second, .val (.long C3), .second, .val (.int (-1 : Int32)), .val .null, .val (.int (((p5.toUInt32 >>> ((4 : Int32) &&& 31).toUInt32).toInt32) &&& (3 : Int32))), .val (.long pk), .second, .val (.int qq), .unset, .unset] [.null])) rfl (by rw [hml]; rfl) (argsL := [.null]) (rest := []) (lenOf pd_218 rfl) rfl (by show 2 * 0 + _ ≤ _; exact Nat.le_of_eq rfl) (hb hby at_347) (fun _ _ => ⟨rfl, e372, (by decide : 0 + 1 ≤ _), (by decide : 0 + 5 ≤ _)⟩)
    dsimp only [Pt.U, Pt.locs, Pt.cells, Pt.slots] at X376 l376 y376 z376 st376 hQ376
    subst l376 y376 z376
    obtain ⟨aS, rfl, N376q, E376, ES, FcS, hB⟩ := hQ376
    have N376 := Fr.app N372 N376q
    have e376 : T376.heap = T376.heap := rfl
    have EX376 := own_ext_trans (own_ext_refl h0) E376
    have KP376 := Keep.ext (Keep.refl h0 []) E376
    obtain ⟨cq377, kq377, q377a, q377b, q377c⟩ := isOf hZ e376 (ES)
    obtain ⟨_, _, ⟨T377, L377, k377, n377⟩, -, X377, ⟨Lc377, hQ377, l377, y377, z377⟩, st377⟩ := X376.virtualBack hx (y := (⟨"com/example/cubelet/cubelet/CellStore$Step", "takes", "(I)Z"⟩ : MethodName)) (z := (⟨"com/example/cubelet/cubelet/CellStore$Step", "takes", "(I)Z"⟩ : MethodName)) hown (mvT hZ (own_q hw 29 rfl)) (mvT hZ (own_q hw 30 rfl)) (notFace_of_selects (args := #[]) (mvT hZ (own_q hw 32 rfl))) (mvT hZ (own_q hw 32 rfl)) (mvT hZ (own_q hw 31 rfl)) (by decide) (backOf (W := 0) (rm_tk_null l Z a0 hw [] aS qq T376.heap n0 (Nat.le_trans Z0 EX376.1) FcS) hZ (own_q hw 33 rfl) (own_q hw 8 rfl) (by decide) (by decide)) q377a q377c (g := (mkF m 428 #[.val (.int p0), .val (.int p1), .val (.int p2), .val (.int p3), .val (.int p4), .val (.int p5), .val (.int (0 : Int32)), .val (.int sm), .val (.long lim), .second, .val (.long C0), .second, .val (.long C1), .second, .val (.long C2), .second, .val (.long C3), .second, .val (.int (-1 : Int32)), .val .null, .val (.int (((p5.toUInt32 >>> ((4 : Int32) &&& 31).toUInt32).toInt32) &&& (3 : Int32))), .val (.long pk), .second, .val (.int qq), .val (.ref aS), .val (.int (1 : Int32))] [(.int qq), (.ref aS)])) rfl (by rw [hml]; rfl) (Steps.refl _) (argsL := [(.int qq)]) (rest := []) (lenOf pd_219 rfl) rfl (by show 2 * 0 + _ ≤ _; exact Nat.le_of_eq rfl) (hb hby at_428) (fun _ _ => ⟨rfl, e376, (by decide : 1 + 0 ≤ _), (by decide : 5 + 0 ≤ _)⟩)
    dsimp only [Pt.U, Pt.locs, Pt.cells, Pt.slots] at X377 l377 y377 z377 st377 hQ377
    subst l377 y377 z377
    obtain ⟨rfl, N377q, e377⟩ := hQ377
    have N377 := Fr.app N376 N377q
    obtain ⟨fs, hr, hrun, hended, hW, hsame⟩ := X377.leave (v := some (.int (1 : Int32))) (fun h => by rw [Bd.returns] at h; cases h)
    refine ⟨_, _, ck372 _ ?_, hrun, hended, _, _, rfl, ?_, ⟨_, rfl⟩, hW, hsame.mono (by decide) (by decide)⟩
    · refine XS.aload X372.here hx rfl (hb hby at_345) rfl rfl ?_
      refine st376 _ ?_
      show Steps p.tables e below (T376.setTop (mkF m 350 #[.val (.int p0), .val (.int p1), .val (.int p2), .val (.int p3), .val (.int p4), .val (.int p5), .val (.int (0 : Int32)), .val (.int sm), .val (.long lim), .second, .val (.long C0), .second, .val (.long C1), .second, .val (.long C2), .second, .val (.long C3), .second, .val (.int (-1 : Int32)), .val .null, .val (.int (((p5.toUInt32 >>> ((4 : Int32) &&& 31).toUInt32).toInt32) &&& (3 : Int32))), .val (.long pk), .second, .val (.int qq), .unset, .unset] [(.ref aS)])) _
      refine XS.astore X376.here hx rfl (hb hby at_350) rfl rfl (l' := #[.val (.int p0), .val (.int p1), .val (.int p2), .val (.int p3), .val (.int p4), .val (.int p5), .val (.int (0 : Int32)), .val (.int sm), .val (.long lim), .second, .val (.long C0), .second, .val (.long C1), .second, .val (.long C2), .second, .val (.long C3), .second, .val (.int (-1 : Int32)), .val .null, .val (.int (((p5.toUInt32 >>> ((4 : Int32) &&& 31).toUInt32).toInt32) &&& (3 : Int32))), .val (.long pk), .second, .val (.int qq), .val (.ref aS), .unset]) rfl ?_
      refine XS.iload X376.here hx rfl (hb hby at_352) rfl ?_
      refine XS.ifYes X376.here hx rfl (pc0 := 354) (pc' := 417) rfl (hb hby at_354) rfl ((if0 _ _).trans (tlt (by decide : (-1 : Int32) < (0 : Int32))).1) (by decide) (by decide) ?_
      refine XS.iconst X376.here hx rfl (hb hby at_417) ?_
      refine XS.goto X376.here hx rfl (pc0 := 418) (pc' := 422) rfl (hb hby at_418) (by decide) (by decide) ?_
      refine XS.istore X376.here hx rfl (hb hby at_422) rfl (l' := #[.val (.int p0), .val (.int p1), .val (.int p2), .val (.int p3), .val (.int p4), .val (.int p5), .val (.int (0 : Int32)), .val (.int sm), .val (.long lim), .second, .val (.long C0), .second, .val (.long C1), .second, .val (.long C2), .second, .val (.long C3), .second, .val (.int (-1 : Int32)), .val .null, .val (.int (((p5.toUInt32 >>> ((4 : Int32) &&& 31).toUInt32).toInt32) &&& (3 : Int32))), .val (.long pk), .second, .val (.int qq), .val (.ref aS), .val (.int (1 : Int32))]) rfl ?_
      refine XS.aload X376.here hx rfl (hb hby at_424) rfl rfl ?_
      refine XS.iload X376.here hx rfl (hb hby at_426) rfl ?_
      refine st377.trans ?_
      show Steps p.tables e below (T377.setTop (mkF m 431 #[.val (.int p0), .val (.int p1), .val (.int p2), .val (.int p3), .val (.int p4), .val (.int p5), .val (.int (0 : Int32)), .val (.int sm), .val (.long lim), .second, .val (.long C0), .second, .val (.long C1), .second, .val (.long C2), .second, .val (.long C3), .second, .val (.int (-1 : Int32)), .val .null, .val (.int (((p5.toUInt32 >>> ((4 : Int32) &&& 31).toUInt32).toInt32) &&& (3 : Int32))), .val (.long pk), .second, .val (.int qq), .val (.ref aS), .val (.int (1 : Int32))] [(.int (1 : Int32))])) _
      refine XS.iload X377.here hx rfl (hb hby at_431) rfl ?_
      refine XS.icmpNo X377.here hx rfl (hb hby at_433) rfl (teq (by decide : (1 : Int32) = (1 : Int32))).2 ?_
      refine XS.iconst X377.here hx rfl (hb hby at_436) ?_
      refine XS.goto X377.here hx rfl (pc0 := 437) (pc' := 441) rfl (hb hby at_437) (by decide) (by decide) ?_
      exact retN X377 hx (t := .boolean) Bd.returns (by simp) (hb hby at_441) hr
    · show own_Made (some (.int 1)) n0 _ T377.heap _
      rw [e377]
      exact ⟨rfl, N377, trivial⟩
  · -- flags & 7 is 1
    obtain rfl : (1 : Int32) = n7 := hn.symm.trans h_n7
    obtain ⟨_, _, ⟨T378, L378, k378, n378⟩, -, X378, ⟨Lc378, hQ378, l378, y378, z378⟩, st378⟩ := Jvm.LawKit.callS X355 hx (y := (⟨"java/lang/Math", "min", "(II)I"⟩ : MethodName)) hown (mvT hZ (own_q hw 1 rfl)) (mvT hZ (own_q hw 2 rfl)) (mvT hZ (own_q hw 3 rfl)) (mvT hZ (own_q hw 4 rfl)) (by decide) (backOf (W := 0) (rm_minI l Z a0 hw [] (0 : Int32) (4 : Int32) h0 n0 Z0 (0 : Int32) (by decide)) hZ (own_q hw 4 rfl) (own_q hw 3 rfl) (by decide) (by decide)) (g := (mkF m 122 #[.val (.int p0), .val (.int p1), .val (.int p2), .val (.int p3), .val (.int p4), .val (.int p5), .val (.int (1 : Int32)), .val (.int sm), .val (.long lim), .second, .val (.long C0), .second, .val (.long C1), .second, .val (.long C2), .second, .val (.long C3), .second, .unset, .unset, .unset, .unset, .unset, .unset, .unset, .unset] [(.int (4 : Int32)), (.int (0 : Int32))])) rfl (by rw [hml]; rfl) (argsL := [(.int (0 : Int32)), (.int (4 : Int32))]) (rest := []) (lenOf pd_220 rfl) rfl (by show 2 * 0 + _ ≤ _; exact Nat.le_of_eq rfl) (hb hby at_122) (fun _ _ => ⟨rfl, e355, (by decide : 0 + 0 ≤ _), (by decide : 0 + 0 ≤ _)⟩)
    dsimp only [Pt.U, Pt.locs, Pt.cells, Pt.slots] at X378 l378 y378 z378 st378 hQ378
    subst l378 y378 z378
    obtain ⟨rfl, N378q, e378⟩ := hQ378
    have N378 := Fr.app N355 N378q
    obtain ⟨T379, h379, k379, X379, e379, E379, A379, st379⟩ := newP X378 hx hZ (own_q hw 5 rfl) e378 (g := (mkF m 136 #[.val (.int p0), .val (.int p1), .val (.int p2), .val (.int p3), .val (.int p4), .val (.int p5), .val (.int (1 : Int32)), .val (.int sm), .val (.long lim), .second, .val (.long C0), .second, .val (.long C1), .second, .val (.long C2), .second, .val (.long C3), .second, .val (.int (0 : Int32)), .val .null, .unset, .unset, .unset, .unset, .unset, .unset] [(.int (0 : Int32))])) rfl (hb hby at_136) rfl (by decide) (cap := 0) (by decide) (by decide) (by decide) (by decide)
    obtain ⟨b379, g379⟩ : ∃ z, z = h0.size := ⟨_, rfl⟩
    rw [← g379] at A379 st379
    have sz_b379 : h0.size ≤ b379 := Nat.le_trans (Keep.refl h0 []).1 (Nat.le_of_eq g379.symm)
    have gn_b379 : n0 ≤ b379 := Nat.le_trans Z0 sz_b379
    have EX379 := own_ext_trans (own_ext_refl h0) E379
    have KP379 := Keep.ext (Keep.refl h0 []) E379
    have V379 : Arv Z h379 b379 k379 .int (0 : Int32) [] (.int (0 : Int32)) := (Arv.new A379 (by decide)).pad (pad_rep [] (.int (0 : Int32)) 0)
    have ck380 : ∀ t, Steps p.tables e below (T379.setTop (mkF m 264 #[.val (.int p0), .val (.int p1), .val (.int p2), .val (.int p3), .val (.int p4), .val (.int p5), .val (.int (1 : Int32)), .val (.int sm), .val (.long lim), .second, .val (.long C0), .second, .val (.long C1), .second, .val (.long C2), .second, .val (.long C3), .second, .val (.int (0 : Int32)), .val (.ref b379), .val (.int (((p5.toUInt32 >>> ((4 : Int32) &&& 31).toUInt32).toInt32) &&& (3 : Int32))), .unset, .unset, .unset, .unset, .unset] [])) t → Steps p.tables e below (s₁.setTop (entryFrame m #[(.int p0), (.int p1), (.int p2), (.int p3), (.int p4), (.int p5)] maxLocals)) t := by
      intro t kt
      refine ck358 _ ?_
      refine XS.iload X355.here hx rfl (hb hby at_108) rfl ?_
      refine XS.ifYes X355.here hx rfl (pc0 := 110) (pc' := 117) rfl (hb hby at_110) rfl ((if0 _ _).trans (feq (by decide : ¬ ((1 : Int32) = (0 : Int32)))).2) (by decide) (by decide) ?_
      refine XS.iload X355.here hx rfl (hb hby at_117) rfl ?_
      refine XS.iconst X355.here hx rfl (hb hby at_119) ?_
      refine XS.isub X355.here hx rfl (hb hby at_120) rfl ?_
      refine XS.iconst X355.here hx rfl (hb hby at_121) ?_
      refine st378 _ ?_
      show Steps p.tables e below (T378.setTop (mkF m 125 #[.val (.int p0), .val (.int p1), .val (.int p2), .val (.int p3), .val (.int p4), .val (.int p5), .val (.int (1 : Int32)), .val (.int sm), .val (.long lim), .second, .val (.long C0), .second, .val (.long C1), .second, .val (.long C2), .second, .val (.long C3), .second, .unset, .unset, .unset, .unset, .unset, .unset, .unset, .unset] [(.int (0 : Int32))])) _
      refine XS.istore X378.here hx rfl (hb hby at_125) rfl (l' := #[.val (.int p0), .val (.int p1), .val (.int p2), .val (.int p3), .val (.int p4), .val (.int p5), .val (.int (1 : Int32)), .val (.int sm), .val (.long lim), .second, .val (.long C0), .second, .val (.long C1), .second, .val (.long C2), .second, .val (.long C3), .second, .val (.int (0 : Int32)), .unset, .unset, .unset, .unset, .unset, .unset, .unset]) rfl ?_
      refine XS.aconstNull X378.here hx rfl (hb hby at_127) ?_
      refine XS.astore X378.here hx rfl (hb hby at_128) rfl rfl (l' := #[.val (.int p0), .val (.int p1), .val (.int p2), .val (.int p3), .val (.int p4), .val (.int p5), .val (.int (1 : Int32)), .val (.int sm), .val (.long lim), .second, .val (.long C0), .second, .val (.long C1), .second, .val (.long C2), .second, .val (.long C3), .second, .val (.int (0 : Int32)), .val .null, .unset, .unset, .unset, .unset, .unset, .unset]) rfl ?_
      refine XS.iload X378.here hx rfl (hb hby at_130) rfl ?_
      refine XS.ifNo X378.here hx rfl (hb hby at_132) rfl ((if0 _ _).trans (teq (by decide : (0 : Int32) = (0 : Int32))).2) ?_
      refine XS.iconst X378.here hx rfl (hb hby at_135) ?_
      refine st379 _ ?_
      show Steps p.tables e below (T379.setTop (mkF m 138 #[.val (.int p0), .val (.int p1), .val (.int p2), .val (.int p3), .val (.int p4), .val (.int p5), .val (.int (1 : Int32)), .val (.int sm), .val (.long lim), .second, .val (.long C0), .second, .val (.long C1), .second, .val (.long C2), .second, .val (.long C3), .second, .val (.int (0 : Int32)), .val .null, .unset, .unset, .unset, .unset, .unset, .unset] [(.ref b379)])) _
      refine XS.astore X379.here hx rfl (hb hby at_138) rfl rfl (l' := #[.val (.int p0), .val (.int p1), .val (.int p2), .val (.int p3), .val (.int p4), .val (.int p5), .val (.int (1 : Int32)), .val (.int sm), .val (.long lim), .second, .val (.long C0), .second, .val (.long C1), .second, .val (.long C2), .second, .val (.long C3), .second, .val (.int (0 : Int32)), .val (.ref b379), .unset, .unset, .unset, .unset, .unset, .unset]) rfl ?_
      refine XS.goto X379.here hx rfl (pc0 := 140) (pc' := 256) rfl (hb hby at_140) (by decide) (by decide) ?_
      refine XS.iload X379.here hx rfl (hb hby at_256) rfl ?_
      refine XS.iconst X379.here hx rfl (hb hby at_258) ?_
      refine XS.iushr X379.here hx rfl (hb hby at_259) rfl ?_
      refine XS.iconst X379.here hx rfl (hb hby at_260) ?_
      refine XS.iand X379.here hx rfl (hb hby at_261) rfl ?_
      refine XS.istore X379.here hx rfl (hb hby at_262) rfl (l' := #[.val (.int p0), .val (.int p1), .val (.int p2), .val (.int p3), .val (.int p4), .val (.int p5), .val (.int (1 : Int32)), .val (.int sm), .val (.long lim), .second, .val (.long C0), .second, .val (.long C1), .second, .val (.long C2), .second, .val (.long C3), .second, .val (.int (0 : Int32)), .val (.ref b379), .val (.int (((p5.toUInt32 >>> ((4 : Int32) &&& 31).toUInt32).toInt32) &&& (3 : Int32))), .unset, .unset, .unset, .unset, .unset]) rfl ?_
      exact kt
    (try clear st379); (try clear A379); (try clear E379); (try clear e378); (try clear N378q); (try clear st378); (try clear Lc378); (try clear X378); (try clear n378); (try clear k378); (try clear L378); (try clear T378)
    obtain ⟨T385, L385, pk, X385, e385, N385, hj385_0, ck385⟩ : ∃ (TJ : State) (LJ : List Loc) (pk : Int64), Stand p l e room_1 s m #[(.int p0), (.int p1), (.int p2), (.int p3), (.int p4), (.int p5)] below meth c TJ LJ 1 0 ∧ TJ.heap = h379 ∧ Fr n0 LJ ∧ (0 ≤ pk.toInt ∧ pk.toInt ≤ lim.toInt) ∧ (∀ t, Steps p.tables e below (TJ.setTop (mkF m 298 #[.val (.int p0), .val (.int p1), .val (.int p2), .val (.int p3), .val (.int p4), .val (.int p5), .val (.int (1 : Int32)), .val (.int sm), .val (.long lim), .second, .val (.long C0), .second, .val (.long C1), .second, .val (.long C2), .second, .val (.long C3), .second, .val (.int (0 : Int32)), .val (.ref b379), .val (.int (((p5.toUInt32 >>> ((4 : Int32) &&& 31).toUInt32).toInt32) &&& (3 : Int32))), .unset, .unset, .unset, .unset, .unset] [(.long pk)])) t → Steps p.tables e below (s₁.setTop (entryFrame m #[(.int p0), (.int p1), (.int p2), (.int p3), (.int p4), (.int p5)] maxLocals)) t) := by
      by_cases hc266_386 : (((p5.toUInt32 >>> ((4 : Int32) &&& 31).toUInt32).toInt32) &&& (3 : Int32)) = (0 : Int32)
      · -- pc 266: yes
        refine ⟨T379, _, C0, X379, e379, N378, hC0, fun t kt => ?_⟩
        refine ck380 _ ?_
        refine XS.iload X379.here hx rfl (hb hby at_264) rfl ?_
        refine XS.ifNo X379.here hx rfl (hb hby at_266) rfl ((if0 _ _).trans (teq hc266_386).2) ?_
        refine XS.lload X379.here hx rfl (hb hby at_269) rfl ?_
        refine XS.goto X379.here hx rfl (pc0 := 271) (pc' := 298) rfl (hb hby at_271) (by decide) (by decide) ?_
        exact kt
      · -- pc 266: no
        have ck388 : ∀ t, Steps p.tables e below (T379.setTop (mkF m 277 #[.val (.int p0), .val (.int p1), .val (.int p2), .val (.int p3), .val (.int p4), .val (.int p5), .val (.int (1 : Int32)), .val (.int sm), .val (.long lim), .second, .val (.long C0), .second, .val (.long C1), .second, .val (.long C2), .second, .val (.long C3), .second, .val (.int (0 : Int32)), .val (.ref b379), .val (.int (((p5.toUInt32 >>> ((4 : Int32) &&& 31).toUInt32).toInt32) &&& (3 : Int32))), .unset, .unset, .unset, .unset, .unset] [(.int (1 : Int32)), (.int (((p5.toUInt32 >>> ((4 : Int32) &&& 31).toUInt32).toInt32) &&& (3 : Int32)))])) t → Steps p.tables e below (s₁.setTop (entryFrame m #[(.int p0), (.int p1), (.int p2), (.int p3), (.int p4), (.int p5)] maxLocals)) t := by
          intro t kt
          refine ck380 _ ?_
          refine XS.iload X379.here hx rfl (hb hby at_264) rfl ?_
          refine XS.ifYes X379.here hx rfl (pc0 := 266) (pc' := 274) rfl (hb hby at_266) rfl ((if0 _ _).trans (feq hc266_386).2) (by decide) (by decide) ?_
          refine XS.iload X379.here hx rfl (hb hby at_274) rfl ?_
          refine XS.iconst X379.here hx rfl (hb hby at_276) ?_
          exact kt
        by_cases hc277_387 : (((p5.toUInt32 >>> ((4 : Int32) &&& 31).toUInt32).toInt32) &&& (3 : Int32)) = (1 : Int32)
        · -- pc 277: yes
          refine ⟨T379, _, C1, X379, e379, N378, hC1, fun t kt => ?_⟩
          refine ck388 _ ?_
          refine XS.icmpNo X379.here hx rfl (hb hby at_277) rfl (teq hc277_387).2 ?_
          refine XS.lload X379.here hx rfl (hb hby at_280) rfl ?_
          refine XS.goto X379.here hx rfl (pc0 := 282) (pc' := 298) rfl (hb hby at_282) (by decide) (by decide) ?_
          exact kt
        · -- pc 277: no
          by_cases hc288_389 : (((p5.toUInt32 >>> ((4 : Int32) &&& 31).toUInt32).toInt32) &&& (3 : Int32)) = (2 : Int32)
          · -- pc 288: yes
            refine ⟨T379, _, C2, X379, e379, N378, hC2, fun t kt => ?_⟩
            refine ck388 _ ?_
            refine XS.icmpYes X379.here hx rfl (pc0 := 277) (pc' := 285) rfl (hb hby at_277) rfl (feq hc277_387).2 (by decide) (by decide) ?_
            refine XS.iload X379.here hx rfl (hb hby at_285) rfl ?_
            refine XS.iconst X379.here hx rfl (hb hby at_287) ?_
            refine XS.icmpNo X379.here hx rfl (hb hby at_288) rfl (teq hc288_389).2 ?_
            refine XS.lload X379.here hx rfl (hb hby at_291) rfl ?_
            refine XS.goto X379.here hx rfl (pc0 := 293) (pc' := 298) rfl (hb hby at_293) (by decide) (by decide) ?_
            exact kt
          · -- pc 288: no
            refine ⟨T379, _, C3, X379, e379, N378, hC3, fun t kt => ?_⟩
            refine ck388 _ ?_
            refine XS.icmpYes X379.here hx rfl (pc0 := 277) (pc' := 285) rfl (hb hby at_277) rfl (feq hc277_387).2 (by decide) (by decide) ?_
            refine XS.iload X379.here hx rfl (hb hby at_285) rfl ?_
            refine XS.iconst X379.here hx rfl (hb hby at_287) ?_
            refine XS.icmpYes X379.here hx rfl (pc0 := 288) (pc' := 296) rfl (hb hby at_288) rfl (feq hc288_389).2 (by decide) (by decide) ?_
            refine XS.lload X379.here hx rfl (hb hby at_296) rfl ?_
            exact kt
    have hpk := hj385_0
    obtain ⟨T393, L393, qq, X393, e393, N393, hj393_0, ck393⟩ : ∃ (TJ : State) (LJ : List Loc) (qq : Int32), Stand p l e room_1 s m #[(.int p0), (.int p1), (.int p2), (.int p3), (.int p4), (.int p5)] below meth c TJ LJ 1 0 ∧ TJ.heap = h379 ∧ Fr n0 LJ ∧ (0 ≤ qq.toInt) ∧ (∀ t, Steps p.tables e below (TJ.setTop (mkF m 345 #[.val (.int p0), .val (.int p1), .val (.int p2), .val (.int p3), .val (.int p4), .val (.int p5), .val (.int (1 : Int32)), .val (.int sm), .val (.long lim), .second, .val (.long C0), .second, .val (.long C1), .second, .val (.long C2), .second, .val (.long C3), .second, .val (.int (0 : Int32)), .val (.ref b379), .val (.int (((p5.toUInt32 >>> ((4 : Int32) &&& 31).toUInt32).toInt32) &&& (3 : Int32))), .val (.long pk), .second, .val (.int qq), .unset, .unset] [])) t → Steps p.tables e below (s₁.setTop (entryFrame m #[(.int p0), (.int p1), (.int p2), (.int p3), (.int p4), (.int p5)] maxLocals)) t) := by
      have ck395 : ∀ t, Steps p.tables e below (T385.setTop (mkF m 305 #[.val (.int p0), .val (.int p1), .val (.int p2), .val (.int p3), .val (.int p4), .val (.int p5), .val (.int (1 : Int32)), .val (.int sm), .val (.long lim), .second, .val (.long C0), .second, .val (.long C1), .second, .val (.long C2), .second, .val (.long C3), .second, .val (.int (0 : Int32)), .val (.ref b379), .val (.int (((p5.toUInt32 >>> ((4 : Int32) &&& 31).toUInt32).toInt32) &&& (3 : Int32))), .val (.long pk), .second, .unset, .unset, .unset] [(.int (p5 &&& (64 : Int32)))])) t → Steps p.tables e below (s₁.setTop (entryFrame m #[(.int p0), (.int p1), (.int p2), (.int p3), (.int p4), (.int p5)] maxLocals)) t := by
        intro t kt
        refine ck385 _ ?_
        refine XS.lstore X385.here hx rfl (hb hby at_298) rfl (l' := #[.val (.int p0), .val (.int p1), .val (.int p2), .val (.int p3), .val (.int p4), .val (.int p5), .val (.int (1 : Int32)), .val (.int sm), .val (.long lim), .second, .val (.long C0), .second, .val (.long C1), .second, .val (.long C2), .second, .val (.long C3), .second, .val (.int (0 : Int32)), .val (.ref b379), .val (.int (((p5.toUInt32 >>> ((4 : Int32) &&& 31).toUInt32).toInt32) &&& (3 : Int32))), .val (.long pk), .second, .unset, .unset, .unset]) rfl ?_
        refine XS.iload X385.here hx rfl (hb hby at_300) rfl ?_
        refine XS.bipush X385.here hx rfl (hb hby at_302) ?_
        refine XS.iand X385.here hx rfl (hb hby at_304) rfl ?_
        exact kt
      by_cases hc305_394 : (p5 &&& (64 : Int32)) = (0 : Int32)
      · -- pc 305: yes
        refine ⟨T385, _, ((((p4.toInt64) &&& (2147483647 : Int64)) % (lim + (1 : Int64))).toInt32), X385, e385, N385, (own_q2 hlim), fun t kt => ?_⟩
        refine ck395 _ ?_
        refine XS.ifYes X385.here hx rfl (pc0 := 305) (pc' := 330) rfl (hb hby at_305) rfl ((if0 _ _).trans (teq hc305_394).1) (by decide) (by decide) ?_
        refine XS.iload X385.here hx rfl (hb hby at_330) rfl ?_
        refine XS.i2l X385.here hx rfl (hb hby at_332) rfl ?_
        refine X385.ldc2Long hx hown (mvT hZ (own_q hw 0 rfl)) (g := (mkF m 333 #[.val (.int p0), .val (.int p1), .val (.int p2), .val (.int p3), .val (.int p4), .val (.int p5), .val (.int (1 : Int32)), .val (.int sm), .val (.long lim), .second, .val (.long C0), .second, .val (.long C1), .second, .val (.long C2), .second, .val (.long C3), .second, .val (.int (0 : Int32)), .val (.ref b379), .val (.int (((p5.toUInt32 >>> ((4 : Int32) &&& 31).toUInt32).toInt32) &&& (3 : Int32))), .val (.long pk), .second, .unset, .unset, .unset] [(.long (p4.toInt64))])) rfl (hb hby at_333) _ ?_
        show Steps p.tables e below (T385.setTop (mkF m 336 #[.val (.int p0), .val (.int p1), .val (.int p2), .val (.int p3), .val (.int p4), .val (.int p5), .val (.int (1 : Int32)), .val (.int sm), .val (.long lim), .second, .val (.long C0), .second, .val (.long C1), .second, .val (.long C2), .second, .val (.long C3), .second, .val (.int (0 : Int32)), .val (.ref b379), .val (.int (((p5.toUInt32 >>> ((4 : Int32) &&& 31).toUInt32).toInt32) &&& (3 : Int32))), .val (.long pk), .second, .unset, .unset, .unset] [(.long (2147483647 : Int64)), (.long (p4.toInt64))])) _
        refine XS.land X385.here hx rfl (hb hby at_336) rfl ?_
        refine XS.lload X385.here hx rfl (hb hby at_337) rfl ?_
        refine XS.lconst X385.here hx rfl (hb hby at_339) ?_
        refine XS.ladd X385.here hx rfl (hb hby at_340) rfl ?_
        refine XS.lrem X385.here hx rfl (hb hby at_341) rfl (own_nz (own_l1 hlim).1) ?_
        show Steps p.tables e below (T385.setTop (mkF m 342 #[.val (.int p0), .val (.int p1), .val (.int p2), .val (.int p3), .val (.int p4), .val (.int p5), .val (.int (1 : Int32)), .val (.int sm), .val (.long lim), .second, .val (.long C0), .second, .val (.long C1), .second, .val (.long C2), .second, .val (.long C3), .second, .val (.int (0 : Int32)), .val (.ref b379), .val (.int (((p5.toUInt32 >>> ((4 : Int32) &&& 31).toUInt32).toInt32) &&& (3 : Int32))), .val (.long pk), .second, .unset, .unset, .unset] [(.long (((p4.toInt64) &&& (2147483647 : Int64)) - (((p4.toInt64) &&& (2147483647 : Int64)) / (lim + (1 : Int64))) * (lim + (1 : Int64))))])) _
        rw [lrem_mod]
        show Steps p.tables e below (T385.setTop (mkF m 342 #[.val (.int p0), .val (.int p1), .val (.int p2), .val (.int p3), .val (.int p4), .val (.int p5), .val (.int (1 : Int32)), .val (.int sm), .val (.long lim), .second, .val (.long C0), .second, .val (.long C1), .second, .val (.long C2), .second, .val (.long C3), .second, .val (.int (0 : Int32)), .val (.ref b379), .val (.int (((p5.toUInt32 >>> ((4 : Int32) &&& 31).toUInt32).toInt32) &&& (3 : Int32))), .val (.long pk), .second, .unset, .unset, .unset] [(.long (((p4.toInt64) &&& (2147483647 : Int64)) % (lim + (1 : Int64))))])) _
        refine XS.l2i X385.here hx rfl (hb hby at_342) rfl ?_
        refine XS.istore X385.here hx rfl (hb hby at_343) rfl (l' := #[.val (.int p0), .val (.int p1), .val (.int p2), .val (.int p3), .val (.int p4), .val (.int p5), .val (.int (1 : Int32)), .val (.int sm), .val (.long lim), .second, .val (.long C0), .second, .val (.long C1), .second, .val (.long C2), .second, .val (.long C3), .second, .val (.int (0 : Int32)), .val (.ref b379), .val (.int (((p5.toUInt32 >>> ((4 : Int32) &&& 31).toUInt32).toInt32) &&& (3 : Int32))), .val (.long pk), .second, .val (.int ((((p4.toInt64) &&& (2147483647 : Int64)) % (lim + (1 : Int64))).toInt32)), .unset, .unset]) rfl ?_
        exact kt
      · -- pc 305: no
        obtain ⟨_, _, ⟨T396, L396, k396, n396⟩, -, X396, ⟨Lc396, hQ396, l396, y396, z396⟩, st396⟩ := Jvm.LawKit.callS X385 hx (y := (⟨"java/lang/Math", "min", "(JJ)J"⟩ : MethodName)) hown (mvT hZ (own_q hw 35 rfl)) (mvT hZ (own_q hw 36 rfl)) (mvT hZ (own_q hw 3 rfl)) (mvT hZ (own_q hw 37 rfl)) (by decide) (backOf (W := 0) (rm_minJ l Z a0 hw [] lim (pk + ((((p5.toUInt32 >>> ((7 : Int32) &&& 31).toUInt32).toInt32) &&& (1 : Int32)).toInt64)) h379 n0 (Nat.le_trans Z0 EX379.1) (if (0 : Int32) < (lcmpW lim (pk + ((((p5.toUInt32 >>> ((7 : Int32) &&& 31).toUInt32).toInt32) &&& (1 : Int32)).toInt64))) then (pk + ((((p5.toUInt32 >>> ((7 : Int32) &&& 31).toUInt32).toInt32) &&& (1 : Int32)).toInt64)) else lim) rfl) hZ (own_q hw 37 rfl) (own_q hw 3 rfl) (by decide) (by decide)) (g := (mkF m 321 #[.val (.int p0), .val (.int p1), .val (.int p2), .val (.int p3), .val (.int p4), .val (.int p5), .val (.int (1 : Int32)), .val (.int sm), .val (.long lim), .second, .val (.long C0), .second, .val (.long C1), .second, .val (.long C2), .second, .val (.long C3), .second, .val (.int (0 : Int32)), .val (.ref b379), .val (.int (((p5.toUInt32 >>> ((4 : Int32) &&& 31).toUInt32).toInt32) &&& (3 : Int32))), .val (.long pk), .second, .unset, .unset, .unset] [(.long (pk + ((((p5.toUInt32 >>> ((7 : Int32) &&& 31).toUInt32).toInt32) &&& (1 : Int32)).toInt64))), (.long lim)])) rfl (by rw [hml]; rfl) (argsL := [(.long lim), (.long (pk + ((((p5.toUInt32 >>> ((7 : Int32) &&& 31).toUInt32).toInt32) &&& (1 : Int32)).toInt64)))]) (rest := []) (lenOf pd_217 rfl) rfl (by show 2 * 0 + _ ≤ _; exact Nat.le_of_eq rfl) (hb hby at_321) (fun _ _ => ⟨rfl, e385, (by decide : 1 + 0 ≤ _), (by decide : 0 + 0 ≤ _)⟩)
        dsimp only [Pt.U, Pt.locs, Pt.cells, Pt.slots] at X396 l396 y396 z396 st396 hQ396
        subst l396 y396 z396
        obtain ⟨rfl, N396q, e396⟩ := hQ396
        have N396 := Fr.app N385 N396q
        refine ⟨T396, _, ((if (0 : Int32) < (lcmpW lim (pk + ((((p5.toUInt32 >>> ((7 : Int32) &&& 31).toUInt32).toInt32) &&& (1 : Int32)).toInt64))) then (pk + ((((p5.toUInt32 >>> ((7 : Int32) &&& 31).toUInt32).toInt32) &&& (1 : Int32)).toInt64)) else lim).toInt32), X396, e396, N396, (own_q1 hlim hpk), fun t kt => ?_⟩
        refine ck395 _ ?_
        refine XS.ifNo X385.here hx rfl (hb hby at_305) rfl ((if0 _ _).trans (feq hc305_394).1) ?_
        refine XS.lload X385.here hx rfl (hb hby at_308) rfl ?_
        refine XS.lload X385.here hx rfl (hb hby at_310) rfl ?_
        refine XS.iload X385.here hx rfl (hb hby at_312) rfl ?_
        refine XS.bipush X385.here hx rfl (hb hby at_314) ?_
        refine XS.iushr X385.here hx rfl (hb hby at_316) rfl ?_
        refine XS.iconst X385.here hx rfl (hb hby at_317) ?_
        refine XS.iand X385.here hx rfl (hb hby at_318) rfl ?_
        refine XS.i2l X385.here hx rfl (hb hby at_319) rfl ?_
        refine XS.ladd X385.here hx rfl (hb hby at_320) rfl ?_
        refine st396 _ ?_
        show Steps p.tables e below (T396.setTop (mkF m 324 #[.val (.int p0), .val (.int p1), .val (.int p2), .val (.int p3), .val (.int p4), .val (.int p5), .val (.int (1 : Int32)), .val (.int sm), .val (.long lim), .second, .val (.long C0), .second, .val (.long C1), .second, .val (.long C2), .second, .val (.long C3), .second, .val (.int (0 : Int32)), .val (.ref b379), .val (.int (((p5.toUInt32 >>> ((4 : Int32) &&& 31).toUInt32).toInt32) &&& (3 : Int32))), .val (.long pk), .second, .unset, .unset, .unset] [(.long (if (0 : Int32) < (lcmpW lim (pk + ((((p5.toUInt32 >>> ((7 : Int32) &&& 31).toUInt32).toInt32) &&& (1 : Int32)).toInt64))) then (pk + ((((p5.toUInt32 >>> ((7 : Int32) &&& 31).toUInt32).toInt32) &&& (1 : Int32)).toInt64)) else lim))])) _
        refine XS.l2i X396.here hx rfl (hb hby at_324) rfl ?_
        refine XS.istore X396.here hx rfl (hb hby at_325) rfl (l' := #[.val (.int p0), .val (.int p1), .val (.int p2), .val (.int p3), .val (.int p4), .val (.int p5), .val (.int (1 : Int32)), .val (.int sm), .val (.long lim), .second, .val (.long C0), .second, .val (.long C1), .second, .val (.long C2), .second, .val (.long C3), .second, .val (.int (0 : Int32)), .val (.ref b379), .val (.int (((p5.toUInt32 >>> ((4 : Int32) &&& 31).toUInt32).toInt32) &&& (3 : Int32))), .val (.long pk), .second, .val (.int ((if (0 : Int32) < (lcmpW lim (pk + ((((p5.toUInt32 >>> ((7 : Int32) &&& 31).toUInt32).toInt32) &&& (1 : Int32)).toInt64))) then (pk + ((((p5.toUInt32 >>> ((7 : Int32) &&& 31).toUInt32).toInt32) &&& (1 : Int32)).toInt64)) else lim).toInt32)), .unset, .unset]) rfl ?_
        refine XS.goto X396.here hx rfl (pc0 := 327) (pc' := 345) rfl (hb hby at_327) (by decide) (by decide) ?_
        exact kt
    have hqq := hj393_0
    have hqL := c_i2l qq
    obtain ⟨_, _, ⟨T397, L397, k397, n397⟩, -, X397, ⟨Lc397, hQ397, l397, y397, z397⟩, st397⟩ := Jvm.LawKit.callS X393 hx (y := (⟨"com/example/cubelet/cubelet/CellStore$Step", "together", "([I)Lcom/example/cubelet/cubelet/CellStore$Step;"⟩ : MethodName)) hown (mvT hZ (own_q hw 6 rfl)) (mvT hZ (own_q hw 7 rfl)) (mvT hZ (own_q hw 8 rfl)) (mvT hZ (own_q hw 9 rfl)) (by decide) (backOf (W := 0) (rm_tog_0 l Z a0 hw [] b379 h379 n0 (Nat.le_trans Z0 EX379.1) k379 V379) hZ (own_q hw 9 rfl) (own_q hw 8 rfl) (by decide) (by decide)) (g := (mkF m 347 #[.val (.int p0), .val (.int p1), .val (.int p2), .val (.int p3), .val (.int p4), .val (.int p5), .val (.int (1 : Int32)), .val (.int sm), .val (.long lim), .second, .val (.long C0), .second, .val (.long C1), .second, .val (.long C2), .second, .val (.long C3), .second, .val (.int (0 : Int32)), .val (.ref b379), .val (.int (((p5.toUInt32 >>> ((4 : Int32) &&& 31).toUInt32).toInt32) &&& (3 : Int32))), .val (.long pk), .second, .val (.int qq), .unset, .unset] [(.ref b379)])) rfl (by rw [hml]; rfl) (argsL := [(.ref b379)]) (rest := []) (lenOf pd_218 rfl) rfl (by show 2 * 0 + _ ≤ _; exact Nat.le_of_eq rfl) (hb hby at_347) (fun _ _ => ⟨rfl, e393, (by decide : 1 + 1 ≤ _), (by decide : 0 + 5 ≤ _)⟩)
    dsimp only [Pt.U, Pt.locs, Pt.cells, Pt.slots] at X397 l397 y397 z397 st397 hQ397
    subst l397 y397 z397
    obtain ⟨aS, rfl, N397q, E397, ES, FcS, hB⟩ := hQ397
    have N397 := Fr.app N393 N397q
    have e397 : T397.heap = T397.heap := rfl
    have EX397 := own_ext_trans EX379 E397
    have KP397 := Keep.ext KP379 E397
    have Fx398 := (V379.ext E397)
    obtain ⟨cq399, kq399, q399a, q399b, q399c⟩ := isOf hZ e397 (ES)
    obtain ⟨_, _, ⟨T399, L399, k399, n399⟩, -, X399, ⟨Lc399, hQ399, l399, y399, z399⟩, st399⟩ := X397.virtualBack hx (y := (⟨"com/example/cubelet/cubelet/CellStore$Step", "takes", "(I)Z"⟩ : MethodName)) (z := (⟨"com/example/cubelet/cubelet/CellStore$Step", "takes", "(I)Z"⟩ : MethodName)) hown (mvT hZ (own_q hw 29 rfl)) (mvT hZ (own_q hw 30 rfl)) (notFace_of_selects (args := #[]) (mvT hZ (own_q hw 32 rfl))) (mvT hZ (own_q hw 32 rfl)) (mvT hZ (own_q hw 31 rfl)) (by decide) (backOf (W := 0) (rm_tkS_0 l Z a0 hw [] aS qq T397.heap n0 (Nat.le_trans Z0 EX397.1) b379 k379 Fx398 FcS hB (0 : Int32) ⟨False.elim, fun _ => rfl⟩) hZ (own_q hw 33 rfl) (own_q hw 8 rfl) (by decide) (by decide)) q399a q399c (g := (mkF m 428 #[.val (.int p0), .val (.int p1), .val (.int p2), .val (.int p3), .val (.int p4), .val (.int p5), .val (.int (1 : Int32)), .val (.int sm), .val (.long lim), .second, .val (.long C0), .second, .val (.long C1), .second, .val (.long C2), .second, .val (.long C3), .second, .val (.int (0 : Int32)), .val (.ref b379), .val (.int (((p5.toUInt32 >>> ((4 : Int32) &&& 31).toUInt32).toInt32) &&& (3 : Int32))), .val (.long pk), .second, .val (.int qq), .val (.ref aS), .val (.int (0 : Int32))] [(.int qq), (.ref aS)])) rfl (by rw [hml]; rfl) (Steps.refl _) (argsL := [(.int qq)]) (rest := []) (lenOf pd_219 rfl) rfl (by show 2 * 0 + _ ≤ _; exact Nat.le_of_eq rfl) (hb hby at_428) (fun _ _ => ⟨rfl, e397, (by decide : 2 + 0 ≤ _), (by decide : 5 + 0 ≤ _)⟩)
    dsimp only [Pt.U, Pt.locs, Pt.cells, Pt.slots] at X399 l399 y399 z399 st399 hQ399
    subst l399 y399 z399
    obtain ⟨rfl, N399q, e399⟩ := hQ399
    have N399 := Fr.app N397 N399q
    obtain ⟨fs, hr, hrun, hended, hW, hsame⟩ := X399.leave (v := some (.int (1 : Int32))) (fun h => by rw [Bd.returns] at h; cases h)
    refine ⟨_, _, ck393 _ ?_, hrun, hended, _, _, rfl, ?_, ⟨_, rfl⟩, hW, hsame.mono (by decide) (by decide)⟩
    · refine XS.aload X393.here hx rfl (hb hby at_345) rfl rfl ?_
      refine st397 _ ?_
      show Steps p.tables e below (T397.setTop (mkF m 350 #[.val (.int p0), .val (.int p1), .val (.int p2), .val (.int p3), .val (.int p4), .val (.int p5), .val (.int (1 : Int32)), .val (.int sm), .val (.long lim), .second, .val (.long C0), .second, .val (.long C1), .second, .val (.long C2), .second, .val (.long C3), .second, .val (.int (0 : Int32)), .val (.ref b379), .val (.int (((p5.toUInt32 >>> ((4 : Int32) &&& 31).toUInt32).toInt32) &&& (3 : Int32))), .val (.long pk), .second, .val (.int qq), .unset, .unset] [(.ref aS)])) _
      refine XS.astore X397.here hx rfl (hb hby at_350) rfl rfl (l' := #[.val (.int p0), .val (.int p1), .val (.int p2), .val (.int p3), .val (.int p4), .val (.int p5), .val (.int (1 : Int32)), .val (.int sm), .val (.long lim), .second, .val (.long C0), .second, .val (.long C1), .second, .val (.long C2), .second, .val (.long C3), .second, .val (.int (0 : Int32)), .val (.ref b379), .val (.int (((p5.toUInt32 >>> ((4 : Int32) &&& 31).toUInt32).toInt32) &&& (3 : Int32))), .val (.long pk), .second, .val (.int qq), .val (.ref aS), .unset]) rfl ?_
      refine XS.iload X397.here hx rfl (hb hby at_352) rfl ?_
      refine XS.ifNo X397.here hx rfl (hb hby at_354) rfl ((if0 _ _).trans (flt (by decide : ¬ ((0 : Int32) < (0 : Int32)))).1) ?_
      refine XS.iload X397.here hx rfl (hb hby at_357) rfl ?_
      refine XS.iconst X397.here hx rfl (hb hby at_359) ?_
      refine XS.icmpYes X397.here hx rfl (pc0 := 360) (pc' := 372) rfl (hb hby at_360) rfl (tlt (by decide : (0 : Int32) < (1 : Int32))).1 (by decide) (by decide) ?_
      refine XS.iload X397.here hx rfl (hb hby at_372) rfl ?_
      refine XS.iconst X397.here hx rfl (hb hby at_374) ?_
      refine XS.icmpYes X397.here hx rfl (pc0 := 375) (pc' := 387) rfl (hb hby at_375) rfl (tlt (by decide : (0 : Int32) < (2 : Int32))).1 (by decide) (by decide) ?_
      refine XS.iload X397.here hx rfl (hb hby at_387) rfl ?_
      refine XS.iconst X397.here hx rfl (hb hby at_389) ?_
      refine XS.icmpYes X397.here hx rfl (pc0 := 390) (pc' := 402) rfl (hb hby at_390) rfl (tlt (by decide : (0 : Int32) < (3 : Int32))).1 (by decide) (by decide) ?_
      refine XS.iload X397.here hx rfl (hb hby at_402) rfl ?_
      refine XS.iconst X397.here hx rfl (hb hby at_404) ?_
      refine XS.icmpYes X397.here hx rfl (pc0 := 405) (pc' := 421) rfl (hb hby at_405) rfl (tlt (by decide : (0 : Int32) < (4 : Int32))).1 (by decide) (by decide) ?_
      refine XS.iconst X397.here hx rfl (hb hby at_421) ?_
      refine XS.istore X397.here hx rfl (hb hby at_422) rfl (l' := #[.val (.int p0), .val (.int p1), .val (.int p2), .val (.int p3), .val (.int p4), .val (.int p5), .val (.int (1 : Int32)), .val (.int sm), .val (.long lim), .second, .val (.long C0), .second, .val (.long C1), .second, .val (.long C2), .second, .val (.long C3), .second, .val (.int (0 : Int32)), .val (.ref b379), .val (.int (((p5.toUInt32 >>> ((4 : Int32) &&& 31).toUInt32).toInt32) &&& (3 : Int32))), .val (.long pk), .second, .val (.int qq), .val (.ref aS), .val (.int (0 : Int32))]) rfl ?_
      refine XS.aload X397.here hx rfl (hb hby at_424) rfl rfl ?_
      refine XS.iload X397.here hx rfl (hb hby at_426) rfl ?_
      refine st399.trans ?_
      show Steps p.tables e below (T399.setTop (mkF m 431 #[.val (.int p0), .val (.int p1), .val (.int p2), .val (.int p3), .val (.int p4), .val (.int p5), .val (.int (1 : Int32)), .val (.int sm), .val (.long lim), .second, .val (.long C0), .second, .val (.long C1), .second, .val (.long C2), .second, .val (.long C3), .second, .val (.int (0 : Int32)), .val (.ref b379), .val (.int (((p5.toUInt32 >>> ((4 : Int32) &&& 31).toUInt32).toInt32) &&& (3 : Int32))), .val (.long pk), .second, .val (.int qq), .val (.ref aS), .val (.int (0 : Int32))] [(.int (0 : Int32))])) _
      refine XS.iload X399.here hx rfl (hb hby at_431) rfl ?_
      refine XS.icmpNo X399.here hx rfl (hb hby at_433) rfl (teq (by decide : (0 : Int32) = (0 : Int32))).2 ?_
      refine XS.iconst X399.here hx rfl (hb hby at_436) ?_
      refine XS.goto X399.here hx rfl (pc0 := 437) (pc' := 441) rfl (hb hby at_437) (by decide) (by decide) ?_
      exact retN X399 hx (t := .boolean) Bd.returns (by simp) (hb hby at_441) hr
    · show own_Made (some (.int 1)) n0 _ T399.heap _
      rw [e399]
      exact ⟨rfl, N399, trivial⟩
  · -- flags & 7 is 2
    obtain rfl : (2 : Int32) = n7 := hn.symm.trans h_n7
    obtain ⟨_, _, ⟨T400, L400, k400, n400⟩, -, X400, ⟨Lc400, hQ400, l400, y400, z400⟩, st400⟩ := Jvm.LawKit.callS X355 hx (y := (⟨"java/lang/Math", "min", "(II)I"⟩ : MethodName)) hown (mvT hZ (own_q hw 1 rfl)) (mvT hZ (own_q hw 2 rfl)) (mvT hZ (own_q hw 3 rfl)) (mvT hZ (own_q hw 4 rfl)) (by decide) (backOf (W := 0) (rm_minI l Z a0 hw [] (1 : Int32) (4 : Int32) h0 n0 Z0 (1 : Int32) (by decide)) hZ (own_q hw 4 rfl) (own_q hw 3 rfl) (by decide) (by decide)) (g := (mkF m 122 #[.val (.int p0), .val (.int p1), .val (.int p2), .val (.int p3), .val (.int p4), .val (.int p5), .val (.int (2 : Int32)), .val (.int sm), .val (.long lim), .second, .val (.long C0), .second, .val (.long C1), .second, .val (.long C2), .second, .val (.long C3), .second, .unset, .unset, .unset, .unset, .unset, .unset, .unset, .unset] [(.int (4 : Int32)), (.int (1 : Int32))])) rfl (by rw [hml]; rfl) (argsL := [(.int (1 : Int32)), (.int (4 : Int32))]) (rest := []) (lenOf pd_220 rfl) rfl (by show 2 * 0 + _ ≤ _; exact Nat.le_of_eq rfl) (hb hby at_122) (fun _ _ => ⟨rfl, e355, (by decide : 0 + 0 ≤ _), (by decide : 0 + 0 ≤ _)⟩)
    dsimp only [Pt.U, Pt.locs, Pt.cells, Pt.slots] at X400 l400 y400 z400 st400 hQ400
    subst l400 y400 z400
    obtain ⟨rfl, N400q, e400⟩ := hQ400
    have N400 := Fr.app N355 N400q
    obtain ⟨T401, h401, k401, X401, e401, E401, A401, st401⟩ := newP X400 hx hZ (own_q hw 5 rfl) e400 (g := (mkF m 150 #[.val (.int p0), .val (.int p1), .val (.int p2), .val (.int p3), .val (.int p4), .val (.int p5), .val (.int (2 : Int32)), .val (.int sm), .val (.long lim), .second, .val (.long C0), .second, .val (.long C1), .second, .val (.long C2), .second, .val (.long C3), .second, .val (.int (1 : Int32)), .val .null, .unset, .unset, .unset, .unset, .unset, .unset] [(.int (1 : Int32))])) rfl (hb hby at_150) rfl (by decide) (cap := 1) (by decide) (by decide) (by decide) (by decide)
    obtain ⟨b401, g401⟩ : ∃ z, z = h0.size := ⟨_, rfl⟩
    rw [← g401] at A401 st401
    have sz_b401 : h0.size ≤ b401 := Nat.le_trans (Keep.refl h0 []).1 (Nat.le_of_eq g401.symm)
    have gn_b401 : n0 ≤ b401 := Nat.le_trans Z0 sz_b401
    have EX401 := own_ext_trans (own_ext_refl h0) E401
    have KP401 := Keep.ext (Keep.refl h0 []) E401
    have V401 : Arv Z h401 b401 k401 .int (1 : Int32) [(.int (0 : Int32))] (.int (0 : Int32)) := (Arv.new A401 (by decide)).pad (pad_rep [] (.int (0 : Int32)) 1)
    obtain ⟨ic0, h_ic0⟩ : ∃ zQ : Int32, (C0.toInt32) = zQ := ⟨_, rfl⟩
    have hic0 : ic0.toInt = C0.toInt := by rw [← h_ic0]; exact own_ic (by omega)
    have Vc402 := V401
    obtain ⟨cl402, Ar402, q402, S402, N402_, H402_, G402⟩ := Vc402
    have hin402 : ¬ ((0 : Int32) < 0 ∨ cl402.slots.size ≤ ((0 : Int32)).toNatClampNeg) := inb_of S402 ⟨by decide, by decide⟩
    obtain ⟨T403, h403, X403, e403, W403, st403⟩ := stI X401 hx hZ e401 Ar402 (j := (0 : Int32)) hin402 (g := (mkF m 157 #[.val (.int p0), .val (.int p1), .val (.int p2), .val (.int p3), .val (.int p4), .val (.int p5), .val (.int (2 : Int32)), .val (.int sm), .val (.long lim), .second, .val (.long C0), .second, .val (.long C1), .second, .val (.long C2), .second, .val (.long C3), .second, .val (.int (1 : Int32)), .val .null, .unset, .unset, .unset, .unset, .unset, .unset] [(.int ic0), (.int (0 : Int32)), (.ref b401), (.ref b401)])) rfl rfl (hb hby at_157)
    have EX403 := own_ext_wr EX401 W403 sz_b401
    have KP403 := Keep.wr KP401 W403 (Or.inr sz_b401)
    have V403 : Arv Z h403 b401 k401 .int (1 : Int32) [(.int ic0)] (.int (0 : Int32)) := Arv.set Ar402 q402 S402 N402_ H402_ G402 rfl W403 0 rfl (Nat.le_of_ble_eq_true rfl)
    have N403 := Fr.snoc X403 N400 gn_b401
    have ck404 : ∀ t, Steps p.tables e below (T403.setTop (mkF m 264 #[.val (.int p0), .val (.int p1), .val (.int p2), .val (.int p3), .val (.int p4), .val (.int p5), .val (.int (2 : Int32)), .val (.int sm), .val (.long lim), .second, .val (.long C0), .second, .val (.long C1), .second, .val (.long C2), .second, .val (.long C3), .second, .val (.int (1 : Int32)), .val (.ref b401), .val (.int (((p5.toUInt32 >>> ((4 : Int32) &&& 31).toUInt32).toInt32) &&& (3 : Int32))), .unset, .unset, .unset, .unset, .unset] [])) t → Steps p.tables e below (s₁.setTop (entryFrame m #[(.int p0), (.int p1), (.int p2), (.int p3), (.int p4), (.int p5)] maxLocals)) t := by
      intro t kt
      refine ck358 _ ?_
      refine XS.iload X355.here hx rfl (hb hby at_108) rfl ?_
      refine XS.ifYes X355.here hx rfl (pc0 := 110) (pc' := 117) rfl (hb hby at_110) rfl ((if0 _ _).trans (feq (by decide : ¬ ((2 : Int32) = (0 : Int32)))).2) (by decide) (by decide) ?_
      refine XS.iload X355.here hx rfl (hb hby at_117) rfl ?_
      refine XS.iconst X355.here hx rfl (hb hby at_119) ?_
      refine XS.isub X355.here hx rfl (hb hby at_120) rfl ?_
      refine XS.iconst X355.here hx rfl (hb hby at_121) ?_
      refine st400 _ ?_
      show Steps p.tables e below (T400.setTop (mkF m 125 #[.val (.int p0), .val (.int p1), .val (.int p2), .val (.int p3), .val (.int p4), .val (.int p5), .val (.int (2 : Int32)), .val (.int sm), .val (.long lim), .second, .val (.long C0), .second, .val (.long C1), .second, .val (.long C2), .second, .val (.long C3), .second, .unset, .unset, .unset, .unset, .unset, .unset, .unset, .unset] [(.int (1 : Int32))])) _
      refine XS.istore X400.here hx rfl (hb hby at_125) rfl (l' := #[.val (.int p0), .val (.int p1), .val (.int p2), .val (.int p3), .val (.int p4), .val (.int p5), .val (.int (2 : Int32)), .val (.int sm), .val (.long lim), .second, .val (.long C0), .second, .val (.long C1), .second, .val (.long C2), .second, .val (.long C3), .second, .val (.int (1 : Int32)), .unset, .unset, .unset, .unset, .unset, .unset, .unset]) rfl ?_
      refine XS.aconstNull X400.here hx rfl (hb hby at_127) ?_
      refine XS.astore X400.here hx rfl (hb hby at_128) rfl rfl (l' := #[.val (.int p0), .val (.int p1), .val (.int p2), .val (.int p3), .val (.int p4), .val (.int p5), .val (.int (2 : Int32)), .val (.int sm), .val (.long lim), .second, .val (.long C0), .second, .val (.long C1), .second, .val (.long C2), .second, .val (.long C3), .second, .val (.int (1 : Int32)), .val .null, .unset, .unset, .unset, .unset, .unset, .unset]) rfl ?_
      refine XS.iload X400.here hx rfl (hb hby at_130) rfl ?_
      refine XS.ifYes X400.here hx rfl (pc0 := 132) (pc' := 143) rfl (hb hby at_132) rfl ((if0 _ _).trans (feq (by decide : ¬ ((1 : Int32) = (0 : Int32)))).2) (by decide) (by decide) ?_
      refine XS.iload X400.here hx rfl (hb hby at_143) rfl ?_
      refine XS.iconst X400.here hx rfl (hb hby at_145) ?_
      refine XS.icmpNo X400.here hx rfl (hb hby at_146) rfl (teq (by decide : (1 : Int32) = (1 : Int32))).2 ?_
      refine XS.iconst X400.here hx rfl (hb hby at_149) ?_
      refine st401 _ ?_
      show Steps p.tables e below (T401.setTop (mkF m 152 #[.val (.int p0), .val (.int p1), .val (.int p2), .val (.int p3), .val (.int p4), .val (.int p5), .val (.int (2 : Int32)), .val (.int sm), .val (.long lim), .second, .val (.long C0), .second, .val (.long C1), .second, .val (.long C2), .second, .val (.long C3), .second, .val (.int (1 : Int32)), .val .null, .unset, .unset, .unset, .unset, .unset, .unset] [(.ref b401)])) _
      refine XS.dup X401.here hx rfl (hb hby at_152) rfl rfl ?_
      refine XS.iconst X401.here hx rfl (hb hby at_153) ?_
      refine XS.lload X401.here hx rfl (hb hby at_154) rfl ?_
      refine XS.l2i X401.here hx rfl (hb hby at_156) rfl ?_
      show Steps p.tables e below (T401.setTop (mkF m 157 #[.val (.int p0), .val (.int p1), .val (.int p2), .val (.int p3), .val (.int p4), .val (.int p5), .val (.int (2 : Int32)), .val (.int sm), .val (.long lim), .second, .val (.long C0), .second, .val (.long C1), .second, .val (.long C2), .second, .val (.long C3), .second, .val (.int (1 : Int32)), .val .null, .unset, .unset, .unset, .unset, .unset, .unset] [(.int (C0.toInt32)), (.int (0 : Int32)), (.ref b401), (.ref b401)])) _
      rw [h_ic0]
      show Steps p.tables e below (T401.setTop (mkF m 157 #[.val (.int p0), .val (.int p1), .val (.int p2), .val (.int p3), .val (.int p4), .val (.int p5), .val (.int (2 : Int32)), .val (.int sm), .val (.long lim), .second, .val (.long C0), .second, .val (.long C1), .second, .val (.long C2), .second, .val (.long C3), .second, .val (.int (1 : Int32)), .val .null, .unset, .unset, .unset, .unset, .unset, .unset] [(.int ic0), (.int (0 : Int32)), (.ref b401), (.ref b401)])) _
      refine st403 _ ?_
      show Steps p.tables e below (T403.setTop (mkF m 158 #[.val (.int p0), .val (.int p1), .val (.int p2), .val (.int p3), .val (.int p4), .val (.int p5), .val (.int (2 : Int32)), .val (.int sm), .val (.long lim), .second, .val (.long C0), .second, .val (.long C1), .second, .val (.long C2), .second, .val (.long C3), .second, .val (.int (1 : Int32)), .val .null, .unset, .unset, .unset, .unset, .unset, .unset] [(.ref b401)])) _
      refine XS.astore X403.here hx rfl (hb hby at_158) rfl rfl (l' := #[.val (.int p0), .val (.int p1), .val (.int p2), .val (.int p3), .val (.int p4), .val (.int p5), .val (.int (2 : Int32)), .val (.int sm), .val (.long lim), .second, .val (.long C0), .second, .val (.long C1), .second, .val (.long C2), .second, .val (.long C3), .second, .val (.int (1 : Int32)), .val (.ref b401), .unset, .unset, .unset, .unset, .unset, .unset]) rfl ?_
      refine XS.goto X403.here hx rfl (pc0 := 160) (pc' := 256) rfl (hb hby at_160) (by decide) (by decide) ?_
      refine XS.iload X403.here hx rfl (hb hby at_256) rfl ?_
      refine XS.iconst X403.here hx rfl (hb hby at_258) ?_
      refine XS.iushr X403.here hx rfl (hb hby at_259) rfl ?_
      refine XS.iconst X403.here hx rfl (hb hby at_260) ?_
      refine XS.iand X403.here hx rfl (hb hby at_261) rfl ?_
      refine XS.istore X403.here hx rfl (hb hby at_262) rfl (l' := #[.val (.int p0), .val (.int p1), .val (.int p2), .val (.int p3), .val (.int p4), .val (.int p5), .val (.int (2 : Int32)), .val (.int sm), .val (.long lim), .second, .val (.long C0), .second, .val (.long C1), .second, .val (.long C2), .second, .val (.long C3), .second, .val (.int (1 : Int32)), .val (.ref b401), .val (.int (((p5.toUInt32 >>> ((4 : Int32) &&& 31).toUInt32).toInt32) &&& (3 : Int32))), .unset, .unset, .unset, .unset, .unset]) rfl ?_
      exact kt
    (try clear st403); (try clear W403); (try clear hin402); (try clear G402); (try clear H402_); (try clear N402_); (try clear S402); (try clear q402); (try clear Ar402); (try clear cl402); (try clear V401); (try clear KP401); (try clear EX401); (try clear st401); (try clear A401); (try clear E401); (try clear e401); (try clear X401); (try clear h401); (try clear T401); (try clear N400); (try clear e400); (try clear N400q); (try clear st400); (try clear Lc400); (try clear X400); (try clear n400); (try clear k400); (try clear L400); (try clear T400)
    obtain ⟨T409, L409, pk, X409, e409, N409, hj409_0, ck409⟩ : ∃ (TJ : State) (LJ : List Loc) (pk : Int64), Stand p l e room_1 s m #[(.int p0), (.int p1), (.int p2), (.int p3), (.int p4), (.int p5)] below meth c TJ LJ 1 1 ∧ TJ.heap = h403 ∧ Fr n0 LJ ∧ (0 ≤ pk.toInt ∧ pk.toInt ≤ lim.toInt) ∧ (∀ t, Steps p.tables e below (TJ.setTop (mkF m 298 #[.val (.int p0), .val (.int p1), .val (.int p2), .val (.int p3), .val (.int p4), .val (.int p5), .val (.int (2 : Int32)), .val (.int sm), .val (.long lim), .second, .val (.long C0), .second, .val (.long C1), .second, .val (.long C2), .second, .val (.long C3), .second, .val (.int (1 : Int32)), .val (.ref b401), .val (.int (((p5.toUInt32 >>> ((4 : Int32) &&& 31).toUInt32).toInt32) &&& (3 : Int32))), .unset, .unset, .unset, .unset, .unset] [(.long pk)])) t → Steps p.tables e below (s₁.setTop (entryFrame m #[(.int p0), (.int p1), (.int p2), (.int p3), (.int p4), (.int p5)] maxLocals)) t) := by
      by_cases hc266_410 : (((p5.toUInt32 >>> ((4 : Int32) &&& 31).toUInt32).toInt32) &&& (3 : Int32)) = (0 : Int32)
      · -- pc 266: yes
        refine ⟨T403, _, C0, X403, e403, N403, hC0, fun t kt => ?_⟩
        refine ck404 _ ?_
        refine XS.iload X403.here hx rfl (hb hby at_264) rfl ?_
        refine XS.ifNo X403.here hx rfl (hb hby at_266) rfl ((if0 _ _).trans (teq hc266_410).2) ?_
        refine XS.lload X403.here hx rfl (hb hby at_269) rfl ?_
        refine XS.goto X403.here hx rfl (pc0 := 271) (pc' := 298) rfl (hb hby at_271) (by decide) (by decide) ?_
        exact kt
      · -- pc 266: no
        have ck412 : ∀ t, Steps p.tables e below (T403.setTop (mkF m 277 #[.val (.int p0), .val (.int p1), .val (.int p2), .val (.int p3), .val (.int p4), .val (.int p5), .val (.int (2 : Int32)), .val (.int sm), .val (.long lim), .second, .val (.long C0), .second, .val (.long C1), .second, .val (.long C2), .second, .val (.long C3), .second, .val (.int (1 : Int32)), .val (.ref b401), .val (.int (((p5.toUInt32 >>> ((4 : Int32) &&& 31).toUInt32).toInt32) &&& (3 : Int32))), .unset, .unset, .unset, .unset, .unset] [(.int (1 : Int32)), (.int (((p5.toUInt32 >>> ((4 : Int32) &&& 31).toUInt32).toInt32) &&& (3 : Int32)))])) t → Steps p.tables e below (s₁.setTop (entryFrame m #[(.int p0), (.int p1), (.int p2), (.int p3), (.int p4), (.int p5)] maxLocals)) t := by
          intro t kt
          refine ck404 _ ?_
          refine XS.iload X403.here hx rfl (hb hby at_264) rfl ?_
          refine XS.ifYes X403.here hx rfl (pc0 := 266) (pc' := 274) rfl (hb hby at_266) rfl ((if0 _ _).trans (feq hc266_410).2) (by decide) (by decide) ?_
          refine XS.iload X403.here hx rfl (hb hby at_274) rfl ?_
          refine XS.iconst X403.here hx rfl (hb hby at_276) ?_
          exact kt
        by_cases hc277_411 : (((p5.toUInt32 >>> ((4 : Int32) &&& 31).toUInt32).toInt32) &&& (3 : Int32)) = (1 : Int32)
        · -- pc 277: yes
          refine ⟨T403, _, C1, X403, e403, N403, hC1, fun t kt => ?_⟩
          refine ck412 _ ?_
          refine XS.icmpNo X403.here hx rfl (hb hby at_277) rfl (teq hc277_411).2 ?_
          refine XS.lload X403.here hx rfl (hb hby at_280) rfl ?_
          refine XS.goto X403.here hx rfl (pc0 := 282) (pc' := 298) rfl (hb hby at_282) (by decide) (by decide) ?_
          exact kt
        · -- pc 277: no
          by_cases hc288_413 : (((p5.toUInt32 >>> ((4 : Int32) &&& 31).toUInt32).toInt32) &&& (3 : Int32)) = (2 : Int32)
          · -- pc 288: yes
            refine ⟨T403, _, C2, X403, e403, N403, hC2, fun t kt => ?_⟩
            refine ck412 _ ?_
            refine XS.icmpYes X403.here hx rfl (pc0 := 277) (pc' := 285) rfl (hb hby at_277) rfl (feq hc277_411).2 (by decide) (by decide) ?_
            refine XS.iload X403.here hx rfl (hb hby at_285) rfl ?_
            refine XS.iconst X403.here hx rfl (hb hby at_287) ?_
            refine XS.icmpNo X403.here hx rfl (hb hby at_288) rfl (teq hc288_413).2 ?_
            refine XS.lload X403.here hx rfl (hb hby at_291) rfl ?_
            refine XS.goto X403.here hx rfl (pc0 := 293) (pc' := 298) rfl (hb hby at_293) (by decide) (by decide) ?_
            exact kt
          · -- pc 288: no
            refine ⟨T403, _, C3, X403, e403, N403, hC3, fun t kt => ?_⟩
            refine ck412 _ ?_
            refine XS.icmpYes X403.here hx rfl (pc0 := 277) (pc' := 285) rfl (hb hby at_277) rfl (feq hc277_411).2 (by decide) (by decide) ?_
            refine XS.iload X403.here hx rfl (hb hby at_285) rfl ?_
            refine XS.iconst X403.here hx rfl (hb hby at_287) ?_
            refine XS.icmpYes X403.here hx rfl (pc0 := 288) (pc' := 296) rfl (hb hby at_288) rfl (feq hc288_413).2 (by decide) (by decide) ?_
            refine XS.lload X403.here hx rfl (hb hby at_296) rfl ?_
            exact kt
    have hpk := hj409_0
    obtain ⟨T417, L417, qq, X417, e417, N417, hj417_0, ck417⟩ : ∃ (TJ : State) (LJ : List Loc) (qq : Int32), Stand p l e room_1 s m #[(.int p0), (.int p1), (.int p2), (.int p3), (.int p4), (.int p5)] below meth c TJ LJ 1 1 ∧ TJ.heap = h403 ∧ Fr n0 LJ ∧ (0 ≤ qq.toInt) ∧ (∀ t, Steps p.tables e below (TJ.setTop (mkF m 345 #[.val (.int p0), .val (.int p1), .val (.int p2), .val (.int p3), .val (.int p4), .val (.int p5), .val (.int (2 : Int32)), .val (.int sm), .val (.long lim), .second, .val (.long C0), .second, .val (.long C1), .second, .val (.long C2), .second, .val (.long C3), .second, .val (.int (1 : Int32)), .val (.ref b401), .val (.int (((p5.toUInt32 >>> ((4 : Int32) &&& 31).toUInt32).toInt32) &&& (3 : Int32))), .val (.long pk), .second, .val (.int qq), .unset, .unset] [])) t → Steps p.tables e below (s₁.setTop (entryFrame m #[(.int p0), (.int p1), (.int p2), (.int p3), (.int p4), (.int p5)] maxLocals)) t) := by
      have ck419 : ∀ t, Steps p.tables e below (T409.setTop (mkF m 305 #[.val (.int p0), .val (.int p1), .val (.int p2), .val (.int p3), .val (.int p4), .val (.int p5), .val (.int (2 : Int32)), .val (.int sm), .val (.long lim), .second, .val (.long C0), .second, .val (.long C1), .second, .val (.long C2), .second, .val (.long C3), .second, .val (.int (1 : Int32)), .val (.ref b401), .val (.int (((p5.toUInt32 >>> ((4 : Int32) &&& 31).toUInt32).toInt32) &&& (3 : Int32))), .val (.long pk), .second, .unset, .unset, .unset] [(.int (p5 &&& (64 : Int32)))])) t → Steps p.tables e below (s₁.setTop (entryFrame m #[(.int p0), (.int p1), (.int p2), (.int p3), (.int p4), (.int p5)] maxLocals)) t := by
        intro t kt
        refine ck409 _ ?_
        refine XS.lstore X409.here hx rfl (hb hby at_298) rfl (l' := #[.val (.int p0), .val (.int p1), .val (.int p2), .val (.int p3), .val (.int p4), .val (.int p5), .val (.int (2 : Int32)), .val (.int sm), .val (.long lim), .second, .val (.long C0), .second, .val (.long C1), .second, .val (.long C2), .second, .val (.long C3), .second, .val (.int (1 : Int32)), .val (.ref b401), .val (.int (((p5.toUInt32 >>> ((4 : Int32) &&& 31).toUInt32).toInt32) &&& (3 : Int32))), .val (.long pk), .second, .unset, .unset, .unset]) rfl ?_
        refine XS.iload X409.here hx rfl (hb hby at_300) rfl ?_
        refine XS.bipush X409.here hx rfl (hb hby at_302) ?_
        refine XS.iand X409.here hx rfl (hb hby at_304) rfl ?_
        exact kt
      by_cases hc305_418 : (p5 &&& (64 : Int32)) = (0 : Int32)
      · -- pc 305: yes
        refine ⟨T409, _, ((((p4.toInt64) &&& (2147483647 : Int64)) % (lim + (1 : Int64))).toInt32), X409, e409, N409, (own_q2 hlim), fun t kt => ?_⟩
        refine ck419 _ ?_
        refine XS.ifYes X409.here hx rfl (pc0 := 305) (pc' := 330) rfl (hb hby at_305) rfl ((if0 _ _).trans (teq hc305_418).1) (by decide) (by decide) ?_
        refine XS.iload X409.here hx rfl (hb hby at_330) rfl ?_
        refine XS.i2l X409.here hx rfl (hb hby at_332) rfl ?_
        refine X409.ldc2Long hx hown (mvT hZ (own_q hw 0 rfl)) (g := (mkF m 333 #[.val (.int p0), .val (.int p1), .val (.int p2), .val (.int p3), .val (.int p4), .val (.int p5), .val (.int (2 : Int32)), .val (.int sm), .val (.long lim), .second, .val (.long C0), .second, .val (.long C1), .second, .val (.long C2), .second, .val (.long C3), .second, .val (.int (1 : Int32)), .val (.ref b401), .val (.int (((p5.toUInt32 >>> ((4 : Int32) &&& 31).toUInt32).toInt32) &&& (3 : Int32))), .val (.long pk), .second, .unset, .unset, .unset] [(.long (p4.toInt64))])) rfl (hb hby at_333) _ ?_
        show Steps p.tables e below (T409.setTop (mkF m 336 #[.val (.int p0), .val (.int p1), .val (.int p2), .val (.int p3), .val (.int p4), .val (.int p5), .val (.int (2 : Int32)), .val (.int sm), .val (.long lim), .second, .val (.long C0), .second, .val (.long C1), .second, .val (.long C2), .second, .val (.long C3), .second, .val (.int (1 : Int32)), .val (.ref b401), .val (.int (((p5.toUInt32 >>> ((4 : Int32) &&& 31).toUInt32).toInt32) &&& (3 : Int32))), .val (.long pk), .second, .unset, .unset, .unset] [(.long (2147483647 : Int64)), (.long (p4.toInt64))])) _
        refine XS.land X409.here hx rfl (hb hby at_336) rfl ?_
        refine XS.lload X409.here hx rfl (hb hby at_337) rfl ?_
        refine XS.lconst X409.here hx rfl (hb hby at_339) ?_
        refine XS.ladd X409.here hx rfl (hb hby at_340) rfl ?_
        refine XS.lrem X409.here hx rfl (hb hby at_341) rfl (own_nz (own_l1 hlim).1) ?_
        show Steps p.tables e below (T409.setTop (mkF m 342 #[.val (.int p0), .val (.int p1), .val (.int p2), .val (.int p3), .val (.int p4), .val (.int p5), .val (.int (2 : Int32)), .val (.int sm), .val (.long lim), .second, .val (.long C0), .second, .val (.long C1), .second, .val (.long C2), .second, .val (.long C3), .second, .val (.int (1 : Int32)), .val (.ref b401), .val (.int (((p5.toUInt32 >>> ((4 : Int32) &&& 31).toUInt32).toInt32) &&& (3 : Int32))), .val (.long pk), .second, .unset, .unset, .unset] [(.long (((p4.toInt64) &&& (2147483647 : Int64)) - (((p4.toInt64) &&& (2147483647 : Int64)) / (lim + (1 : Int64))) * (lim + (1 : Int64))))])) _
        rw [lrem_mod]
        show Steps p.tables e below (T409.setTop (mkF m 342 #[.val (.int p0), .val (.int p1), .val (.int p2), .val (.int p3), .val (.int p4), .val (.int p5), .val (.int (2 : Int32)), .val (.int sm), .val (.long lim), .second, .val (.long C0), .second, .val (.long C1), .second, .val (.long C2), .second, .val (.long C3), .second, .val (.int (1 : Int32)), .val (.ref b401), .val (.int (((p5.toUInt32 >>> ((4 : Int32) &&& 31).toUInt32).toInt32) &&& (3 : Int32))), .val (.long pk), .second, .unset, .unset, .unset] [(.long (((p4.toInt64) &&& (2147483647 : Int64)) % (lim + (1 : Int64))))])) _
        refine XS.l2i X409.here hx rfl (hb hby at_342) rfl ?_
        refine XS.istore X409.here hx rfl (hb hby at_343) rfl (l' := #[.val (.int p0), .val (.int p1), .val (.int p2), .val (.int p3), .val (.int p4), .val (.int p5), .val (.int (2 : Int32)), .val (.int sm), .val (.long lim), .second, .val (.long C0), .second, .val (.long C1), .second, .val (.long C2), .second, .val (.long C3), .second, .val (.int (1 : Int32)), .val (.ref b401), .val (.int (((p5.toUInt32 >>> ((4 : Int32) &&& 31).toUInt32).toInt32) &&& (3 : Int32))), .val (.long pk), .second, .val (.int ((((p4.toInt64) &&& (2147483647 : Int64)) % (lim + (1 : Int64))).toInt32)), .unset, .unset]) rfl ?_
        exact kt
      · -- pc 305: no
        obtain ⟨_, _, ⟨T420, L420, k420, n420⟩, -, X420, ⟨Lc420, hQ420, l420, y420, z420⟩, st420⟩ := Jvm.LawKit.callS X409 hx (y := (⟨"java/lang/Math", "min", "(JJ)J"⟩ : MethodName)) hown (mvT hZ (own_q hw 35 rfl)) (mvT hZ (own_q hw 36 rfl)) (mvT hZ (own_q hw 3 rfl)) (mvT hZ (own_q hw 37 rfl)) (by decide) (backOf (W := 0) (rm_minJ l Z a0 hw [] lim (pk + ((((p5.toUInt32 >>> ((7 : Int32) &&& 31).toUInt32).toInt32) &&& (1 : Int32)).toInt64)) h403 n0 (Nat.le_trans Z0 EX403.1) (if (0 : Int32) < (lcmpW lim (pk + ((((p5.toUInt32 >>> ((7 : Int32) &&& 31).toUInt32).toInt32) &&& (1 : Int32)).toInt64))) then (pk + ((((p5.toUInt32 >>> ((7 : Int32) &&& 31).toUInt32).toInt32) &&& (1 : Int32)).toInt64)) else lim) rfl) hZ (own_q hw 37 rfl) (own_q hw 3 rfl) (by decide) (by decide)) (g := (mkF m 321 #[.val (.int p0), .val (.int p1), .val (.int p2), .val (.int p3), .val (.int p4), .val (.int p5), .val (.int (2 : Int32)), .val (.int sm), .val (.long lim), .second, .val (.long C0), .second, .val (.long C1), .second, .val (.long C2), .second, .val (.long C3), .second, .val (.int (1 : Int32)), .val (.ref b401), .val (.int (((p5.toUInt32 >>> ((4 : Int32) &&& 31).toUInt32).toInt32) &&& (3 : Int32))), .val (.long pk), .second, .unset, .unset, .unset] [(.long (pk + ((((p5.toUInt32 >>> ((7 : Int32) &&& 31).toUInt32).toInt32) &&& (1 : Int32)).toInt64))), (.long lim)])) rfl (by rw [hml]; rfl) (argsL := [(.long lim), (.long (pk + ((((p5.toUInt32 >>> ((7 : Int32) &&& 31).toUInt32).toInt32) &&& (1 : Int32)).toInt64)))]) (rest := []) (lenOf pd_217 rfl) rfl (by show 2 * 0 + _ ≤ _; exact Nat.le_of_eq rfl) (hb hby at_321) (fun _ _ => ⟨rfl, e409, (by decide : 1 + 0 ≤ _), (by decide : 1 + 0 ≤ _)⟩)
        dsimp only [Pt.U, Pt.locs, Pt.cells, Pt.slots] at X420 l420 y420 z420 st420 hQ420
        subst l420 y420 z420
        obtain ⟨rfl, N420q, e420⟩ := hQ420
        have N420 := Fr.app N409 N420q
        refine ⟨T420, _, ((if (0 : Int32) < (lcmpW lim (pk + ((((p5.toUInt32 >>> ((7 : Int32) &&& 31).toUInt32).toInt32) &&& (1 : Int32)).toInt64))) then (pk + ((((p5.toUInt32 >>> ((7 : Int32) &&& 31).toUInt32).toInt32) &&& (1 : Int32)).toInt64)) else lim).toInt32), X420, e420, N420, (own_q1 hlim hpk), fun t kt => ?_⟩
        refine ck419 _ ?_
        refine XS.ifNo X409.here hx rfl (hb hby at_305) rfl ((if0 _ _).trans (feq hc305_418).1) ?_
        refine XS.lload X409.here hx rfl (hb hby at_308) rfl ?_
        refine XS.lload X409.here hx rfl (hb hby at_310) rfl ?_
        refine XS.iload X409.here hx rfl (hb hby at_312) rfl ?_
        refine XS.bipush X409.here hx rfl (hb hby at_314) ?_
        refine XS.iushr X409.here hx rfl (hb hby at_316) rfl ?_
        refine XS.iconst X409.here hx rfl (hb hby at_317) ?_
        refine XS.iand X409.here hx rfl (hb hby at_318) rfl ?_
        refine XS.i2l X409.here hx rfl (hb hby at_319) rfl ?_
        refine XS.ladd X409.here hx rfl (hb hby at_320) rfl ?_
        refine st420 _ ?_
        show Steps p.tables e below (T420.setTop (mkF m 324 #[.val (.int p0), .val (.int p1), .val (.int p2), .val (.int p3), .val (.int p4), .val (.int p5), .val (.int (2 : Int32)), .val (.int sm), .val (.long lim), .second, .val (.long C0), .second, .val (.long C1), .second, .val (.long C2), .second, .val (.long C3), .second, .val (.int (1 : Int32)), .val (.ref b401), .val (.int (((p5.toUInt32 >>> ((4 : Int32) &&& 31).toUInt32).toInt32) &&& (3 : Int32))), .val (.long pk), .second, .unset, .unset, .unset] [(.long (if (0 : Int32) < (lcmpW lim (pk + ((((p5.toUInt32 >>> ((7 : Int32) &&& 31).toUInt32).toInt32) &&& (1 : Int32)).toInt64))) then (pk + ((((p5.toUInt32 >>> ((7 : Int32) &&& 31).toUInt32).toInt32) &&& (1 : Int32)).toInt64)) else lim))])) _
        refine XS.l2i X420.here hx rfl (hb hby at_324) rfl ?_
        refine XS.istore X420.here hx rfl (hb hby at_325) rfl (l' := #[.val (.int p0), .val (.int p1), .val (.int p2), .val (.int p3), .val (.int p4), .val (.int p5), .val (.int (2 : Int32)), .val (.int sm), .val (.long lim), .second, .val (.long C0), .second, .val (.long C1), .second, .val (.long C2), .second, .val (.long C3), .second, .val (.int (1 : Int32)), .val (.ref b401), .val (.int (((p5.toUInt32 >>> ((4 : Int32) &&& 31).toUInt32).toInt32) &&& (3 : Int32))), .val (.long pk), .second, .val (.int ((if (0 : Int32) < (lcmpW lim (pk + ((((p5.toUInt32 >>> ((7 : Int32) &&& 31).toUInt32).toInt32) &&& (1 : Int32)).toInt64))) then (pk + ((((p5.toUInt32 >>> ((7 : Int32) &&& 31).toUInt32).toInt32) &&& (1 : Int32)).toInt64)) else lim).toInt32)), .unset, .unset]) rfl ?_
        refine XS.goto X420.here hx rfl (pc0 := 327) (pc' := 345) rfl (hb hby at_327) (by decide) (by decide) ?_
        exact kt
    have hqq := hj417_0
    have hqL := c_i2l qq
    obtain ⟨_, _, ⟨T421, L421, k421, n421⟩, -, X421, ⟨Lc421, hQ421, l421, y421, z421⟩, st421⟩ := Jvm.LawKit.callS X417 hx (y := (⟨"com/example/cubelet/cubelet/CellStore$Step", "together", "([I)Lcom/example/cubelet/cubelet/CellStore$Step;"⟩ : MethodName)) hown (mvT hZ (own_q hw 6 rfl)) (mvT hZ (own_q hw 7 rfl)) (mvT hZ (own_q hw 8 rfl)) (mvT hZ (own_q hw 9 rfl)) (by decide) (backOf (W := 0) (rm_tog_1 l Z a0 hw [] b401 h403 n0 (Nat.le_trans Z0 EX403.1) k401 ic0 V403 (by omega)) hZ (own_q hw 9 rfl) (own_q hw 8 rfl) (by decide) (by decide)) (g := (mkF m 347 #[.val (.int p0), .val (.int p1), .val (.int p2), .val (.int p3), .val (.int p4), .val (.int p5), .val (.int (2 : Int32)), .val (.int sm), .val (.long lim), .second, .val (.long C0), .second, .val (.long C1), .second, .val (.long C2), .second, .val (.long C3), .second, .val (.int (1 : Int32)), .val (.ref b401), .val (.int (((p5.toUInt32 >>> ((4 : Int32) &&& 31).toUInt32).toInt32) &&& (3 : Int32))), .val (.long pk), .second, .val (.int qq), .unset, .unset] [(.ref b401)])) rfl (by rw [hml]; rfl) (argsL := [(.ref b401)]) (rest := []) (lenOf pd_218 rfl) rfl (by show 2 * 0 + _ ≤ _; exact Nat.le_of_eq rfl) (hb hby at_347) (fun _ _ => ⟨rfl, e417, (by decide : 1 + 1 ≤ _), (by decide : 1 + 5 ≤ _)⟩)
    dsimp only [Pt.U, Pt.locs, Pt.cells, Pt.slots] at X421 l421 y421 z421 st421 hQ421
    subst l421 y421 z421
    obtain ⟨aS, rfl, N421q, E421, ES, FcS, hB⟩ := hQ421
    have N421 := Fr.app N417 N421q
    have e421 : T421.heap = T421.heap := rfl
    have EX421 := own_ext_trans EX403 E421
    have KP421 := Keep.ext KP403 E421
    have Fx422 := (V403.ext E421)
    have ck424 : ∀ t, Steps p.tables e below (T421.setTop (mkF m 369 #[.val (.int p0), .val (.int p1), .val (.int p2), .val (.int p3), .val (.int p4), .val (.int p5), .val (.int (2 : Int32)), .val (.int sm), .val (.long lim), .second, .val (.long C0), .second, .val (.long C1), .second, .val (.long C2), .second, .val (.long C3), .second, .val (.int (1 : Int32)), .val (.ref b401), .val (.int (((p5.toUInt32 >>> ((4 : Int32) &&& 31).toUInt32).toInt32) &&& (3 : Int32))), .val (.long pk), .second, .val (.int qq), .val (.ref aS), .unset] [(.int (lcmpW (qq.toInt64) C0))])) t → Steps p.tables e below (s₁.setTop (entryFrame m #[(.int p0), (.int p1), (.int p2), (.int p3), (.int p4), (.int p5)] maxLocals)) t := by
      intro t kt
      refine ck417 _ ?_
      refine XS.aload X417.here hx rfl (hb hby at_345) rfl rfl ?_
      refine st421 _ ?_
      show Steps p.tables e below (T421.setTop (mkF m 350 #[.val (.int p0), .val (.int p1), .val (.int p2), .val (.int p3), .val (.int p4), .val (.int p5), .val (.int (2 : Int32)), .val (.int sm), .val (.long lim), .second, .val (.long C0), .second, .val (.long C1), .second, .val (.long C2), .second, .val (.long C3), .second, .val (.int (1 : Int32)), .val (.ref b401), .val (.int (((p5.toUInt32 >>> ((4 : Int32) &&& 31).toUInt32).toInt32) &&& (3 : Int32))), .val (.long pk), .second, .val (.int qq), .unset, .unset] [(.ref aS)])) _
      refine XS.astore X421.here hx rfl (hb hby at_350) rfl rfl (l' := #[.val (.int p0), .val (.int p1), .val (.int p2), .val (.int p3), .val (.int p4), .val (.int p5), .val (.int (2 : Int32)), .val (.int sm), .val (.long lim), .second, .val (.long C0), .second, .val (.long C1), .second, .val (.long C2), .second, .val (.long C3), .second, .val (.int (1 : Int32)), .val (.ref b401), .val (.int (((p5.toUInt32 >>> ((4 : Int32) &&& 31).toUInt32).toInt32) &&& (3 : Int32))), .val (.long pk), .second, .val (.int qq), .val (.ref aS), .unset]) rfl ?_
      refine XS.iload X421.here hx rfl (hb hby at_352) rfl ?_
      refine XS.ifNo X421.here hx rfl (hb hby at_354) rfl ((if0 _ _).trans (flt (by decide : ¬ ((1 : Int32) < (0 : Int32)))).1) ?_
      refine XS.iload X421.here hx rfl (hb hby at_357) rfl ?_
      refine XS.iconst X421.here hx rfl (hb hby at_359) ?_
      refine XS.icmpNo X421.here hx rfl (hb hby at_360) rfl (flt (by decide : ¬ ((1 : Int32) < (1 : Int32)))).1 ?_
      refine XS.iload X421.here hx rfl (hb hby at_363) rfl ?_
      refine XS.i2l X421.here hx rfl (hb hby at_365) rfl ?_
      refine XS.lload X421.here hx rfl (hb hby at_366) rfl ?_
      refine XS.lcmp X421.here hx rfl (hb hby at_368) rfl ?_
      exact kt
    (try clear E421); (try clear N421q); (try clear st421); (try clear Lc421); (try clear n421); (try clear k421); (try clear L421)
    by_cases hc369_423 : (lcmpW (qq.toInt64) C0) = (0 : Int32)
    · -- pc 369: yes
      have d_hc369_423 := own_eq_lc hc369_423
      obtain ⟨cq425, kq425, q425a, q425b, q425c⟩ := isOf hZ e421 (ES)
      obtain ⟨_, _, ⟨T425, L425, k425, n425⟩, -, X425, ⟨Lc425, hQ425, l425, y425, z425⟩, st425⟩ := X421.virtualBack hx (y := (⟨"com/example/cubelet/cubelet/CellStore$Step", "takes", "(I)Z"⟩ : MethodName)) (z := (⟨"com/example/cubelet/cubelet/CellStore$Step", "takes", "(I)Z"⟩ : MethodName)) hown (mvT hZ (own_q hw 29 rfl)) (mvT hZ (own_q hw 30 rfl)) (notFace_of_selects (args := #[]) (mvT hZ (own_q hw 32 rfl))) (mvT hZ (own_q hw 32 rfl)) (mvT hZ (own_q hw 31 rfl)) (by decide) (backOf (W := 0) (rm_tkS_1 l Z a0 hw [] aS qq T421.heap n0 (Nat.le_trans Z0 EX421.1) b401 k401 ic0 Fx422 (by omega) FcS hB (1 : Int32) ⟨fun _ => rfl, fun z => absurd (by omega) z⟩) hZ (own_q hw 33 rfl) (own_q hw 8 rfl) (by decide) (by decide)) q425a q425c (g := (mkF m 428 #[.val (.int p0), .val (.int p1), .val (.int p2), .val (.int p3), .val (.int p4), .val (.int p5), .val (.int (2 : Int32)), .val (.int sm), .val (.long lim), .second, .val (.long C0), .second, .val (.long C1), .second, .val (.long C2), .second, .val (.long C3), .second, .val (.int (1 : Int32)), .val (.ref b401), .val (.int (((p5.toUInt32 >>> ((4 : Int32) &&& 31).toUInt32).toInt32) &&& (3 : Int32))), .val (.long pk), .second, .val (.int qq), .val (.ref aS), .val (.int (1 : Int32))] [(.int qq), (.ref aS)])) rfl (by rw [hml]; rfl) (Steps.refl _) (argsL := [(.int qq)]) (rest := []) (lenOf pd_219 rfl) rfl (by show 2 * 0 + _ ≤ _; exact Nat.le_of_eq rfl) (hb hby at_428) (fun _ _ => ⟨rfl, e421, (by decide : 2 + 0 ≤ _), (by decide : 6 + 0 ≤ _)⟩)
      dsimp only [Pt.U, Pt.locs, Pt.cells, Pt.slots] at X425 l425 y425 z425 st425 hQ425
      subst l425 y425 z425
      obtain ⟨rfl, N425q, e425⟩ := hQ425
      have N425 := Fr.app N421 N425q
      obtain ⟨fs, hr, hrun, hended, hW, hsame⟩ := X425.leave (v := some (.int (1 : Int32))) (fun h => by rw [Bd.returns] at h; cases h)
      refine ⟨_, _, ck424 _ ?_, hrun, hended, _, _, rfl, ?_, ⟨_, rfl⟩, hW, hsame.mono (by decide) (by decide)⟩
      · refine XS.ifYes X421.here hx rfl (pc0 := 369) (pc' := 417) rfl (hb hby at_369) rfl ((if0 _ _).trans (teq hc369_423).1) (by decide) (by decide) ?_
        refine XS.iconst X421.here hx rfl (hb hby at_417) ?_
        refine XS.goto X421.here hx rfl (pc0 := 418) (pc' := 422) rfl (hb hby at_418) (by decide) (by decide) ?_
        refine XS.istore X421.here hx rfl (hb hby at_422) rfl (l' := #[.val (.int p0), .val (.int p1), .val (.int p2), .val (.int p3), .val (.int p4), .val (.int p5), .val (.int (2 : Int32)), .val (.int sm), .val (.long lim), .second, .val (.long C0), .second, .val (.long C1), .second, .val (.long C2), .second, .val (.long C3), .second, .val (.int (1 : Int32)), .val (.ref b401), .val (.int (((p5.toUInt32 >>> ((4 : Int32) &&& 31).toUInt32).toInt32) &&& (3 : Int32))), .val (.long pk), .second, .val (.int qq), .val (.ref aS), .val (.int (1 : Int32))]) rfl ?_
        refine XS.aload X421.here hx rfl (hb hby at_424) rfl rfl ?_
        refine XS.iload X421.here hx rfl (hb hby at_426) rfl ?_
        refine st425.trans ?_
        show Steps p.tables e below (T425.setTop (mkF m 431 #[.val (.int p0), .val (.int p1), .val (.int p2), .val (.int p3), .val (.int p4), .val (.int p5), .val (.int (2 : Int32)), .val (.int sm), .val (.long lim), .second, .val (.long C0), .second, .val (.long C1), .second, .val (.long C2), .second, .val (.long C3), .second, .val (.int (1 : Int32)), .val (.ref b401), .val (.int (((p5.toUInt32 >>> ((4 : Int32) &&& 31).toUInt32).toInt32) &&& (3 : Int32))), .val (.long pk), .second, .val (.int qq), .val (.ref aS), .val (.int (1 : Int32))] [(.int (1 : Int32))])) _
        refine XS.iload X425.here hx rfl (hb hby at_431) rfl ?_
        refine XS.icmpNo X425.here hx rfl (hb hby at_433) rfl (teq (by decide : (1 : Int32) = (1 : Int32))).2 ?_
        refine XS.iconst X425.here hx rfl (hb hby at_436) ?_
        refine XS.goto X425.here hx rfl (pc0 := 437) (pc' := 441) rfl (hb hby at_437) (by decide) (by decide) ?_
        exact retN X425 hx (t := .boolean) Bd.returns (by simp) (hb hby at_441) hr
      · show own_Made (some (.int 1)) n0 _ T425.heap _
        rw [e425]
        exact ⟨rfl, N425, trivial⟩
    · -- pc 369: no
      have d_hc369_423 := own_ne_lc hc369_423
      obtain ⟨cq426, kq426, q426a, q426b, q426c⟩ := isOf hZ e421 (ES)
      obtain ⟨_, _, ⟨T426, L426, k426, n426⟩, -, X426, ⟨Lc426, hQ426, l426, y426, z426⟩, st426⟩ := X421.virtualBack hx (y := (⟨"com/example/cubelet/cubelet/CellStore$Step", "takes", "(I)Z"⟩ : MethodName)) (z := (⟨"com/example/cubelet/cubelet/CellStore$Step", "takes", "(I)Z"⟩ : MethodName)) hown (mvT hZ (own_q hw 29 rfl)) (mvT hZ (own_q hw 30 rfl)) (notFace_of_selects (args := #[]) (mvT hZ (own_q hw 32 rfl))) (mvT hZ (own_q hw 32 rfl)) (mvT hZ (own_q hw 31 rfl)) (by decide) (backOf (W := 0) (rm_tkS_1 l Z a0 hw [] aS qq T421.heap n0 (Nat.le_trans Z0 EX421.1) b401 k401 ic0 Fx422 (by omega) FcS hB (0 : Int32) ⟨fun z => absurd z (by omega), fun _ => rfl⟩) hZ (own_q hw 33 rfl) (own_q hw 8 rfl) (by decide) (by decide)) q426a q426c (g := (mkF m 428 #[.val (.int p0), .val (.int p1), .val (.int p2), .val (.int p3), .val (.int p4), .val (.int p5), .val (.int (2 : Int32)), .val (.int sm), .val (.long lim), .second, .val (.long C0), .second, .val (.long C1), .second, .val (.long C2), .second, .val (.long C3), .second, .val (.int (1 : Int32)), .val (.ref b401), .val (.int (((p5.toUInt32 >>> ((4 : Int32) &&& 31).toUInt32).toInt32) &&& (3 : Int32))), .val (.long pk), .second, .val (.int qq), .val (.ref aS), .val (.int (0 : Int32))] [(.int qq), (.ref aS)])) rfl (by rw [hml]; rfl) (Steps.refl _) (argsL := [(.int qq)]) (rest := []) (lenOf pd_219 rfl) rfl (by show 2 * 0 + _ ≤ _; exact Nat.le_of_eq rfl) (hb hby at_428) (fun _ _ => ⟨rfl, e421, (by decide : 2 + 0 ≤ _), (by decide : 6 + 0 ≤ _)⟩)
      dsimp only [Pt.U, Pt.locs, Pt.cells, Pt.slots] at X426 l426 y426 z426 st426 hQ426
      subst l426 y426 z426
      obtain ⟨rfl, N426q, e426⟩ := hQ426
      have N426 := Fr.app N421 N426q
      obtain ⟨fs, hr, hrun, hended, hW, hsame⟩ := X426.leave (v := some (.int (1 : Int32))) (fun h => by rw [Bd.returns] at h; cases h)
      refine ⟨_, _, ck424 _ ?_, hrun, hended, _, _, rfl, ?_, ⟨_, rfl⟩, hW, hsame.mono (by decide) (by decide)⟩
      · refine XS.ifNo X421.here hx rfl (hb hby at_369) rfl ((if0 _ _).trans (feq hc369_423).1) ?_
        refine XS.iload X421.here hx rfl (hb hby at_372) rfl ?_
        refine XS.iconst X421.here hx rfl (hb hby at_374) ?_
        refine XS.icmpYes X421.here hx rfl (pc0 := 375) (pc' := 387) rfl (hb hby at_375) rfl (tlt (by decide : (1 : Int32) < (2 : Int32))).1 (by decide) (by decide) ?_
        refine XS.iload X421.here hx rfl (hb hby at_387) rfl ?_
        refine XS.iconst X421.here hx rfl (hb hby at_389) ?_
        refine XS.icmpYes X421.here hx rfl (pc0 := 390) (pc' := 402) rfl (hb hby at_390) rfl (tlt (by decide : (1 : Int32) < (3 : Int32))).1 (by decide) (by decide) ?_
        refine XS.iload X421.here hx rfl (hb hby at_402) rfl ?_
        refine XS.iconst X421.here hx rfl (hb hby at_404) ?_
        refine XS.icmpYes X421.here hx rfl (pc0 := 405) (pc' := 421) rfl (hb hby at_405) rfl (tlt (by decide : (1 : Int32) < (4 : Int32))).1 (by decide) (by decide) ?_
        refine XS.iconst X421.here hx rfl (hb hby at_421) ?_
        refine XS.istore X421.here hx rfl (hb hby at_422) rfl (l' := #[.val (.int p0), .val (.int p1), .val (.int p2), .val (.int p3), .val (.int p4), .val (.int p5), .val (.int (2 : Int32)), .val (.int sm), .val (.long lim), .second, .val (.long C0), .second, .val (.long C1), .second, .val (.long C2), .second, .val (.long C3), .second, .val (.int (1 : Int32)), .val (.ref b401), .val (.int (((p5.toUInt32 >>> ((4 : Int32) &&& 31).toUInt32).toInt32) &&& (3 : Int32))), .val (.long pk), .second, .val (.int qq), .val (.ref aS), .val (.int (0 : Int32))]) rfl ?_
        refine XS.aload X421.here hx rfl (hb hby at_424) rfl rfl ?_
        refine XS.iload X421.here hx rfl (hb hby at_426) rfl ?_
        refine st426.trans ?_
        show Steps p.tables e below (T426.setTop (mkF m 431 #[.val (.int p0), .val (.int p1), .val (.int p2), .val (.int p3), .val (.int p4), .val (.int p5), .val (.int (2 : Int32)), .val (.int sm), .val (.long lim), .second, .val (.long C0), .second, .val (.long C1), .second, .val (.long C2), .second, .val (.long C3), .second, .val (.int (1 : Int32)), .val (.ref b401), .val (.int (((p5.toUInt32 >>> ((4 : Int32) &&& 31).toUInt32).toInt32) &&& (3 : Int32))), .val (.long pk), .second, .val (.int qq), .val (.ref aS), .val (.int (0 : Int32))] [(.int (0 : Int32))])) _
        refine XS.iload X426.here hx rfl (hb hby at_431) rfl ?_
        refine XS.icmpNo X426.here hx rfl (hb hby at_433) rfl (teq (by decide : (0 : Int32) = (0 : Int32))).2 ?_
        refine XS.iconst X426.here hx rfl (hb hby at_436) ?_
        refine XS.goto X426.here hx rfl (pc0 := 437) (pc' := 441) rfl (hb hby at_437) (by decide) (by decide) ?_
        exact retN X426 hx (t := .boolean) Bd.returns (by simp) (hb hby at_441) hr
      · show own_Made (some (.int 1)) n0 _ T426.heap _
        rw [e426]
        exact ⟨rfl, N426, trivial⟩
  · -- flags & 7 is 3
    obtain rfl : (3 : Int32) = n7 := hn.symm.trans h_n7
    obtain ⟨_, _, ⟨T427, L427, k427, n427⟩, -, X427, ⟨Lc427, hQ427, l427, y427, z427⟩, st427⟩ := Jvm.LawKit.callS X355 hx (y := (⟨"java/lang/Math", "min", "(II)I"⟩ : MethodName)) hown (mvT hZ (own_q hw 1 rfl)) (mvT hZ (own_q hw 2 rfl)) (mvT hZ (own_q hw 3 rfl)) (mvT hZ (own_q hw 4 rfl)) (by decide) (backOf (W := 0) (rm_minI l Z a0 hw [] (2 : Int32) (4 : Int32) h0 n0 Z0 (2 : Int32) (by decide)) hZ (own_q hw 4 rfl) (own_q hw 3 rfl) (by decide) (by decide)) (g := (mkF m 122 #[.val (.int p0), .val (.int p1), .val (.int p2), .val (.int p3), .val (.int p4), .val (.int p5), .val (.int (3 : Int32)), .val (.int sm), .val (.long lim), .second, .val (.long C0), .second, .val (.long C1), .second, .val (.long C2), .second, .val (.long C3), .second, .unset, .unset, .unset, .unset, .unset, .unset, .unset, .unset] [(.int (4 : Int32)), (.int (2 : Int32))])) rfl (by rw [hml]; rfl) (argsL := [(.int (2 : Int32)), (.int (4 : Int32))]) (rest := []) (lenOf pd_220 rfl) rfl (by show 2 * 0 + _ ≤ _; exact Nat.le_of_eq rfl) (hb hby at_122) (fun _ _ => ⟨rfl, e355, (by decide : 0 + 0 ≤ _), (by decide : 0 + 0 ≤ _)⟩)
    dsimp only [Pt.U, Pt.locs, Pt.cells, Pt.slots] at X427 l427 y427 z427 st427 hQ427
    subst l427 y427 z427
    obtain ⟨rfl, N427q, e427⟩ := hQ427
    have N427 := Fr.app N355 N427q
    obtain ⟨T428, h428, k428, X428, e428, E428, A428, st428⟩ := newP X427 hx hZ (own_q hw 5 rfl) e427 (g := (mkF m 170 #[.val (.int p0), .val (.int p1), .val (.int p2), .val (.int p3), .val (.int p4), .val (.int p5), .val (.int (3 : Int32)), .val (.int sm), .val (.long lim), .second, .val (.long C0), .second, .val (.long C1), .second, .val (.long C2), .second, .val (.long C3), .second, .val (.int (2 : Int32)), .val .null, .unset, .unset, .unset, .unset, .unset, .unset] [(.int (2 : Int32))])) rfl (hb hby at_170) rfl (by decide) (cap := 2) (by decide) (by decide) (by decide) (by decide)
    obtain ⟨b428, g428⟩ : ∃ z, z = h0.size := ⟨_, rfl⟩
    rw [← g428] at A428 st428
    have sz_b428 : h0.size ≤ b428 := Nat.le_trans (Keep.refl h0 []).1 (Nat.le_of_eq g428.symm)
    have gn_b428 : n0 ≤ b428 := Nat.le_trans Z0 sz_b428
    have EX428 := own_ext_trans (own_ext_refl h0) E428
    have KP428 := Keep.ext (Keep.refl h0 []) E428
    have V428 : Arv Z h428 b428 k428 .int (2 : Int32) [(.int (0 : Int32)), (.int (0 : Int32))] (.int (0 : Int32)) := (Arv.new A428 (by decide)).pad (pad_rep [] (.int (0 : Int32)) 2)
    obtain ⟨ic0, h_ic0⟩ : ∃ zQ : Int32, (C0.toInt32) = zQ := ⟨_, rfl⟩
    have hic0 : ic0.toInt = C0.toInt := by rw [← h_ic0]; exact own_ic (by omega)
    have Vc429 := V428
    obtain ⟨cl429, Ar429, q429, S429, N429_, H429_, G429⟩ := Vc429
    have hin429 : ¬ ((0 : Int32) < 0 ∨ cl429.slots.size ≤ ((0 : Int32)).toNatClampNeg) := inb_of S429 ⟨by decide, by decide⟩
    obtain ⟨T430, h430, X430, e430, W430, st430⟩ := stI X428 hx hZ e428 Ar429 (j := (0 : Int32)) hin429 (g := (mkF m 177 #[.val (.int p0), .val (.int p1), .val (.int p2), .val (.int p3), .val (.int p4), .val (.int p5), .val (.int (3 : Int32)), .val (.int sm), .val (.long lim), .second, .val (.long C0), .second, .val (.long C1), .second, .val (.long C2), .second, .val (.long C3), .second, .val (.int (2 : Int32)), .val .null, .unset, .unset, .unset, .unset, .unset, .unset] [(.int ic0), (.int (0 : Int32)), (.ref b428), (.ref b428)])) rfl rfl (hb hby at_177)
    have EX430 := own_ext_wr EX428 W430 sz_b428
    have KP430 := Keep.wr KP428 W430 (Or.inr sz_b428)
    have V430 : Arv Z h430 b428 k428 .int (2 : Int32) [(.int ic0), (.int (0 : Int32))] (.int (0 : Int32)) := Arv.set Ar429 q429 S429 N429_ H429_ G429 rfl W430 0 rfl (Nat.le_of_ble_eq_true rfl)
    have N430 := Fr.snoc X430 N427 gn_b428
    obtain ⟨ic1, h_ic1⟩ : ∃ zQ : Int32, (C1.toInt32) = zQ := ⟨_, rfl⟩
    have hic1 : ic1.toInt = C1.toInt := by rw [← h_ic1]; exact own_ic (by omega)
    have Vc431 := V430
    obtain ⟨cl431, Ar431, q431, S431, N431_, H431_, G431⟩ := Vc431
    have hin431 : ¬ ((1 : Int32) < 0 ∨ cl431.slots.size ≤ ((1 : Int32)).toNatClampNeg) := inb_of S431 ⟨by decide, by decide⟩
    obtain ⟨T432, h432, X432, e432, W432, st432⟩ := stI X430 hx hZ e430 Ar431 (j := (1 : Int32)) hin431 (g := (mkF m 183 #[.val (.int p0), .val (.int p1), .val (.int p2), .val (.int p3), .val (.int p4), .val (.int p5), .val (.int (3 : Int32)), .val (.int sm), .val (.long lim), .second, .val (.long C0), .second, .val (.long C1), .second, .val (.long C2), .second, .val (.long C3), .second, .val (.int (2 : Int32)), .val .null, .unset, .unset, .unset, .unset, .unset, .unset] [(.int ic1), (.int (1 : Int32)), (.ref b428), (.ref b428)])) rfl rfl (hb hby at_183)
    have EX432 := own_ext_wr EX430 W432 sz_b428
    have KP432 := Keep.wr KP430 W432 (Or.inr sz_b428)
    have V432 : Arv Z h432 b428 k428 .int (2 : Int32) [(.int ic0), (.int ic1)] (.int (0 : Int32)) := Arv.set Ar431 q431 S431 N431_ H431_ G431 rfl W432 1 rfl (Nat.le_of_ble_eq_true rfl)
    have N432 := Fr.snoc X432 N430 gn_b428
    have ck433 : ∀ t, Steps p.tables e below (T432.setTop (mkF m 264 #[.val (.int p0), .val (.int p1), .val (.int p2), .val (.int p3), .val (.int p4), .val (.int p5), .val (.int (3 : Int32)), .val (.int sm), .val (.long lim), .second, .val (.long C0), .second, .val (.long C1), .second, .val (.long C2), .second, .val (.long C3), .second, .val (.int (2 : Int32)), .val (.ref b428), .val (.int (((p5.toUInt32 >>> ((4 : Int32) &&& 31).toUInt32).toInt32) &&& (3 : Int32))), .unset, .unset, .unset, .unset, .unset] [])) t → Steps p.tables e below (s₁.setTop (entryFrame m #[(.int p0), (.int p1), (.int p2), (.int p3), (.int p4), (.int p5)] maxLocals)) t := by
      intro t kt
      refine ck358 _ ?_
      refine XS.iload X355.here hx rfl (hb hby at_108) rfl ?_
      refine XS.ifYes X355.here hx rfl (pc0 := 110) (pc' := 117) rfl (hb hby at_110) rfl ((if0 _ _).trans (feq (by decide : ¬ ((3 : Int32) = (0 : Int32)))).2) (by decide) (by decide) ?_
      refine XS.iload X355.here hx rfl (hb hby at_117) rfl ?_
      refine XS.iconst X355.here hx rfl (hb hby at_119) ?_
      refine XS.isub X355.here hx rfl (hb hby at_120) rfl ?_
      refine XS.iconst X355.here hx rfl (hb hby at_121) ?_
      refine st427 _ ?_
      show Steps p.tables e below (T427.setTop (mkF m 125 #[.val (.int p0), .val (.int p1), .val (.int p2), .val (.int p3), .val (.int p4), .val (.int p5), .val (.int (3 : Int32)), .val (.int sm), .val (.long lim), .second, .val (.long C0), .second, .val (.long C1), .second, .val (.long C2), .second, .val (.long C3), .second, .unset, .unset, .unset, .unset, .unset, .unset, .unset, .unset] [(.int (2 : Int32))])) _
      refine XS.istore X427.here hx rfl (hb hby at_125) rfl (l' := #[.val (.int p0), .val (.int p1), .val (.int p2), .val (.int p3), .val (.int p4), .val (.int p5), .val (.int (3 : Int32)), .val (.int sm), .val (.long lim), .second, .val (.long C0), .second, .val (.long C1), .second, .val (.long C2), .second, .val (.long C3), .second, .val (.int (2 : Int32)), .unset, .unset, .unset, .unset, .unset, .unset, .unset]) rfl ?_
      refine XS.aconstNull X427.here hx rfl (hb hby at_127) ?_
      refine XS.astore X427.here hx rfl (hb hby at_128) rfl rfl (l' := #[.val (.int p0), .val (.int p1), .val (.int p2), .val (.int p3), .val (.int p4), .val (.int p5), .val (.int (3 : Int32)), .val (.int sm), .val (.long lim), .second, .val (.long C0), .second, .val (.long C1), .second, .val (.long C2), .second, .val (.long C3), .second, .val (.int (2 : Int32)), .val .null, .unset, .unset, .unset, .unset, .unset, .unset]) rfl ?_
      refine XS.iload X427.here hx rfl (hb hby at_130) rfl ?_
      refine XS.ifYes X427.here hx rfl (pc0 := 132) (pc' := 143) rfl (hb hby at_132) rfl ((if0 _ _).trans (feq (by decide : ¬ ((2 : Int32) = (0 : Int32)))).2) (by decide) (by decide) ?_
      refine XS.iload X427.here hx rfl (hb hby at_143) rfl ?_
      refine XS.iconst X427.here hx rfl (hb hby at_145) ?_
      refine XS.icmpYes X427.here hx rfl (pc0 := 146) (pc' := 163) rfl (hb hby at_146) rfl (feq (by decide : ¬ ((2 : Int32) = (1 : Int32)))).2 (by decide) (by decide) ?_
      refine XS.iload X427.here hx rfl (hb hby at_163) rfl ?_
      refine XS.iconst X427.here hx rfl (hb hby at_165) ?_
      refine XS.icmpNo X427.here hx rfl (hb hby at_166) rfl (teq (by decide : (2 : Int32) = (2 : Int32))).2 ?_
      refine XS.iconst X427.here hx rfl (hb hby at_169) ?_
      refine st428 _ ?_
      show Steps p.tables e below (T428.setTop (mkF m 172 #[.val (.int p0), .val (.int p1), .val (.int p2), .val (.int p3), .val (.int p4), .val (.int p5), .val (.int (3 : Int32)), .val (.int sm), .val (.long lim), .second, .val (.long C0), .second, .val (.long C1), .second, .val (.long C2), .second, .val (.long C3), .second, .val (.int (2 : Int32)), .val .null, .unset, .unset, .unset, .unset, .unset, .unset] [(.ref b428)])) _
      refine XS.dup X428.here hx rfl (hb hby at_172) rfl rfl ?_
      refine XS.iconst X428.here hx rfl (hb hby at_173) ?_
      refine XS.lload X428.here hx rfl (hb hby at_174) rfl ?_
      refine XS.l2i X428.here hx rfl (hb hby at_176) rfl ?_
      show Steps p.tables e below (T428.setTop (mkF m 177 #[.val (.int p0), .val (.int p1), .val (.int p2), .val (.int p3), .val (.int p4), .val (.int p5), .val (.int (3 : Int32)), .val (.int sm), .val (.long lim), .second, .val (.long C0), .second, .val (.long C1), .second, .val (.long C2), .second, .val (.long C3), .second, .val (.int (2 : Int32)), .val .null, .unset, .unset, .unset, .unset, .unset, .unset] [(.int (C0.toInt32)), (.int (0 : Int32)), (.ref b428), (.ref b428)])) _
      rw [h_ic0]
      show Steps p.tables e below (T428.setTop (mkF m 177 #[.val (.int p0), .val (.int p1), .val (.int p2), .val (.int p3), .val (.int p4), .val (.int p5), .val (.int (3 : Int32)), .val (.int sm), .val (.long lim), .second, .val (.long C0), .second, .val (.long C1), .second, .val (.long C2), .second, .val (.long C3), .second, .val (.int (2 : Int32)), .val .null, .unset, .unset, .unset, .unset, .unset, .unset] [(.int ic0), (.int (0 : Int32)), (.ref b428), (.ref b428)])) _
      refine st430 _ ?_
      show Steps p.tables e below (T430.setTop (mkF m 178 #[.val (.int p0), .val (.int p1), .val (.int p2), .val (.int p3), .val (.int p4), .val (.int p5), .val (.int (3 : Int32)), .val (.int sm), .val (.long lim), .second, .val (.long C0), .second, .val (.long C1), .second, .val (.long C2), .second, .val (.long C3), .second, .val (.int (2 : Int32)), .val .null, .unset, .unset, .unset, .unset, .unset, .unset] [(.ref b428)])) _
      refine XS.dup X430.here hx rfl (hb hby at_178) rfl rfl ?_
      refine XS.iconst X430.here hx rfl (hb hby at_179) ?_
      refine XS.lload X430.here hx rfl (hb hby at_180) rfl ?_
      refine XS.l2i X430.here hx rfl (hb hby at_182) rfl ?_
      show Steps p.tables e below (T430.setTop (mkF m 183 #[.val (.int p0), .val (.int p1), .val (.int p2), .val (.int p3), .val (.int p4), .val (.int p5), .val (.int (3 : Int32)), .val (.int sm), .val (.long lim), .second, .val (.long C0), .second, .val (.long C1), .second, .val (.long C2), .second, .val (.long C3), .second, .val (.int (2 : Int32)), .val .null, .unset, .unset, .unset, .unset, .unset, .unset] [(.int (C1.toInt32)), (.int (1 : Int32)), (.ref b428), (.ref b428)])) _
      rw [h_ic1]
      show Steps p.tables e below (T430.setTop (mkF m 183 #[.val (.int p0), .val (.int p1), .val (.int p2), .val (.int p3), .val (.int p4), .val (.int p5), .val (.int (3 : Int32)), .val (.int sm), .val (.long lim), .second, .val (.long C0), .second, .val (.long C1), .second, .val (.long C2), .second, .val (.long C3), .second, .val (.int (2 : Int32)), .val .null, .unset, .unset, .unset, .unset, .unset, .unset] [(.int ic1), (.int (1 : Int32)), (.ref b428), (.ref b428)])) _
      refine st432 _ ?_
      show Steps p.tables e below (T432.setTop (mkF m 184 #[.val (.int p0), .val (.int p1), .val (.int p2), .val (.int p3), .val (.int p4), .val (.int p5), .val (.int (3 : Int32)), .val (.int sm), .val (.long lim), .second, .val (.long C0), .second, .val (.long C1), .second, .val (.long C2), .second, .val (.long C3), .second, .val (.int (2 : Int32)), .val .null, .unset, .unset, .unset, .unset, .unset, .unset] [(.ref b428)])) _
      refine XS.astore X432.here hx rfl (hb hby at_184) rfl rfl (l' := #[.val (.int p0), .val (.int p1), .val (.int p2), .val (.int p3), .val (.int p4), .val (.int p5), .val (.int (3 : Int32)), .val (.int sm), .val (.long lim), .second, .val (.long C0), .second, .val (.long C1), .second, .val (.long C2), .second, .val (.long C3), .second, .val (.int (2 : Int32)), .val (.ref b428), .unset, .unset, .unset, .unset, .unset, .unset]) rfl ?_
      refine XS.goto X432.here hx rfl (pc0 := 186) (pc' := 256) rfl (hb hby at_186) (by decide) (by decide) ?_
      refine XS.iload X432.here hx rfl (hb hby at_256) rfl ?_
      refine XS.iconst X432.here hx rfl (hb hby at_258) ?_
      refine XS.iushr X432.here hx rfl (hb hby at_259) rfl ?_
      refine XS.iconst X432.here hx rfl (hb hby at_260) ?_
      refine XS.iand X432.here hx rfl (hb hby at_261) rfl ?_
      refine XS.istore X432.here hx rfl (hb hby at_262) rfl (l' := #[.val (.int p0), .val (.int p1), .val (.int p2), .val (.int p3), .val (.int p4), .val (.int p5), .val (.int (3 : Int32)), .val (.int sm), .val (.long lim), .second, .val (.long C0), .second, .val (.long C1), .second, .val (.long C2), .second, .val (.long C3), .second, .val (.int (2 : Int32)), .val (.ref b428), .val (.int (((p5.toUInt32 >>> ((4 : Int32) &&& 31).toUInt32).toInt32) &&& (3 : Int32))), .unset, .unset, .unset, .unset, .unset]) rfl ?_
      exact kt
    (try clear st432); (try clear W432); (try clear hin431); (try clear G431); (try clear H431_); (try clear N431_); (try clear S431); (try clear q431); (try clear Ar431); (try clear cl431); (try clear N430); (try clear V430); (try clear KP430); (try clear EX430); (try clear st430); (try clear W430); (try clear e430); (try clear X430); (try clear h430); (try clear T430); (try clear hin429); (try clear G429); (try clear H429_); (try clear N429_); (try clear S429); (try clear q429); (try clear Ar429); (try clear cl429); (try clear V428); (try clear KP428); (try clear EX428); (try clear st428); (try clear A428); (try clear E428); (try clear e428); (try clear X428); (try clear h428); (try clear T428); (try clear N427); (try clear e427); (try clear N427q); (try clear st427); (try clear Lc427); (try clear X427); (try clear n427); (try clear k427); (try clear L427); (try clear T427)
    obtain ⟨T438, L438, pk, X438, e438, N438, hj438_0, ck438⟩ : ∃ (TJ : State) (LJ : List Loc) (pk : Int64), Stand p l e room_1 s m #[(.int p0), (.int p1), (.int p2), (.int p3), (.int p4), (.int p5)] below meth c TJ LJ 1 2 ∧ TJ.heap = h432 ∧ Fr n0 LJ ∧ (0 ≤ pk.toInt ∧ pk.toInt ≤ lim.toInt) ∧ (∀ t, Steps p.tables e below (TJ.setTop (mkF m 298 #[.val (.int p0), .val (.int p1), .val (.int p2), .val (.int p3), .val (.int p4), .val (.int p5), .val (.int (3 : Int32)), .val (.int sm), .val (.long lim), .second, .val (.long C0), .second, .val (.long C1), .second, .val (.long C2), .second, .val (.long C3), .second, .val (.int (2 : Int32)), .val (.ref b428), .val (.int (((p5.toUInt32 >>> ((4 : Int32) &&& 31).toUInt32).toInt32) &&& (3 : Int32))), .unset, .unset, .unset, .unset, .unset] [(.long pk)])) t → Steps p.tables e below (s₁.setTop (entryFrame m #[(.int p0), (.int p1), (.int p2), (.int p3), (.int p4), (.int p5)] maxLocals)) t) := by
      by_cases hc266_439 : (((p5.toUInt32 >>> ((4 : Int32) &&& 31).toUInt32).toInt32) &&& (3 : Int32)) = (0 : Int32)
      · -- pc 266: yes
        refine ⟨T432, _, C0, X432, e432, N432, hC0, fun t kt => ?_⟩
        refine ck433 _ ?_
        refine XS.iload X432.here hx rfl (hb hby at_264) rfl ?_
        refine XS.ifNo X432.here hx rfl (hb hby at_266) rfl ((if0 _ _).trans (teq hc266_439).2) ?_
        refine XS.lload X432.here hx rfl (hb hby at_269) rfl ?_
        refine XS.goto X432.here hx rfl (pc0 := 271) (pc' := 298) rfl (hb hby at_271) (by decide) (by decide) ?_
        exact kt
      · -- pc 266: no
        have ck441 : ∀ t, Steps p.tables e below (T432.setTop (mkF m 277 #[.val (.int p0), .val (.int p1), .val (.int p2), .val (.int p3), .val (.int p4), .val (.int p5), .val (.int (3 : Int32)), .val (.int sm), .val (.long lim), .second, .val (.long C0), .second, .val (.long C1), .second, .val (.long C2), .second, .val (.long C3), .second, .val (.int (2 : Int32)), .val (.ref b428), .val (.int (((p5.toUInt32 >>> ((4 : Int32) &&& 31).toUInt32).toInt32) &&& (3 : Int32))), .unset, .unset, .unset, .unset, .unset] [(.int (1 : Int32)), (.int (((p5.toUInt32 >>> ((4 : Int32) &&& 31).toUInt32).toInt32) &&& (3 : Int32)))])) t → Steps p.tables e below (s₁.setTop (entryFrame m #[(.int p0), (.int p1), (.int p2), (.int p3), (.int p4), (.int p5)] maxLocals)) t := by
          intro t kt
          refine ck433 _ ?_
          refine XS.iload X432.here hx rfl (hb hby at_264) rfl ?_
          refine XS.ifYes X432.here hx rfl (pc0 := 266) (pc' := 274) rfl (hb hby at_266) rfl ((if0 _ _).trans (feq hc266_439).2) (by decide) (by decide) ?_
          refine XS.iload X432.here hx rfl (hb hby at_274) rfl ?_
          refine XS.iconst X432.here hx rfl (hb hby at_276) ?_
          exact kt
        by_cases hc277_440 : (((p5.toUInt32 >>> ((4 : Int32) &&& 31).toUInt32).toInt32) &&& (3 : Int32)) = (1 : Int32)
        · -- pc 277: yes
          refine ⟨T432, _, C1, X432, e432, N432, hC1, fun t kt => ?_⟩
          refine ck441 _ ?_
          refine XS.icmpNo X432.here hx rfl (hb hby at_277) rfl (teq hc277_440).2 ?_
          refine XS.lload X432.here hx rfl (hb hby at_280) rfl ?_
          refine XS.goto X432.here hx rfl (pc0 := 282) (pc' := 298) rfl (hb hby at_282) (by decide) (by decide) ?_
          exact kt
        · -- pc 277: no
          by_cases hc288_442 : (((p5.toUInt32 >>> ((4 : Int32) &&& 31).toUInt32).toInt32) &&& (3 : Int32)) = (2 : Int32)
          · -- pc 288: yes
            refine ⟨T432, _, C2, X432, e432, N432, hC2, fun t kt => ?_⟩
            refine ck441 _ ?_
            refine XS.icmpYes X432.here hx rfl (pc0 := 277) (pc' := 285) rfl (hb hby at_277) rfl (feq hc277_440).2 (by decide) (by decide) ?_
            refine XS.iload X432.here hx rfl (hb hby at_285) rfl ?_
            refine XS.iconst X432.here hx rfl (hb hby at_287) ?_
            refine XS.icmpNo X432.here hx rfl (hb hby at_288) rfl (teq hc288_442).2 ?_
            refine XS.lload X432.here hx rfl (hb hby at_291) rfl ?_
            refine XS.goto X432.here hx rfl (pc0 := 293) (pc' := 298) rfl (hb hby at_293) (by decide) (by decide) ?_
            exact kt
          · -- pc 288: no
            refine ⟨T432, _, C3, X432, e432, N432, hC3, fun t kt => ?_⟩
            refine ck441 _ ?_
            refine XS.icmpYes X432.here hx rfl (pc0 := 277) (pc' := 285) rfl (hb hby at_277) rfl (feq hc277_440).2 (by decide) (by decide) ?_
            refine XS.iload X432.here hx rfl (hb hby at_285) rfl ?_
            refine XS.iconst X432.here hx rfl (hb hby at_287) ?_
            refine XS.icmpYes X432.here hx rfl (pc0 := 288) (pc' := 296) rfl (hb hby at_288) rfl (feq hc288_442).2 (by decide) (by decide) ?_
            refine XS.lload X432.here hx rfl (hb hby at_296) rfl ?_
            exact kt
    have hpk := hj438_0
    obtain ⟨T446, L446, qq, X446, e446, N446, hj446_0, ck446⟩ : ∃ (TJ : State) (LJ : List Loc) (qq : Int32), Stand p l e room_1 s m #[(.int p0), (.int p1), (.int p2), (.int p3), (.int p4), (.int p5)] below meth c TJ LJ 1 2 ∧ TJ.heap = h432 ∧ Fr n0 LJ ∧ (0 ≤ qq.toInt) ∧ (∀ t, Steps p.tables e below (TJ.setTop (mkF m 345 #[.val (.int p0), .val (.int p1), .val (.int p2), .val (.int p3), .val (.int p4), .val (.int p5), .val (.int (3 : Int32)), .val (.int sm), .val (.long lim), .second, .val (.long C0), .second, .val (.long C1), .second, .val (.long C2), .second, .val (.long C3), .second, .val (.int (2 : Int32)), .val (.ref b428), .val (.int (((p5.toUInt32 >>> ((4 : Int32) &&& 31).toUInt32).toInt32) &&& (3 : Int32))), .val (.long pk), .second, .val (.int qq), .unset, .unset] [])) t → Steps p.tables e below (s₁.setTop (entryFrame m #[(.int p0), (.int p1), (.int p2), (.int p3), (.int p4), (.int p5)] maxLocals)) t) := by
      have ck448 : ∀ t, Steps p.tables e below (T438.setTop (mkF m 305 #[.val (.int p0), .val (.int p1), .val (.int p2), .val (.int p3), .val (.int p4), .val (.int p5), .val (.int (3 : Int32)), .val (.int sm), .val (.long lim), .second, .val (.long C0), .second, .val (.long C1), .second, .val (.long C2), .second, .val (.long C3), .second, .val (.int (2 : Int32)), .val (.ref b428), .val (.int (((p5.toUInt32 >>> ((4 : Int32) &&& 31).toUInt32).toInt32) &&& (3 : Int32))), .val (.long pk), .second, .unset, .unset, .unset] [(.int (p5 &&& (64 : Int32)))])) t → Steps p.tables e below (s₁.setTop (entryFrame m #[(.int p0), (.int p1), (.int p2), (.int p3), (.int p4), (.int p5)] maxLocals)) t := by
        intro t kt
        refine ck438 _ ?_
        refine XS.lstore X438.here hx rfl (hb hby at_298) rfl (l' := #[.val (.int p0), .val (.int p1), .val (.int p2), .val (.int p3), .val (.int p4), .val (.int p5), .val (.int (3 : Int32)), .val (.int sm), .val (.long lim), .second, .val (.long C0), .second, .val (.long C1), .second, .val (.long C2), .second, .val (.long C3), .second, .val (.int (2 : Int32)), .val (.ref b428), .val (.int (((p5.toUInt32 >>> ((4 : Int32) &&& 31).toUInt32).toInt32) &&& (3 : Int32))), .val (.long pk), .second, .unset, .unset, .unset]) rfl ?_
        refine XS.iload X438.here hx rfl (hb hby at_300) rfl ?_
        refine XS.bipush X438.here hx rfl (hb hby at_302) ?_
        refine XS.iand X438.here hx rfl (hb hby at_304) rfl ?_
        exact kt
      by_cases hc305_447 : (p5 &&& (64 : Int32)) = (0 : Int32)
      · -- pc 305: yes
        refine ⟨T438, _, ((((p4.toInt64) &&& (2147483647 : Int64)) % (lim + (1 : Int64))).toInt32), X438, e438, N438, (own_q2 hlim), fun t kt => ?_⟩
        refine ck448 _ ?_
        refine XS.ifYes X438.here hx rfl (pc0 := 305) (pc' := 330) rfl (hb hby at_305) rfl ((if0 _ _).trans (teq hc305_447).1) (by decide) (by decide) ?_
        refine XS.iload X438.here hx rfl (hb hby at_330) rfl ?_
        refine XS.i2l X438.here hx rfl (hb hby at_332) rfl ?_
        refine X438.ldc2Long hx hown (mvT hZ (own_q hw 0 rfl)) (g := (mkF m 333 #[.val (.int p0), .val (.int p1), .val (.int p2), .val (.int p3), .val (.int p4), .val (.int p5), .val (.int (3 : Int32)), .val (.int sm), .val (.long lim), .second, .val (.long C0), .second, .val (.long C1), .second, .val (.long C2), .second, .val (.long C3), .second, .val (.int (2 : Int32)), .val (.ref b428), .val (.int (((p5.toUInt32 >>> ((4 : Int32) &&& 31).toUInt32).toInt32) &&& (3 : Int32))), .val (.long pk), .second, .unset, .unset, .unset] [(.long (p4.toInt64))])) rfl (hb hby at_333) _ ?_
        show Steps p.tables e below (T438.setTop (mkF m 336 #[.val (.int p0), .val (.int p1), .val (.int p2), .val (.int p3), .val (.int p4), .val (.int p5), .val (.int (3 : Int32)), .val (.int sm), .val (.long lim), .second, .val (.long C0), .second, .val (.long C1), .second, .val (.long C2), .second, .val (.long C3), .second, .val (.int (2 : Int32)), .val (.ref b428), .val (.int (((p5.toUInt32 >>> ((4 : Int32) &&& 31).toUInt32).toInt32) &&& (3 : Int32))), .val (.long pk), .second, .unset, .unset, .unset] [(.long (2147483647 : Int64)), (.long (p4.toInt64))])) _
        refine XS.land X438.here hx rfl (hb hby at_336) rfl ?_
        refine XS.lload X438.here hx rfl (hb hby at_337) rfl ?_
        refine XS.lconst X438.here hx rfl (hb hby at_339) ?_
        refine XS.ladd X438.here hx rfl (hb hby at_340) rfl ?_
        refine XS.lrem X438.here hx rfl (hb hby at_341) rfl (own_nz (own_l1 hlim).1) ?_
        show Steps p.tables e below (T438.setTop (mkF m 342 #[.val (.int p0), .val (.int p1), .val (.int p2), .val (.int p3), .val (.int p4), .val (.int p5), .val (.int (3 : Int32)), .val (.int sm), .val (.long lim), .second, .val (.long C0), .second, .val (.long C1), .second, .val (.long C2), .second, .val (.long C3), .second, .val (.int (2 : Int32)), .val (.ref b428), .val (.int (((p5.toUInt32 >>> ((4 : Int32) &&& 31).toUInt32).toInt32) &&& (3 : Int32))), .val (.long pk), .second, .unset, .unset, .unset] [(.long (((p4.toInt64) &&& (2147483647 : Int64)) - (((p4.toInt64) &&& (2147483647 : Int64)) / (lim + (1 : Int64))) * (lim + (1 : Int64))))])) _
        rw [lrem_mod]
        show Steps p.tables e below (T438.setTop (mkF m 342 #[.val (.int p0), .val (.int p1), .val (.int p2), .val (.int p3), .val (.int p4), .val (.int p5), .val (.int (3 : Int32)), .val (.int sm), .val (.long lim), .second, .val (.long C0), .second, .val (.long C1), .second, .val (.long C2), .second, .val (.long C3), .second, .val (.int (2 : Int32)), .val (.ref b428), .val (.int (((p5.toUInt32 >>> ((4 : Int32) &&& 31).toUInt32).toInt32) &&& (3 : Int32))), .val (.long pk), .second, .unset, .unset, .unset] [(.long (((p4.toInt64) &&& (2147483647 : Int64)) % (lim + (1 : Int64))))])) _
        refine XS.l2i X438.here hx rfl (hb hby at_342) rfl ?_
        refine XS.istore X438.here hx rfl (hb hby at_343) rfl (l' := #[.val (.int p0), .val (.int p1), .val (.int p2), .val (.int p3), .val (.int p4), .val (.int p5), .val (.int (3 : Int32)), .val (.int sm), .val (.long lim), .second, .val (.long C0), .second, .val (.long C1), .second, .val (.long C2), .second, .val (.long C3), .second, .val (.int (2 : Int32)), .val (.ref b428), .val (.int (((p5.toUInt32 >>> ((4 : Int32) &&& 31).toUInt32).toInt32) &&& (3 : Int32))), .val (.long pk), .second, .val (.int ((((p4.toInt64) &&& (2147483647 : Int64)) % (lim + (1 : Int64))).toInt32)), .unset, .unset]) rfl ?_
        exact kt
      · -- pc 305: no
        obtain ⟨_, _, ⟨T449, L449, k449, n449⟩, -, X449, ⟨Lc449, hQ449, l449, y449, z449⟩, st449⟩ := Jvm.LawKit.callS X438 hx (y := (⟨"java/lang/Math", "min", "(JJ)J"⟩ : MethodName)) hown (mvT hZ (own_q hw 35 rfl)) (mvT hZ (own_q hw 36 rfl)) (mvT hZ (own_q hw 3 rfl)) (mvT hZ (own_q hw 37 rfl)) (by decide) (backOf (W := 0) (rm_minJ l Z a0 hw [] lim (pk + ((((p5.toUInt32 >>> ((7 : Int32) &&& 31).toUInt32).toInt32) &&& (1 : Int32)).toInt64)) h432 n0 (Nat.le_trans Z0 EX432.1) (if (0 : Int32) < (lcmpW lim (pk + ((((p5.toUInt32 >>> ((7 : Int32) &&& 31).toUInt32).toInt32) &&& (1 : Int32)).toInt64))) then (pk + ((((p5.toUInt32 >>> ((7 : Int32) &&& 31).toUInt32).toInt32) &&& (1 : Int32)).toInt64)) else lim) rfl) hZ (own_q hw 37 rfl) (own_q hw 3 rfl) (by decide) (by decide)) (g := (mkF m 321 #[.val (.int p0), .val (.int p1), .val (.int p2), .val (.int p3), .val (.int p4), .val (.int p5), .val (.int (3 : Int32)), .val (.int sm), .val (.long lim), .second, .val (.long C0), .second, .val (.long C1), .second, .val (.long C2), .second, .val (.long C3), .second, .val (.int (2 : Int32)), .val (.ref b428), .val (.int (((p5.toUInt32 >>> ((4 : Int32) &&& 31).toUInt32).toInt32) &&& (3 : Int32))), .val (.long pk), .second, .unset, .unset, .unset] [(.long (pk + ((((p5.toUInt32 >>> ((7 : Int32) &&& 31).toUInt32).toInt32) &&& (1 : Int32)).toInt64))), (.long lim)])) rfl (by rw [hml]; rfl) (argsL := [(.long lim), (.long (pk + ((((p5.toUInt32 >>> ((7 : Int32) &&& 31).toUInt32).toInt32) &&& (1 : Int32)).toInt64)))]) (rest := []) (lenOf pd_217 rfl) rfl (by show 2 * 0 + _ ≤ _; exact Nat.le_of_eq rfl) (hb hby at_321) (fun _ _ => ⟨rfl, e438, (by decide : 1 + 0 ≤ _), (by decide : 2 + 0 ≤ _)⟩)
        dsimp only [Pt.U, Pt.locs, Pt.cells, Pt.slots] at X449 l449 y449 z449 st449 hQ449
        subst l449 y449 z449
        obtain ⟨rfl, N449q, e449⟩ := hQ449
        have N449 := Fr.app N438 N449q
        refine ⟨T449, _, ((if (0 : Int32) < (lcmpW lim (pk + ((((p5.toUInt32 >>> ((7 : Int32) &&& 31).toUInt32).toInt32) &&& (1 : Int32)).toInt64))) then (pk + ((((p5.toUInt32 >>> ((7 : Int32) &&& 31).toUInt32).toInt32) &&& (1 : Int32)).toInt64)) else lim).toInt32), X449, e449, N449, (own_q1 hlim hpk), fun t kt => ?_⟩
        refine ck448 _ ?_
        refine XS.ifNo X438.here hx rfl (hb hby at_305) rfl ((if0 _ _).trans (feq hc305_447).1) ?_
        refine XS.lload X438.here hx rfl (hb hby at_308) rfl ?_
        refine XS.lload X438.here hx rfl (hb hby at_310) rfl ?_
        refine XS.iload X438.here hx rfl (hb hby at_312) rfl ?_
        refine XS.bipush X438.here hx rfl (hb hby at_314) ?_
        refine XS.iushr X438.here hx rfl (hb hby at_316) rfl ?_
        refine XS.iconst X438.here hx rfl (hb hby at_317) ?_
        refine XS.iand X438.here hx rfl (hb hby at_318) rfl ?_
        refine XS.i2l X438.here hx rfl (hb hby at_319) rfl ?_
        refine XS.ladd X438.here hx rfl (hb hby at_320) rfl ?_
        refine st449 _ ?_
        show Steps p.tables e below (T449.setTop (mkF m 324 #[.val (.int p0), .val (.int p1), .val (.int p2), .val (.int p3), .val (.int p4), .val (.int p5), .val (.int (3 : Int32)), .val (.int sm), .val (.long lim), .second, .val (.long C0), .second, .val (.long C1), .second, .val (.long C2), .second, .val (.long C3), .second, .val (.int (2 : Int32)), .val (.ref b428), .val (.int (((p5.toUInt32 >>> ((4 : Int32) &&& 31).toUInt32).toInt32) &&& (3 : Int32))), .val (.long pk), .second, .unset, .unset, .unset] [(.long (if (0 : Int32) < (lcmpW lim (pk + ((((p5.toUInt32 >>> ((7 : Int32) &&& 31).toUInt32).toInt32) &&& (1 : Int32)).toInt64))) then (pk + ((((p5.toUInt32 >>> ((7 : Int32) &&& 31).toUInt32).toInt32) &&& (1 : Int32)).toInt64)) else lim))])) _
        refine XS.l2i X449.here hx rfl (hb hby at_324) rfl ?_
        refine XS.istore X449.here hx rfl (hb hby at_325) rfl (l' := #[.val (.int p0), .val (.int p1), .val (.int p2), .val (.int p3), .val (.int p4), .val (.int p5), .val (.int (3 : Int32)), .val (.int sm), .val (.long lim), .second, .val (.long C0), .second, .val (.long C1), .second, .val (.long C2), .second, .val (.long C3), .second, .val (.int (2 : Int32)), .val (.ref b428), .val (.int (((p5.toUInt32 >>> ((4 : Int32) &&& 31).toUInt32).toInt32) &&& (3 : Int32))), .val (.long pk), .second, .val (.int ((if (0 : Int32) < (lcmpW lim (pk + ((((p5.toUInt32 >>> ((7 : Int32) &&& 31).toUInt32).toInt32) &&& (1 : Int32)).toInt64))) then (pk + ((((p5.toUInt32 >>> ((7 : Int32) &&& 31).toUInt32).toInt32) &&& (1 : Int32)).toInt64)) else lim).toInt32)), .unset, .unset]) rfl ?_
        refine XS.goto X449.here hx rfl (pc0 := 327) (pc' := 345) rfl (hb hby at_327) (by decide) (by decide) ?_
        exact kt
    have hqq := hj446_0
    have hqL := c_i2l qq
    obtain ⟨_, _, ⟨T450, L450, k450, n450⟩, -, X450, ⟨Lc450, hQ450, l450, y450, z450⟩, st450⟩ := Jvm.LawKit.callS X446 hx (y := (⟨"com/example/cubelet/cubelet/CellStore$Step", "together", "([I)Lcom/example/cubelet/cubelet/CellStore$Step;"⟩ : MethodName)) hown (mvT hZ (own_q hw 6 rfl)) (mvT hZ (own_q hw 7 rfl)) (mvT hZ (own_q hw 8 rfl)) (mvT hZ (own_q hw 9 rfl)) (by decide) (backOf (W := 0) (rm_tog_2 l Z a0 hw [] b428 h432 n0 (Nat.le_trans Z0 EX432.1) k428 ic0 ic1 V432 ⟨by omega, by omega⟩) hZ (own_q hw 9 rfl) (own_q hw 8 rfl) (by decide) (by decide)) (g := (mkF m 347 #[.val (.int p0), .val (.int p1), .val (.int p2), .val (.int p3), .val (.int p4), .val (.int p5), .val (.int (3 : Int32)), .val (.int sm), .val (.long lim), .second, .val (.long C0), .second, .val (.long C1), .second, .val (.long C2), .second, .val (.long C3), .second, .val (.int (2 : Int32)), .val (.ref b428), .val (.int (((p5.toUInt32 >>> ((4 : Int32) &&& 31).toUInt32).toInt32) &&& (3 : Int32))), .val (.long pk), .second, .val (.int qq), .unset, .unset] [(.ref b428)])) rfl (by rw [hml]; rfl) (argsL := [(.ref b428)]) (rest := []) (lenOf pd_218 rfl) rfl (by show 2 * 0 + _ ≤ _; exact Nat.le_of_eq rfl) (hb hby at_347) (fun _ _ => ⟨rfl, e446, (by decide : 1 + 2 ≤ _), (by decide : 2 + 38 ≤ _)⟩)
    dsimp only [Pt.U, Pt.locs, Pt.cells, Pt.slots] at X450 l450 y450 z450 st450 hQ450
    subst l450 y450 z450
    obtain ⟨aS, rfl, N450q, E450, ES, FcS, hB⟩ := hQ450
    have N450 := Fr.app N446 N450q
    have e450 : T450.heap = T450.heap := rfl
    have EX450 := own_ext_trans EX432 E450
    have KP450 := Keep.ext KP432 E450
    have Fx451 := (V432.ext E450)
    have ck453 : ∀ t, Steps p.tables e below (T450.setTop (mkF m 369 #[.val (.int p0), .val (.int p1), .val (.int p2), .val (.int p3), .val (.int p4), .val (.int p5), .val (.int (3 : Int32)), .val (.int sm), .val (.long lim), .second, .val (.long C0), .second, .val (.long C1), .second, .val (.long C2), .second, .val (.long C3), .second, .val (.int (2 : Int32)), .val (.ref b428), .val (.int (((p5.toUInt32 >>> ((4 : Int32) &&& 31).toUInt32).toInt32) &&& (3 : Int32))), .val (.long pk), .second, .val (.int qq), .val (.ref aS), .unset] [(.int (lcmpW (qq.toInt64) C0))])) t → Steps p.tables e below (s₁.setTop (entryFrame m #[(.int p0), (.int p1), (.int p2), (.int p3), (.int p4), (.int p5)] maxLocals)) t := by
      intro t kt
      refine ck446 _ ?_
      refine XS.aload X446.here hx rfl (hb hby at_345) rfl rfl ?_
      refine st450 _ ?_
      show Steps p.tables e below (T450.setTop (mkF m 350 #[.val (.int p0), .val (.int p1), .val (.int p2), .val (.int p3), .val (.int p4), .val (.int p5), .val (.int (3 : Int32)), .val (.int sm), .val (.long lim), .second, .val (.long C0), .second, .val (.long C1), .second, .val (.long C2), .second, .val (.long C3), .second, .val (.int (2 : Int32)), .val (.ref b428), .val (.int (((p5.toUInt32 >>> ((4 : Int32) &&& 31).toUInt32).toInt32) &&& (3 : Int32))), .val (.long pk), .second, .val (.int qq), .unset, .unset] [(.ref aS)])) _
      refine XS.astore X450.here hx rfl (hb hby at_350) rfl rfl (l' := #[.val (.int p0), .val (.int p1), .val (.int p2), .val (.int p3), .val (.int p4), .val (.int p5), .val (.int (3 : Int32)), .val (.int sm), .val (.long lim), .second, .val (.long C0), .second, .val (.long C1), .second, .val (.long C2), .second, .val (.long C3), .second, .val (.int (2 : Int32)), .val (.ref b428), .val (.int (((p5.toUInt32 >>> ((4 : Int32) &&& 31).toUInt32).toInt32) &&& (3 : Int32))), .val (.long pk), .second, .val (.int qq), .val (.ref aS), .unset]) rfl ?_
      refine XS.iload X450.here hx rfl (hb hby at_352) rfl ?_
      refine XS.ifNo X450.here hx rfl (hb hby at_354) rfl ((if0 _ _).trans (flt (by decide : ¬ ((2 : Int32) < (0 : Int32)))).1) ?_
      refine XS.iload X450.here hx rfl (hb hby at_357) rfl ?_
      refine XS.iconst X450.here hx rfl (hb hby at_359) ?_
      refine XS.icmpNo X450.here hx rfl (hb hby at_360) rfl (flt (by decide : ¬ ((2 : Int32) < (1 : Int32)))).1 ?_
      refine XS.iload X450.here hx rfl (hb hby at_363) rfl ?_
      refine XS.i2l X450.here hx rfl (hb hby at_365) rfl ?_
      refine XS.lload X450.here hx rfl (hb hby at_366) rfl ?_
      refine XS.lcmp X450.here hx rfl (hb hby at_368) rfl ?_
      exact kt
    (try clear E450); (try clear N450q); (try clear st450); (try clear Lc450); (try clear n450); (try clear k450); (try clear L450)
    by_cases hc369_452 : (lcmpW (qq.toInt64) C0) = (0 : Int32)
    · -- pc 369: yes
      have ck454 : ∀ t, Steps p.tables e below (T450.setTop (mkF m 424 #[.val (.int p0), .val (.int p1), .val (.int p2), .val (.int p3), .val (.int p4), .val (.int p5), .val (.int (3 : Int32)), .val (.int sm), .val (.long lim), .second, .val (.long C0), .second, .val (.long C1), .second, .val (.long C2), .second, .val (.long C3), .second, .val (.int (2 : Int32)), .val (.ref b428), .val (.int (((p5.toUInt32 >>> ((4 : Int32) &&& 31).toUInt32).toInt32) &&& (3 : Int32))), .val (.long pk), .second, .val (.int qq), .val (.ref aS), .val (.int (1 : Int32))] [])) t → Steps p.tables e below (s₁.setTop (entryFrame m #[(.int p0), (.int p1), (.int p2), (.int p3), (.int p4), (.int p5)] maxLocals)) t := by
        intro t kt
        refine ck453 _ ?_
        refine XS.ifYes X450.here hx rfl (pc0 := 369) (pc' := 417) rfl (hb hby at_369) rfl ((if0 _ _).trans (teq hc369_452).1) (by decide) (by decide) ?_
        refine XS.iconst X450.here hx rfl (hb hby at_417) ?_
        refine XS.goto X450.here hx rfl (pc0 := 418) (pc' := 422) rfl (hb hby at_418) (by decide) (by decide) ?_
        refine XS.istore X450.here hx rfl (hb hby at_422) rfl (l' := #[.val (.int p0), .val (.int p1), .val (.int p2), .val (.int p3), .val (.int p4), .val (.int p5), .val (.int (3 : Int32)), .val (.int sm), .val (.long lim), .second, .val (.long C0), .second, .val (.long C1), .second, .val (.long C2), .second, .val (.long C3), .second, .val (.int (2 : Int32)), .val (.ref b428), .val (.int (((p5.toUInt32 >>> ((4 : Int32) &&& 31).toUInt32).toInt32) &&& (3 : Int32))), .val (.long pk), .second, .val (.int qq), .val (.ref aS), .val (.int (1 : Int32))]) rfl ?_
        exact kt
      rcases hB with hB | ⟨bb, kb, zb, gb, hB, B_b, hzb, hS⟩
      · -- bits: S
        have d_hc369_452 := own_eq_lc hc369_452
        obtain ⟨cq455, kq455, q455a, q455b, q455c⟩ := isOf hZ e450 (ES)
        obtain ⟨_, _, ⟨T455, L455, k455, n455⟩, -, X455, ⟨Lc455, hQ455, l455, y455, z455⟩, st455⟩ := X450.virtualBack hx (y := (⟨"com/example/cubelet/cubelet/CellStore$Step", "takes", "(I)Z"⟩ : MethodName)) (z := (⟨"com/example/cubelet/cubelet/CellStore$Step", "takes", "(I)Z"⟩ : MethodName)) hown (mvT hZ (own_q hw 29 rfl)) (mvT hZ (own_q hw 30 rfl)) (notFace_of_selects (args := #[]) (mvT hZ (own_q hw 32 rfl))) (mvT hZ (own_q hw 32 rfl)) (mvT hZ (own_q hw 31 rfl)) (by decide) (backOf (W := 0) (rm_tkS_2 l Z a0 hw [] aS qq T450.heap n0 (Nat.le_trans Z0 EX450.1) b428 k428 ic0 ic1 Fx451 ⟨by omega, by omega⟩ FcS hB (1 : Int32) ⟨fun _ => rfl, fun z => absurd (by omega) z⟩) hZ (own_q hw 33 rfl) (own_q hw 8 rfl) (by decide) (by decide)) q455a q455c (g := (mkF m 428 #[.val (.int p0), .val (.int p1), .val (.int p2), .val (.int p3), .val (.int p4), .val (.int p5), .val (.int (3 : Int32)), .val (.int sm), .val (.long lim), .second, .val (.long C0), .second, .val (.long C1), .second, .val (.long C2), .second, .val (.long C3), .second, .val (.int (2 : Int32)), .val (.ref b428), .val (.int (((p5.toUInt32 >>> ((4 : Int32) &&& 31).toUInt32).toInt32) &&& (3 : Int32))), .val (.long pk), .second, .val (.int qq), .val (.ref aS), .val (.int (1 : Int32))] [(.int qq), (.ref aS)])) rfl (by rw [hml]; rfl) (Steps.refl _) (argsL := [(.int qq)]) (rest := []) (lenOf pd_219 rfl) rfl (by show 2 * 0 + _ ≤ _; exact Nat.le_of_eq rfl) (hb hby at_428) (fun _ _ => ⟨rfl, e450, (by decide : 3 + 0 ≤ _), (by decide : 40 + 0 ≤ _)⟩)
        dsimp only [Pt.U, Pt.locs, Pt.cells, Pt.slots] at X455 l455 y455 z455 st455 hQ455
        subst l455 y455 z455
        obtain ⟨rfl, N455q, e455⟩ := hQ455
        have N455 := Fr.app N450 N455q
        obtain ⟨fs, hr, hrun, hended, hW, hsame⟩ := X455.leave (v := some (.int (1 : Int32))) (fun h => by rw [Bd.returns] at h; cases h)
        refine ⟨_, _, ck454 _ ?_, hrun, hended, _, _, rfl, ?_, ⟨_, rfl⟩, hW, hsame.mono (by decide) (by decide)⟩
        · refine XS.aload X450.here hx rfl (hb hby at_424) rfl rfl ?_
          refine XS.iload X450.here hx rfl (hb hby at_426) rfl ?_
          refine st455.trans ?_
          show Steps p.tables e below (T455.setTop (mkF m 431 #[.val (.int p0), .val (.int p1), .val (.int p2), .val (.int p3), .val (.int p4), .val (.int p5), .val (.int (3 : Int32)), .val (.int sm), .val (.long lim), .second, .val (.long C0), .second, .val (.long C1), .second, .val (.long C2), .second, .val (.long C3), .second, .val (.int (2 : Int32)), .val (.ref b428), .val (.int (((p5.toUInt32 >>> ((4 : Int32) &&& 31).toUInt32).toInt32) &&& (3 : Int32))), .val (.long pk), .second, .val (.int qq), .val (.ref aS), .val (.int (1 : Int32))] [(.int (1 : Int32))])) _
          refine XS.iload X455.here hx rfl (hb hby at_431) rfl ?_
          refine XS.icmpNo X455.here hx rfl (hb hby at_433) rfl (teq (by decide : (1 : Int32) = (1 : Int32))).2 ?_
          refine XS.iconst X455.here hx rfl (hb hby at_436) ?_
          refine XS.goto X455.here hx rfl (pc0 := 437) (pc' := 441) rfl (hb hby at_437) (by decide) (by decide) ?_
          exact retN X455 hx (t := .boolean) Bd.returns (by simp) (hb hby at_441) hr
        · show own_Made (some (.int 1)) n0 _ T455.heap _
          rw [e455]
          exact ⟨rfl, N455, trivial⟩
      · -- bits: B
        have d_hc369_452 := own_eq_lc hc369_452
        obtain ⟨cq456, kq456, q456a, q456b, q456c⟩ := isOf hZ e450 (ES)
        obtain ⟨_, _, ⟨T456, L456, k456, n456⟩, -, X456, ⟨Lc456, hQ456, l456, y456, z456⟩, st456⟩ := X450.virtualBack hx (y := (⟨"com/example/cubelet/cubelet/CellStore$Step", "takes", "(I)Z"⟩ : MethodName)) (z := (⟨"com/example/cubelet/cubelet/CellStore$Step", "takes", "(I)Z"⟩ : MethodName)) hown (mvT hZ (own_q hw 29 rfl)) (mvT hZ (own_q hw 30 rfl)) (notFace_of_selects (args := #[]) (mvT hZ (own_q hw 32 rfl))) (mvT hZ (own_q hw 32 rfl)) (mvT hZ (own_q hw 31 rfl)) (by decide) (backOf (W := 0) (rm_tkB_2 l Z a0 hw [] aS qq T450.heap n0 (Nat.le_trans Z0 EX450.1) b428 k428 ic0 ic1 Fx451 ⟨by omega, by omega⟩ FcS bb kb zb gb hB B_b (by rw [hzb]) hS hqq (1 : Int32) ⟨fun _ => rfl, fun z => absurd (by omega) z⟩) hZ (own_q hw 33 rfl) (own_q hw 8 rfl) (by decide) (by decide)) q456a q456c (g := (mkF m 428 #[.val (.int p0), .val (.int p1), .val (.int p2), .val (.int p3), .val (.int p4), .val (.int p5), .val (.int (3 : Int32)), .val (.int sm), .val (.long lim), .second, .val (.long C0), .second, .val (.long C1), .second, .val (.long C2), .second, .val (.long C3), .second, .val (.int (2 : Int32)), .val (.ref b428), .val (.int (((p5.toUInt32 >>> ((4 : Int32) &&& 31).toUInt32).toInt32) &&& (3 : Int32))), .val (.long pk), .second, .val (.int qq), .val (.ref aS), .val (.int (1 : Int32))] [(.int qq), (.ref aS)])) rfl (by rw [hml]; rfl) (Steps.refl _) (argsL := [(.int qq)]) (rest := []) (lenOf pd_219 rfl) rfl (by show 2 * 0 + _ ≤ _; exact Nat.le_of_eq rfl) (hb hby at_428) (fun _ _ => ⟨rfl, e450, (by decide : 3 + 0 ≤ _), (by decide : 40 + 0 ≤ _)⟩)
        dsimp only [Pt.U, Pt.locs, Pt.cells, Pt.slots] at X456 l456 y456 z456 st456 hQ456
        subst l456 y456 z456
        obtain ⟨rfl, N456q, e456⟩ := hQ456
        have N456 := Fr.app N450 N456q
        obtain ⟨fs, hr, hrun, hended, hW, hsame⟩ := X456.leave (v := some (.int (1 : Int32))) (fun h => by rw [Bd.returns] at h; cases h)
        refine ⟨_, _, ck454 _ ?_, hrun, hended, _, _, rfl, ?_, ⟨_, rfl⟩, hW, hsame.mono (by decide) (by decide)⟩
        · refine XS.aload X450.here hx rfl (hb hby at_424) rfl rfl ?_
          refine XS.iload X450.here hx rfl (hb hby at_426) rfl ?_
          refine st456.trans ?_
          show Steps p.tables e below (T456.setTop (mkF m 431 #[.val (.int p0), .val (.int p1), .val (.int p2), .val (.int p3), .val (.int p4), .val (.int p5), .val (.int (3 : Int32)), .val (.int sm), .val (.long lim), .second, .val (.long C0), .second, .val (.long C1), .second, .val (.long C2), .second, .val (.long C3), .second, .val (.int (2 : Int32)), .val (.ref b428), .val (.int (((p5.toUInt32 >>> ((4 : Int32) &&& 31).toUInt32).toInt32) &&& (3 : Int32))), .val (.long pk), .second, .val (.int qq), .val (.ref aS), .val (.int (1 : Int32))] [(.int (1 : Int32))])) _
          refine XS.iload X456.here hx rfl (hb hby at_431) rfl ?_
          refine XS.icmpNo X456.here hx rfl (hb hby at_433) rfl (teq (by decide : (1 : Int32) = (1 : Int32))).2 ?_
          refine XS.iconst X456.here hx rfl (hb hby at_436) ?_
          refine XS.goto X456.here hx rfl (pc0 := 437) (pc' := 441) rfl (hb hby at_437) (by decide) (by decide) ?_
          exact retN X456 hx (t := .boolean) Bd.returns (by simp) (hb hby at_441) hr
        · show own_Made (some (.int 1)) n0 _ T456.heap _
          rw [e456]
          exact ⟨rfl, N456, trivial⟩
    · -- pc 369: no
      have ck458 : ∀ t, Steps p.tables e below (T450.setTop (mkF m 384 #[.val (.int p0), .val (.int p1), .val (.int p2), .val (.int p3), .val (.int p4), .val (.int p5), .val (.int (3 : Int32)), .val (.int sm), .val (.long lim), .second, .val (.long C0), .second, .val (.long C1), .second, .val (.long C2), .second, .val (.long C3), .second, .val (.int (2 : Int32)), .val (.ref b428), .val (.int (((p5.toUInt32 >>> ((4 : Int32) &&& 31).toUInt32).toInt32) &&& (3 : Int32))), .val (.long pk), .second, .val (.int qq), .val (.ref aS), .unset] [(.int (lcmpW (qq.toInt64) C1))])) t → Steps p.tables e below (s₁.setTop (entryFrame m #[(.int p0), (.int p1), (.int p2), (.int p3), (.int p4), (.int p5)] maxLocals)) t := by
        intro t kt
        refine ck453 _ ?_
        refine XS.ifNo X450.here hx rfl (hb hby at_369) rfl ((if0 _ _).trans (feq hc369_452).1) ?_
        refine XS.iload X450.here hx rfl (hb hby at_372) rfl ?_
        refine XS.iconst X450.here hx rfl (hb hby at_374) ?_
        refine XS.icmpNo X450.here hx rfl (hb hby at_375) rfl (flt (by decide : ¬ ((2 : Int32) < (2 : Int32)))).1 ?_
        refine XS.iload X450.here hx rfl (hb hby at_378) rfl ?_
        refine XS.i2l X450.here hx rfl (hb hby at_380) rfl ?_
        refine XS.lload X450.here hx rfl (hb hby at_381) rfl ?_
        refine XS.lcmp X450.here hx rfl (hb hby at_383) rfl ?_
        exact kt
      by_cases hc384_457 : (lcmpW (qq.toInt64) C1) = (0 : Int32)
      · -- pc 384: yes
        have ck459 : ∀ t, Steps p.tables e below (T450.setTop (mkF m 424 #[.val (.int p0), .val (.int p1), .val (.int p2), .val (.int p3), .val (.int p4), .val (.int p5), .val (.int (3 : Int32)), .val (.int sm), .val (.long lim), .second, .val (.long C0), .second, .val (.long C1), .second, .val (.long C2), .second, .val (.long C3), .second, .val (.int (2 : Int32)), .val (.ref b428), .val (.int (((p5.toUInt32 >>> ((4 : Int32) &&& 31).toUInt32).toInt32) &&& (3 : Int32))), .val (.long pk), .second, .val (.int qq), .val (.ref aS), .val (.int (1 : Int32))] [])) t → Steps p.tables e below (s₁.setTop (entryFrame m #[(.int p0), (.int p1), (.int p2), (.int p3), (.int p4), (.int p5)] maxLocals)) t := by
          intro t kt
          refine ck458 _ ?_
          refine XS.ifYes X450.here hx rfl (pc0 := 384) (pc' := 417) rfl (hb hby at_384) rfl ((if0 _ _).trans (teq hc384_457).1) (by decide) (by decide) ?_
          refine XS.iconst X450.here hx rfl (hb hby at_417) ?_
          refine XS.goto X450.here hx rfl (pc0 := 418) (pc' := 422) rfl (hb hby at_418) (by decide) (by decide) ?_
          refine XS.istore X450.here hx rfl (hb hby at_422) rfl (l' := #[.val (.int p0), .val (.int p1), .val (.int p2), .val (.int p3), .val (.int p4), .val (.int p5), .val (.int (3 : Int32)), .val (.int sm), .val (.long lim), .second, .val (.long C0), .second, .val (.long C1), .second, .val (.long C2), .second, .val (.long C3), .second, .val (.int (2 : Int32)), .val (.ref b428), .val (.int (((p5.toUInt32 >>> ((4 : Int32) &&& 31).toUInt32).toInt32) &&& (3 : Int32))), .val (.long pk), .second, .val (.int qq), .val (.ref aS), .val (.int (1 : Int32))]) rfl ?_
          exact kt
        rcases hB with hB | ⟨bb, kb, zb, gb, hB, B_b, hzb, hS⟩
        · -- bits: S
          have d_hc369_452 := own_ne_lc hc369_452
          have d_hc384_457 := own_eq_lc hc384_457
          obtain ⟨cq460, kq460, q460a, q460b, q460c⟩ := isOf hZ e450 (ES)
          obtain ⟨_, _, ⟨T460, L460, k460, n460⟩, -, X460, ⟨Lc460, hQ460, l460, y460, z460⟩, st460⟩ := X450.virtualBack hx (y := (⟨"com/example/cubelet/cubelet/CellStore$Step", "takes", "(I)Z"⟩ : MethodName)) (z := (⟨"com/example/cubelet/cubelet/CellStore$Step", "takes", "(I)Z"⟩ : MethodName)) hown (mvT hZ (own_q hw 29 rfl)) (mvT hZ (own_q hw 30 rfl)) (notFace_of_selects (args := #[]) (mvT hZ (own_q hw 32 rfl))) (mvT hZ (own_q hw 32 rfl)) (mvT hZ (own_q hw 31 rfl)) (by decide) (backOf (W := 0) (rm_tkS_2 l Z a0 hw [] aS qq T450.heap n0 (Nat.le_trans Z0 EX450.1) b428 k428 ic0 ic1 Fx451 ⟨by omega, by omega⟩ FcS hB (1 : Int32) ⟨fun _ => rfl, fun z => absurd (by omega) z⟩) hZ (own_q hw 33 rfl) (own_q hw 8 rfl) (by decide) (by decide)) q460a q460c (g := (mkF m 428 #[.val (.int p0), .val (.int p1), .val (.int p2), .val (.int p3), .val (.int p4), .val (.int p5), .val (.int (3 : Int32)), .val (.int sm), .val (.long lim), .second, .val (.long C0), .second, .val (.long C1), .second, .val (.long C2), .second, .val (.long C3), .second, .val (.int (2 : Int32)), .val (.ref b428), .val (.int (((p5.toUInt32 >>> ((4 : Int32) &&& 31).toUInt32).toInt32) &&& (3 : Int32))), .val (.long pk), .second, .val (.int qq), .val (.ref aS), .val (.int (1 : Int32))] [(.int qq), (.ref aS)])) rfl (by rw [hml]; rfl) (Steps.refl _) (argsL := [(.int qq)]) (rest := []) (lenOf pd_219 rfl) rfl (by show 2 * 0 + _ ≤ _; exact Nat.le_of_eq rfl) (hb hby at_428) (fun _ _ => ⟨rfl, e450, (by decide : 3 + 0 ≤ _), (by decide : 40 + 0 ≤ _)⟩)
          dsimp only [Pt.U, Pt.locs, Pt.cells, Pt.slots] at X460 l460 y460 z460 st460 hQ460
          subst l460 y460 z460
          obtain ⟨rfl, N460q, e460⟩ := hQ460
          have N460 := Fr.app N450 N460q
          obtain ⟨fs, hr, hrun, hended, hW, hsame⟩ := X460.leave (v := some (.int (1 : Int32))) (fun h => by rw [Bd.returns] at h; cases h)
          refine ⟨_, _, ck459 _ ?_, hrun, hended, _, _, rfl, ?_, ⟨_, rfl⟩, hW, hsame.mono (by decide) (by decide)⟩
          · refine XS.aload X450.here hx rfl (hb hby at_424) rfl rfl ?_
            refine XS.iload X450.here hx rfl (hb hby at_426) rfl ?_
            refine st460.trans ?_
            show Steps p.tables e below (T460.setTop (mkF m 431 #[.val (.int p0), .val (.int p1), .val (.int p2), .val (.int p3), .val (.int p4), .val (.int p5), .val (.int (3 : Int32)), .val (.int sm), .val (.long lim), .second, .val (.long C0), .second, .val (.long C1), .second, .val (.long C2), .second, .val (.long C3), .second, .val (.int (2 : Int32)), .val (.ref b428), .val (.int (((p5.toUInt32 >>> ((4 : Int32) &&& 31).toUInt32).toInt32) &&& (3 : Int32))), .val (.long pk), .second, .val (.int qq), .val (.ref aS), .val (.int (1 : Int32))] [(.int (1 : Int32))])) _
            refine XS.iload X460.here hx rfl (hb hby at_431) rfl ?_
            refine XS.icmpNo X460.here hx rfl (hb hby at_433) rfl (teq (by decide : (1 : Int32) = (1 : Int32))).2 ?_
            refine XS.iconst X460.here hx rfl (hb hby at_436) ?_
            refine XS.goto X460.here hx rfl (pc0 := 437) (pc' := 441) rfl (hb hby at_437) (by decide) (by decide) ?_
            exact retN X460 hx (t := .boolean) Bd.returns (by simp) (hb hby at_441) hr
          · show own_Made (some (.int 1)) n0 _ T460.heap _
            rw [e460]
            exact ⟨rfl, N460, trivial⟩
        · -- bits: B
          have d_hc369_452 := own_ne_lc hc369_452
          have d_hc384_457 := own_eq_lc hc384_457
          obtain ⟨cq461, kq461, q461a, q461b, q461c⟩ := isOf hZ e450 (ES)
          obtain ⟨_, _, ⟨T461, L461, k461, n461⟩, -, X461, ⟨Lc461, hQ461, l461, y461, z461⟩, st461⟩ := X450.virtualBack hx (y := (⟨"com/example/cubelet/cubelet/CellStore$Step", "takes", "(I)Z"⟩ : MethodName)) (z := (⟨"com/example/cubelet/cubelet/CellStore$Step", "takes", "(I)Z"⟩ : MethodName)) hown (mvT hZ (own_q hw 29 rfl)) (mvT hZ (own_q hw 30 rfl)) (notFace_of_selects (args := #[]) (mvT hZ (own_q hw 32 rfl))) (mvT hZ (own_q hw 32 rfl)) (mvT hZ (own_q hw 31 rfl)) (by decide) (backOf (W := 0) (rm_tkB_2 l Z a0 hw [] aS qq T450.heap n0 (Nat.le_trans Z0 EX450.1) b428 k428 ic0 ic1 Fx451 ⟨by omega, by omega⟩ FcS bb kb zb gb hB B_b (by rw [hzb]) hS hqq (1 : Int32) ⟨fun _ => rfl, fun z => absurd (by omega) z⟩) hZ (own_q hw 33 rfl) (own_q hw 8 rfl) (by decide) (by decide)) q461a q461c (g := (mkF m 428 #[.val (.int p0), .val (.int p1), .val (.int p2), .val (.int p3), .val (.int p4), .val (.int p5), .val (.int (3 : Int32)), .val (.int sm), .val (.long lim), .second, .val (.long C0), .second, .val (.long C1), .second, .val (.long C2), .second, .val (.long C3), .second, .val (.int (2 : Int32)), .val (.ref b428), .val (.int (((p5.toUInt32 >>> ((4 : Int32) &&& 31).toUInt32).toInt32) &&& (3 : Int32))), .val (.long pk), .second, .val (.int qq), .val (.ref aS), .val (.int (1 : Int32))] [(.int qq), (.ref aS)])) rfl (by rw [hml]; rfl) (Steps.refl _) (argsL := [(.int qq)]) (rest := []) (lenOf pd_219 rfl) rfl (by show 2 * 0 + _ ≤ _; exact Nat.le_of_eq rfl) (hb hby at_428) (fun _ _ => ⟨rfl, e450, (by decide : 3 + 0 ≤ _), (by decide : 40 + 0 ≤ _)⟩)
          dsimp only [Pt.U, Pt.locs, Pt.cells, Pt.slots] at X461 l461 y461 z461 st461 hQ461
          subst l461 y461 z461
          obtain ⟨rfl, N461q, e461⟩ := hQ461
          have N461 := Fr.app N450 N461q
          obtain ⟨fs, hr, hrun, hended, hW, hsame⟩ := X461.leave (v := some (.int (1 : Int32))) (fun h => by rw [Bd.returns] at h; cases h)
          refine ⟨_, _, ck459 _ ?_, hrun, hended, _, _, rfl, ?_, ⟨_, rfl⟩, hW, hsame.mono (by decide) (by decide)⟩
          · refine XS.aload X450.here hx rfl (hb hby at_424) rfl rfl ?_
            refine XS.iload X450.here hx rfl (hb hby at_426) rfl ?_
            refine st461.trans ?_
            show Steps p.tables e below (T461.setTop (mkF m 431 #[.val (.int p0), .val (.int p1), .val (.int p2), .val (.int p3), .val (.int p4), .val (.int p5), .val (.int (3 : Int32)), .val (.int sm), .val (.long lim), .second, .val (.long C0), .second, .val (.long C1), .second, .val (.long C2), .second, .val (.long C3), .second, .val (.int (2 : Int32)), .val (.ref b428), .val (.int (((p5.toUInt32 >>> ((4 : Int32) &&& 31).toUInt32).toInt32) &&& (3 : Int32))), .val (.long pk), .second, .val (.int qq), .val (.ref aS), .val (.int (1 : Int32))] [(.int (1 : Int32))])) _
            refine XS.iload X461.here hx rfl (hb hby at_431) rfl ?_
            refine XS.icmpNo X461.here hx rfl (hb hby at_433) rfl (teq (by decide : (1 : Int32) = (1 : Int32))).2 ?_
            refine XS.iconst X461.here hx rfl (hb hby at_436) ?_
            refine XS.goto X461.here hx rfl (pc0 := 437) (pc' := 441) rfl (hb hby at_437) (by decide) (by decide) ?_
            exact retN X461 hx (t := .boolean) Bd.returns (by simp) (hb hby at_441) hr
          · show own_Made (some (.int 1)) n0 _ T461.heap _
            rw [e461]
            exact ⟨rfl, N461, trivial⟩
      · -- pc 384: no
        have ck462 : ∀ t, Steps p.tables e below (T450.setTop (mkF m 424 #[.val (.int p0), .val (.int p1), .val (.int p2), .val (.int p3), .val (.int p4), .val (.int p5), .val (.int (3 : Int32)), .val (.int sm), .val (.long lim), .second, .val (.long C0), .second, .val (.long C1), .second, .val (.long C2), .second, .val (.long C3), .second, .val (.int (2 : Int32)), .val (.ref b428), .val (.int (((p5.toUInt32 >>> ((4 : Int32) &&& 31).toUInt32).toInt32) &&& (3 : Int32))), .val (.long pk), .second, .val (.int qq), .val (.ref aS), .val (.int (0 : Int32))] [])) t → Steps p.tables e below (s₁.setTop (entryFrame m #[(.int p0), (.int p1), (.int p2), (.int p3), (.int p4), (.int p5)] maxLocals)) t := by
          intro t kt
          refine ck458 _ ?_
          refine XS.ifNo X450.here hx rfl (hb hby at_384) rfl ((if0 _ _).trans (feq hc384_457).1) ?_
          refine XS.iload X450.here hx rfl (hb hby at_387) rfl ?_
          refine XS.iconst X450.here hx rfl (hb hby at_389) ?_
          refine XS.icmpYes X450.here hx rfl (pc0 := 390) (pc' := 402) rfl (hb hby at_390) rfl (tlt (by decide : (2 : Int32) < (3 : Int32))).1 (by decide) (by decide) ?_
          refine XS.iload X450.here hx rfl (hb hby at_402) rfl ?_
          refine XS.iconst X450.here hx rfl (hb hby at_404) ?_
          refine XS.icmpYes X450.here hx rfl (pc0 := 405) (pc' := 421) rfl (hb hby at_405) rfl (tlt (by decide : (2 : Int32) < (4 : Int32))).1 (by decide) (by decide) ?_
          refine XS.iconst X450.here hx rfl (hb hby at_421) ?_
          refine XS.istore X450.here hx rfl (hb hby at_422) rfl (l' := #[.val (.int p0), .val (.int p1), .val (.int p2), .val (.int p3), .val (.int p4), .val (.int p5), .val (.int (3 : Int32)), .val (.int sm), .val (.long lim), .second, .val (.long C0), .second, .val (.long C1), .second, .val (.long C2), .second, .val (.long C3), .second, .val (.int (2 : Int32)), .val (.ref b428), .val (.int (((p5.toUInt32 >>> ((4 : Int32) &&& 31).toUInt32).toInt32) &&& (3 : Int32))), .val (.long pk), .second, .val (.int qq), .val (.ref aS), .val (.int (0 : Int32))]) rfl ?_
          exact kt
        rcases hB with hB | ⟨bb, kb, zb, gb, hB, B_b, hzb, hS⟩
        · -- bits: S
          have d_hc369_452 := own_ne_lc hc369_452
          have d_hc384_457 := own_ne_lc hc384_457
          obtain ⟨cq463, kq463, q463a, q463b, q463c⟩ := isOf hZ e450 (ES)
          obtain ⟨_, _, ⟨T463, L463, k463, n463⟩, -, X463, ⟨Lc463, hQ463, l463, y463, z463⟩, st463⟩ := X450.virtualBack hx (y := (⟨"com/example/cubelet/cubelet/CellStore$Step", "takes", "(I)Z"⟩ : MethodName)) (z := (⟨"com/example/cubelet/cubelet/CellStore$Step", "takes", "(I)Z"⟩ : MethodName)) hown (mvT hZ (own_q hw 29 rfl)) (mvT hZ (own_q hw 30 rfl)) (notFace_of_selects (args := #[]) (mvT hZ (own_q hw 32 rfl))) (mvT hZ (own_q hw 32 rfl)) (mvT hZ (own_q hw 31 rfl)) (by decide) (backOf (W := 0) (rm_tkS_2 l Z a0 hw [] aS qq T450.heap n0 (Nat.le_trans Z0 EX450.1) b428 k428 ic0 ic1 Fx451 ⟨by omega, by omega⟩ FcS hB (0 : Int32) ⟨fun z => absurd z (by omega), fun _ => rfl⟩) hZ (own_q hw 33 rfl) (own_q hw 8 rfl) (by decide) (by decide)) q463a q463c (g := (mkF m 428 #[.val (.int p0), .val (.int p1), .val (.int p2), .val (.int p3), .val (.int p4), .val (.int p5), .val (.int (3 : Int32)), .val (.int sm), .val (.long lim), .second, .val (.long C0), .second, .val (.long C1), .second, .val (.long C2), .second, .val (.long C3), .second, .val (.int (2 : Int32)), .val (.ref b428), .val (.int (((p5.toUInt32 >>> ((4 : Int32) &&& 31).toUInt32).toInt32) &&& (3 : Int32))), .val (.long pk), .second, .val (.int qq), .val (.ref aS), .val (.int (0 : Int32))] [(.int qq), (.ref aS)])) rfl (by rw [hml]; rfl) (Steps.refl _) (argsL := [(.int qq)]) (rest := []) (lenOf pd_219 rfl) rfl (by show 2 * 0 + _ ≤ _; exact Nat.le_of_eq rfl) (hb hby at_428) (fun _ _ => ⟨rfl, e450, (by decide : 3 + 0 ≤ _), (by decide : 40 + 0 ≤ _)⟩)
          dsimp only [Pt.U, Pt.locs, Pt.cells, Pt.slots] at X463 l463 y463 z463 st463 hQ463
          subst l463 y463 z463
          obtain ⟨rfl, N463q, e463⟩ := hQ463
          have N463 := Fr.app N450 N463q
          obtain ⟨fs, hr, hrun, hended, hW, hsame⟩ := X463.leave (v := some (.int (1 : Int32))) (fun h => by rw [Bd.returns] at h; cases h)
          refine ⟨_, _, ck462 _ ?_, hrun, hended, _, _, rfl, ?_, ⟨_, rfl⟩, hW, hsame.mono (by decide) (by decide)⟩
          · refine XS.aload X450.here hx rfl (hb hby at_424) rfl rfl ?_
            refine XS.iload X450.here hx rfl (hb hby at_426) rfl ?_
            refine st463.trans ?_
            show Steps p.tables e below (T463.setTop (mkF m 431 #[.val (.int p0), .val (.int p1), .val (.int p2), .val (.int p3), .val (.int p4), .val (.int p5), .val (.int (3 : Int32)), .val (.int sm), .val (.long lim), .second, .val (.long C0), .second, .val (.long C1), .second, .val (.long C2), .second, .val (.long C3), .second, .val (.int (2 : Int32)), .val (.ref b428), .val (.int (((p5.toUInt32 >>> ((4 : Int32) &&& 31).toUInt32).toInt32) &&& (3 : Int32))), .val (.long pk), .second, .val (.int qq), .val (.ref aS), .val (.int (0 : Int32))] [(.int (0 : Int32))])) _
            refine XS.iload X463.here hx rfl (hb hby at_431) rfl ?_
            refine XS.icmpNo X463.here hx rfl (hb hby at_433) rfl (teq (by decide : (0 : Int32) = (0 : Int32))).2 ?_
            refine XS.iconst X463.here hx rfl (hb hby at_436) ?_
            refine XS.goto X463.here hx rfl (pc0 := 437) (pc' := 441) rfl (hb hby at_437) (by decide) (by decide) ?_
            exact retN X463 hx (t := .boolean) Bd.returns (by simp) (hb hby at_441) hr
          · show own_Made (some (.int 1)) n0 _ T463.heap _
            rw [e463]
            exact ⟨rfl, N463, trivial⟩
        · -- bits: B
          have d_hc369_452 := own_ne_lc hc369_452
          have d_hc384_457 := own_ne_lc hc384_457
          obtain ⟨cq464, kq464, q464a, q464b, q464c⟩ := isOf hZ e450 (ES)
          obtain ⟨_, _, ⟨T464, L464, k464, n464⟩, -, X464, ⟨Lc464, hQ464, l464, y464, z464⟩, st464⟩ := X450.virtualBack hx (y := (⟨"com/example/cubelet/cubelet/CellStore$Step", "takes", "(I)Z"⟩ : MethodName)) (z := (⟨"com/example/cubelet/cubelet/CellStore$Step", "takes", "(I)Z"⟩ : MethodName)) hown (mvT hZ (own_q hw 29 rfl)) (mvT hZ (own_q hw 30 rfl)) (notFace_of_selects (args := #[]) (mvT hZ (own_q hw 32 rfl))) (mvT hZ (own_q hw 32 rfl)) (mvT hZ (own_q hw 31 rfl)) (by decide) (backOf (W := 0) (rm_tkB_2 l Z a0 hw [] aS qq T450.heap n0 (Nat.le_trans Z0 EX450.1) b428 k428 ic0 ic1 Fx451 ⟨by omega, by omega⟩ FcS bb kb zb gb hB B_b (by rw [hzb]) hS hqq (0 : Int32) ⟨fun z => absurd z (by omega), fun _ => rfl⟩) hZ (own_q hw 33 rfl) (own_q hw 8 rfl) (by decide) (by decide)) q464a q464c (g := (mkF m 428 #[.val (.int p0), .val (.int p1), .val (.int p2), .val (.int p3), .val (.int p4), .val (.int p5), .val (.int (3 : Int32)), .val (.int sm), .val (.long lim), .second, .val (.long C0), .second, .val (.long C1), .second, .val (.long C2), .second, .val (.long C3), .second, .val (.int (2 : Int32)), .val (.ref b428), .val (.int (((p5.toUInt32 >>> ((4 : Int32) &&& 31).toUInt32).toInt32) &&& (3 : Int32))), .val (.long pk), .second, .val (.int qq), .val (.ref aS), .val (.int (0 : Int32))] [(.int qq), (.ref aS)])) rfl (by rw [hml]; rfl) (Steps.refl _) (argsL := [(.int qq)]) (rest := []) (lenOf pd_219 rfl) rfl (by show 2 * 0 + _ ≤ _; exact Nat.le_of_eq rfl) (hb hby at_428) (fun _ _ => ⟨rfl, e450, (by decide : 3 + 0 ≤ _), (by decide : 40 + 0 ≤ _)⟩)
          dsimp only [Pt.U, Pt.locs, Pt.cells, Pt.slots] at X464 l464 y464 z464 st464 hQ464
          subst l464 y464 z464
          obtain ⟨rfl, N464q, e464⟩ := hQ464
          have N464 := Fr.app N450 N464q
          obtain ⟨fs, hr, hrun, hended, hW, hsame⟩ := X464.leave (v := some (.int (1 : Int32))) (fun h => by rw [Bd.returns] at h; cases h)
          refine ⟨_, _, ck462 _ ?_, hrun, hended, _, _, rfl, ?_, ⟨_, rfl⟩, hW, hsame.mono (by decide) (by decide)⟩
          · refine XS.aload X450.here hx rfl (hb hby at_424) rfl rfl ?_
            refine XS.iload X450.here hx rfl (hb hby at_426) rfl ?_
            refine st464.trans ?_
            show Steps p.tables e below (T464.setTop (mkF m 431 #[.val (.int p0), .val (.int p1), .val (.int p2), .val (.int p3), .val (.int p4), .val (.int p5), .val (.int (3 : Int32)), .val (.int sm), .val (.long lim), .second, .val (.long C0), .second, .val (.long C1), .second, .val (.long C2), .second, .val (.long C3), .second, .val (.int (2 : Int32)), .val (.ref b428), .val (.int (((p5.toUInt32 >>> ((4 : Int32) &&& 31).toUInt32).toInt32) &&& (3 : Int32))), .val (.long pk), .second, .val (.int qq), .val (.ref aS), .val (.int (0 : Int32))] [(.int (0 : Int32))])) _
            refine XS.iload X464.here hx rfl (hb hby at_431) rfl ?_
            refine XS.icmpNo X464.here hx rfl (hb hby at_433) rfl (teq (by decide : (0 : Int32) = (0 : Int32))).2 ?_
            refine XS.iconst X464.here hx rfl (hb hby at_436) ?_
            refine XS.goto X464.here hx rfl (pc0 := 437) (pc' := 441) rfl (hb hby at_437) (by decide) (by decide) ?_
            exact retN X464 hx (t := .boolean) Bd.returns (by simp) (hb hby at_441) hr
          · show own_Made (some (.int 1)) n0 _ T464.heap _
            rw [e464]
            exact ⟨rfl, N464, trivial⟩
  · -- flags & 7 is 4
    obtain rfl : (4 : Int32) = n7 := hn.symm.trans h_n7
    obtain ⟨_, _, ⟨T465, L465, k465, n465⟩, -, X465, ⟨Lc465, hQ465, l465, y465, z465⟩, st465⟩ := Jvm.LawKit.callS X355 hx (y := (⟨"java/lang/Math", "min", "(II)I"⟩ : MethodName)) hown (mvT hZ (own_q hw 1 rfl)) (mvT hZ (own_q hw 2 rfl)) (mvT hZ (own_q hw 3 rfl)) (mvT hZ (own_q hw 4 rfl)) (by decide) (backOf (W := 0) (rm_minI l Z a0 hw [] (3 : Int32) (4 : Int32) h0 n0 Z0 (3 : Int32) (by decide)) hZ (own_q hw 4 rfl) (own_q hw 3 rfl) (by decide) (by decide)) (g := (mkF m 122 #[.val (.int p0), .val (.int p1), .val (.int p2), .val (.int p3), .val (.int p4), .val (.int p5), .val (.int (4 : Int32)), .val (.int sm), .val (.long lim), .second, .val (.long C0), .second, .val (.long C1), .second, .val (.long C2), .second, .val (.long C3), .second, .unset, .unset, .unset, .unset, .unset, .unset, .unset, .unset] [(.int (4 : Int32)), (.int (3 : Int32))])) rfl (by rw [hml]; rfl) (argsL := [(.int (3 : Int32)), (.int (4 : Int32))]) (rest := []) (lenOf pd_220 rfl) rfl (by show 2 * 0 + _ ≤ _; exact Nat.le_of_eq rfl) (hb hby at_122) (fun _ _ => ⟨rfl, e355, (by decide : 0 + 0 ≤ _), (by decide : 0 + 0 ≤ _)⟩)
    dsimp only [Pt.U, Pt.locs, Pt.cells, Pt.slots] at X465 l465 y465 z465 st465 hQ465
    subst l465 y465 z465
    obtain ⟨rfl, N465q, e465⟩ := hQ465
    have N465 := Fr.app N355 N465q
    obtain ⟨T466, h466, k466, X466, e466, E466, A466, st466⟩ := newP X465 hx hZ (own_q hw 5 rfl) e465 (g := (mkF m 196 #[.val (.int p0), .val (.int p1), .val (.int p2), .val (.int p3), .val (.int p4), .val (.int p5), .val (.int (4 : Int32)), .val (.int sm), .val (.long lim), .second, .val (.long C0), .second, .val (.long C1), .second, .val (.long C2), .second, .val (.long C3), .second, .val (.int (3 : Int32)), .val .null, .unset, .unset, .unset, .unset, .unset, .unset] [(.int (3 : Int32))])) rfl (hb hby at_196) rfl (by decide) (cap := 3) (by decide) (by decide) (by decide) (by decide)
    obtain ⟨b466, g466⟩ : ∃ z, z = h0.size := ⟨_, rfl⟩
    rw [← g466] at A466 st466
    have sz_b466 : h0.size ≤ b466 := Nat.le_trans (Keep.refl h0 []).1 (Nat.le_of_eq g466.symm)
    have gn_b466 : n0 ≤ b466 := Nat.le_trans Z0 sz_b466
    have EX466 := own_ext_trans (own_ext_refl h0) E466
    have KP466 := Keep.ext (Keep.refl h0 []) E466
    have V466 : Arv Z h466 b466 k466 .int (3 : Int32) [(.int (0 : Int32)), (.int (0 : Int32)), (.int (0 : Int32))] (.int (0 : Int32)) := (Arv.new A466 (by decide)).pad (pad_rep [] (.int (0 : Int32)) 3)
    obtain ⟨ic0, h_ic0⟩ : ∃ zQ : Int32, (C0.toInt32) = zQ := ⟨_, rfl⟩
    have hic0 : ic0.toInt = C0.toInt := by rw [← h_ic0]; exact own_ic (by omega)
    have Vc467 := V466
    obtain ⟨cl467, Ar467, q467, S467, N467_, H467_, G467⟩ := Vc467
    have hin467 : ¬ ((0 : Int32) < 0 ∨ cl467.slots.size ≤ ((0 : Int32)).toNatClampNeg) := inb_of S467 ⟨by decide, by decide⟩
    obtain ⟨T468, h468, X468, e468, W468, st468⟩ := stI X466 hx hZ e466 Ar467 (j := (0 : Int32)) hin467 (g := (mkF m 203 #[.val (.int p0), .val (.int p1), .val (.int p2), .val (.int p3), .val (.int p4), .val (.int p5), .val (.int (4 : Int32)), .val (.int sm), .val (.long lim), .second, .val (.long C0), .second, .val (.long C1), .second, .val (.long C2), .second, .val (.long C3), .second, .val (.int (3 : Int32)), .val .null, .unset, .unset, .unset, .unset, .unset, .unset] [(.int ic0), (.int (0 : Int32)), (.ref b466), (.ref b466)])) rfl rfl (hb hby at_203)
    have EX468 := own_ext_wr EX466 W468 sz_b466
    have KP468 := Keep.wr KP466 W468 (Or.inr sz_b466)
    have V468 : Arv Z h468 b466 k466 .int (3 : Int32) [(.int ic0), (.int (0 : Int32)), (.int (0 : Int32))] (.int (0 : Int32)) := Arv.set Ar467 q467 S467 N467_ H467_ G467 rfl W468 0 rfl (Nat.le_of_ble_eq_true rfl)
    have N468 := Fr.snoc X468 N465 gn_b466
    obtain ⟨ic1, h_ic1⟩ : ∃ zQ : Int32, (C1.toInt32) = zQ := ⟨_, rfl⟩
    have hic1 : ic1.toInt = C1.toInt := by rw [← h_ic1]; exact own_ic (by omega)
    have Vc469 := V468
    obtain ⟨cl469, Ar469, q469, S469, N469_, H469_, G469⟩ := Vc469
    have hin469 : ¬ ((1 : Int32) < 0 ∨ cl469.slots.size ≤ ((1 : Int32)).toNatClampNeg) := inb_of S469 ⟨by decide, by decide⟩
    obtain ⟨T470, h470, X470, e470, W470, st470⟩ := stI X468 hx hZ e468 Ar469 (j := (1 : Int32)) hin469 (g := (mkF m 209 #[.val (.int p0), .val (.int p1), .val (.int p2), .val (.int p3), .val (.int p4), .val (.int p5), .val (.int (4 : Int32)), .val (.int sm), .val (.long lim), .second, .val (.long C0), .second, .val (.long C1), .second, .val (.long C2), .second, .val (.long C3), .second, .val (.int (3 : Int32)), .val .null, .unset, .unset, .unset, .unset, .unset, .unset] [(.int ic1), (.int (1 : Int32)), (.ref b466), (.ref b466)])) rfl rfl (hb hby at_209)
    have EX470 := own_ext_wr EX468 W470 sz_b466
    have KP470 := Keep.wr KP468 W470 (Or.inr sz_b466)
    have V470 : Arv Z h470 b466 k466 .int (3 : Int32) [(.int ic0), (.int ic1), (.int (0 : Int32))] (.int (0 : Int32)) := Arv.set Ar469 q469 S469 N469_ H469_ G469 rfl W470 1 rfl (Nat.le_of_ble_eq_true rfl)
    have N470 := Fr.snoc X470 N468 gn_b466
    obtain ⟨ic2, h_ic2⟩ : ∃ zQ : Int32, (C2.toInt32) = zQ := ⟨_, rfl⟩
    have hic2 : ic2.toInt = C2.toInt := by rw [← h_ic2]; exact own_ic (by omega)
    have Vc471 := V470
    obtain ⟨cl471, Ar471, q471, S471, N471_, H471_, G471⟩ := Vc471
    have hin471 : ¬ ((2 : Int32) < 0 ∨ cl471.slots.size ≤ ((2 : Int32)).toNatClampNeg) := inb_of S471 ⟨by decide, by decide⟩
    obtain ⟨T472, h472, X472, e472, W472, st472⟩ := stI X470 hx hZ e470 Ar471 (j := (2 : Int32)) hin471 (g := (mkF m 215 #[.val (.int p0), .val (.int p1), .val (.int p2), .val (.int p3), .val (.int p4), .val (.int p5), .val (.int (4 : Int32)), .val (.int sm), .val (.long lim), .second, .val (.long C0), .second, .val (.long C1), .second, .val (.long C2), .second, .val (.long C3), .second, .val (.int (3 : Int32)), .val .null, .unset, .unset, .unset, .unset, .unset, .unset] [(.int ic2), (.int (2 : Int32)), (.ref b466), (.ref b466)])) rfl rfl (hb hby at_215)
    have EX472 := own_ext_wr EX470 W472 sz_b466
    have KP472 := Keep.wr KP470 W472 (Or.inr sz_b466)
    have V472 : Arv Z h472 b466 k466 .int (3 : Int32) [(.int ic0), (.int ic1), (.int ic2)] (.int (0 : Int32)) := Arv.set Ar471 q471 S471 N471_ H471_ G471 rfl W472 2 rfl (Nat.le_of_ble_eq_true rfl)
    have N472 := Fr.snoc X472 N470 gn_b466
    have ck473 : ∀ t, Steps p.tables e below (T472.setTop (mkF m 264 #[.val (.int p0), .val (.int p1), .val (.int p2), .val (.int p3), .val (.int p4), .val (.int p5), .val (.int (4 : Int32)), .val (.int sm), .val (.long lim), .second, .val (.long C0), .second, .val (.long C1), .second, .val (.long C2), .second, .val (.long C3), .second, .val (.int (3 : Int32)), .val (.ref b466), .val (.int (((p5.toUInt32 >>> ((4 : Int32) &&& 31).toUInt32).toInt32) &&& (3 : Int32))), .unset, .unset, .unset, .unset, .unset] [])) t → Steps p.tables e below (s₁.setTop (entryFrame m #[(.int p0), (.int p1), (.int p2), (.int p3), (.int p4), (.int p5)] maxLocals)) t := by
      intro t kt
      refine ck358 _ ?_
      refine XS.iload X355.here hx rfl (hb hby at_108) rfl ?_
      refine XS.ifYes X355.here hx rfl (pc0 := 110) (pc' := 117) rfl (hb hby at_110) rfl ((if0 _ _).trans (feq (by decide : ¬ ((4 : Int32) = (0 : Int32)))).2) (by decide) (by decide) ?_
      refine XS.iload X355.here hx rfl (hb hby at_117) rfl ?_
      refine XS.iconst X355.here hx rfl (hb hby at_119) ?_
      refine XS.isub X355.here hx rfl (hb hby at_120) rfl ?_
      refine XS.iconst X355.here hx rfl (hb hby at_121) ?_
      refine st465 _ ?_
      show Steps p.tables e below (T465.setTop (mkF m 125 #[.val (.int p0), .val (.int p1), .val (.int p2), .val (.int p3), .val (.int p4), .val (.int p5), .val (.int (4 : Int32)), .val (.int sm), .val (.long lim), .second, .val (.long C0), .second, .val (.long C1), .second, .val (.long C2), .second, .val (.long C3), .second, .unset, .unset, .unset, .unset, .unset, .unset, .unset, .unset] [(.int (3 : Int32))])) _
      refine XS.istore X465.here hx rfl (hb hby at_125) rfl (l' := #[.val (.int p0), .val (.int p1), .val (.int p2), .val (.int p3), .val (.int p4), .val (.int p5), .val (.int (4 : Int32)), .val (.int sm), .val (.long lim), .second, .val (.long C0), .second, .val (.long C1), .second, .val (.long C2), .second, .val (.long C3), .second, .val (.int (3 : Int32)), .unset, .unset, .unset, .unset, .unset, .unset, .unset]) rfl ?_
      refine XS.aconstNull X465.here hx rfl (hb hby at_127) ?_
      refine XS.astore X465.here hx rfl (hb hby at_128) rfl rfl (l' := #[.val (.int p0), .val (.int p1), .val (.int p2), .val (.int p3), .val (.int p4), .val (.int p5), .val (.int (4 : Int32)), .val (.int sm), .val (.long lim), .second, .val (.long C0), .second, .val (.long C1), .second, .val (.long C2), .second, .val (.long C3), .second, .val (.int (3 : Int32)), .val .null, .unset, .unset, .unset, .unset, .unset, .unset]) rfl ?_
      refine XS.iload X465.here hx rfl (hb hby at_130) rfl ?_
      refine XS.ifYes X465.here hx rfl (pc0 := 132) (pc' := 143) rfl (hb hby at_132) rfl ((if0 _ _).trans (feq (by decide : ¬ ((3 : Int32) = (0 : Int32)))).2) (by decide) (by decide) ?_
      refine XS.iload X465.here hx rfl (hb hby at_143) rfl ?_
      refine XS.iconst X465.here hx rfl (hb hby at_145) ?_
      refine XS.icmpYes X465.here hx rfl (pc0 := 146) (pc' := 163) rfl (hb hby at_146) rfl (feq (by decide : ¬ ((3 : Int32) = (1 : Int32)))).2 (by decide) (by decide) ?_
      refine XS.iload X465.here hx rfl (hb hby at_163) rfl ?_
      refine XS.iconst X465.here hx rfl (hb hby at_165) ?_
      refine XS.icmpYes X465.here hx rfl (pc0 := 166) (pc' := 189) rfl (hb hby at_166) rfl (feq (by decide : ¬ ((3 : Int32) = (2 : Int32)))).2 (by decide) (by decide) ?_
      refine XS.iload X465.here hx rfl (hb hby at_189) rfl ?_
      refine XS.iconst X465.here hx rfl (hb hby at_191) ?_
      refine XS.icmpNo X465.here hx rfl (hb hby at_192) rfl (teq (by decide : (3 : Int32) = (3 : Int32))).2 ?_
      refine XS.iconst X465.here hx rfl (hb hby at_195) ?_
      refine st466 _ ?_
      show Steps p.tables e below (T466.setTop (mkF m 198 #[.val (.int p0), .val (.int p1), .val (.int p2), .val (.int p3), .val (.int p4), .val (.int p5), .val (.int (4 : Int32)), .val (.int sm), .val (.long lim), .second, .val (.long C0), .second, .val (.long C1), .second, .val (.long C2), .second, .val (.long C3), .second, .val (.int (3 : Int32)), .val .null, .unset, .unset, .unset, .unset, .unset, .unset] [(.ref b466)])) _
      refine XS.dup X466.here hx rfl (hb hby at_198) rfl rfl ?_
      refine XS.iconst X466.here hx rfl (hb hby at_199) ?_
      refine XS.lload X466.here hx rfl (hb hby at_200) rfl ?_
      refine XS.l2i X466.here hx rfl (hb hby at_202) rfl ?_
      show Steps p.tables e below (T466.setTop (mkF m 203 #[.val (.int p0), .val (.int p1), .val (.int p2), .val (.int p3), .val (.int p4), .val (.int p5), .val (.int (4 : Int32)), .val (.int sm), .val (.long lim), .second, .val (.long C0), .second, .val (.long C1), .second, .val (.long C2), .second, .val (.long C3), .second, .val (.int (3 : Int32)), .val .null, .unset, .unset, .unset, .unset, .unset, .unset] [(.int (C0.toInt32)), (.int (0 : Int32)), (.ref b466), (.ref b466)])) _
      rw [h_ic0]
      show Steps p.tables e below (T466.setTop (mkF m 203 #[.val (.int p0), .val (.int p1), .val (.int p2), .val (.int p3), .val (.int p4), .val (.int p5), .val (.int (4 : Int32)), .val (.int sm), .val (.long lim), .second, .val (.long C0), .second, .val (.long C1), .second, .val (.long C2), .second, .val (.long C3), .second, .val (.int (3 : Int32)), .val .null, .unset, .unset, .unset, .unset, .unset, .unset] [(.int ic0), (.int (0 : Int32)), (.ref b466), (.ref b466)])) _
      refine st468 _ ?_
      show Steps p.tables e below (T468.setTop (mkF m 204 #[.val (.int p0), .val (.int p1), .val (.int p2), .val (.int p3), .val (.int p4), .val (.int p5), .val (.int (4 : Int32)), .val (.int sm), .val (.long lim), .second, .val (.long C0), .second, .val (.long C1), .second, .val (.long C2), .second, .val (.long C3), .second, .val (.int (3 : Int32)), .val .null, .unset, .unset, .unset, .unset, .unset, .unset] [(.ref b466)])) _
      refine XS.dup X468.here hx rfl (hb hby at_204) rfl rfl ?_
      refine XS.iconst X468.here hx rfl (hb hby at_205) ?_
      refine XS.lload X468.here hx rfl (hb hby at_206) rfl ?_
      refine XS.l2i X468.here hx rfl (hb hby at_208) rfl ?_
      show Steps p.tables e below (T468.setTop (mkF m 209 #[.val (.int p0), .val (.int p1), .val (.int p2), .val (.int p3), .val (.int p4), .val (.int p5), .val (.int (4 : Int32)), .val (.int sm), .val (.long lim), .second, .val (.long C0), .second, .val (.long C1), .second, .val (.long C2), .second, .val (.long C3), .second, .val (.int (3 : Int32)), .val .null, .unset, .unset, .unset, .unset, .unset, .unset] [(.int (C1.toInt32)), (.int (1 : Int32)), (.ref b466), (.ref b466)])) _
      rw [h_ic1]
      show Steps p.tables e below (T468.setTop (mkF m 209 #[.val (.int p0), .val (.int p1), .val (.int p2), .val (.int p3), .val (.int p4), .val (.int p5), .val (.int (4 : Int32)), .val (.int sm), .val (.long lim), .second, .val (.long C0), .second, .val (.long C1), .second, .val (.long C2), .second, .val (.long C3), .second, .val (.int (3 : Int32)), .val .null, .unset, .unset, .unset, .unset, .unset, .unset] [(.int ic1), (.int (1 : Int32)), (.ref b466), (.ref b466)])) _
      refine st470 _ ?_
      show Steps p.tables e below (T470.setTop (mkF m 210 #[.val (.int p0), .val (.int p1), .val (.int p2), .val (.int p3), .val (.int p4), .val (.int p5), .val (.int (4 : Int32)), .val (.int sm), .val (.long lim), .second, .val (.long C0), .second, .val (.long C1), .second, .val (.long C2), .second, .val (.long C3), .second, .val (.int (3 : Int32)), .val .null, .unset, .unset, .unset, .unset, .unset, .unset] [(.ref b466)])) _
      refine XS.dup X470.here hx rfl (hb hby at_210) rfl rfl ?_
      refine XS.iconst X470.here hx rfl (hb hby at_211) ?_
      refine XS.lload X470.here hx rfl (hb hby at_212) rfl ?_
      refine XS.l2i X470.here hx rfl (hb hby at_214) rfl ?_
      show Steps p.tables e below (T470.setTop (mkF m 215 #[.val (.int p0), .val (.int p1), .val (.int p2), .val (.int p3), .val (.int p4), .val (.int p5), .val (.int (4 : Int32)), .val (.int sm), .val (.long lim), .second, .val (.long C0), .second, .val (.long C1), .second, .val (.long C2), .second, .val (.long C3), .second, .val (.int (3 : Int32)), .val .null, .unset, .unset, .unset, .unset, .unset, .unset] [(.int (C2.toInt32)), (.int (2 : Int32)), (.ref b466), (.ref b466)])) _
      rw [h_ic2]
      show Steps p.tables e below (T470.setTop (mkF m 215 #[.val (.int p0), .val (.int p1), .val (.int p2), .val (.int p3), .val (.int p4), .val (.int p5), .val (.int (4 : Int32)), .val (.int sm), .val (.long lim), .second, .val (.long C0), .second, .val (.long C1), .second, .val (.long C2), .second, .val (.long C3), .second, .val (.int (3 : Int32)), .val .null, .unset, .unset, .unset, .unset, .unset, .unset] [(.int ic2), (.int (2 : Int32)), (.ref b466), (.ref b466)])) _
      refine st472 _ ?_
      show Steps p.tables e below (T472.setTop (mkF m 216 #[.val (.int p0), .val (.int p1), .val (.int p2), .val (.int p3), .val (.int p4), .val (.int p5), .val (.int (4 : Int32)), .val (.int sm), .val (.long lim), .second, .val (.long C0), .second, .val (.long C1), .second, .val (.long C2), .second, .val (.long C3), .second, .val (.int (3 : Int32)), .val .null, .unset, .unset, .unset, .unset, .unset, .unset] [(.ref b466)])) _
      refine XS.astore X472.here hx rfl (hb hby at_216) rfl rfl (l' := #[.val (.int p0), .val (.int p1), .val (.int p2), .val (.int p3), .val (.int p4), .val (.int p5), .val (.int (4 : Int32)), .val (.int sm), .val (.long lim), .second, .val (.long C0), .second, .val (.long C1), .second, .val (.long C2), .second, .val (.long C3), .second, .val (.int (3 : Int32)), .val (.ref b466), .unset, .unset, .unset, .unset, .unset, .unset]) rfl ?_
      refine XS.goto X472.here hx rfl (pc0 := 218) (pc' := 256) rfl (hb hby at_218) (by decide) (by decide) ?_
      refine XS.iload X472.here hx rfl (hb hby at_256) rfl ?_
      refine XS.iconst X472.here hx rfl (hb hby at_258) ?_
      refine XS.iushr X472.here hx rfl (hb hby at_259) rfl ?_
      refine XS.iconst X472.here hx rfl (hb hby at_260) ?_
      refine XS.iand X472.here hx rfl (hb hby at_261) rfl ?_
      refine XS.istore X472.here hx rfl (hb hby at_262) rfl (l' := #[.val (.int p0), .val (.int p1), .val (.int p2), .val (.int p3), .val (.int p4), .val (.int p5), .val (.int (4 : Int32)), .val (.int sm), .val (.long lim), .second, .val (.long C0), .second, .val (.long C1), .second, .val (.long C2), .second, .val (.long C3), .second, .val (.int (3 : Int32)), .val (.ref b466), .val (.int (((p5.toUInt32 >>> ((4 : Int32) &&& 31).toUInt32).toInt32) &&& (3 : Int32))), .unset, .unset, .unset, .unset, .unset]) rfl ?_
      exact kt
    (try clear st472); (try clear W472); (try clear hin471); (try clear G471); (try clear H471_); (try clear N471_); (try clear S471); (try clear q471); (try clear Ar471); (try clear cl471); (try clear N470); (try clear V470); (try clear KP470); (try clear EX470); (try clear st470); (try clear W470); (try clear e470); (try clear X470); (try clear h470); (try clear T470); (try clear hin469); (try clear G469); (try clear H469_); (try clear N469_); (try clear S469); (try clear q469); (try clear Ar469); (try clear cl469); (try clear N468); (try clear V468); (try clear KP468); (try clear EX468); (try clear st468); (try clear W468); (try clear e468); (try clear X468); (try clear h468); (try clear T468); (try clear hin467); (try clear G467); (try clear H467_); (try clear N467_); (try clear S467); (try clear q467); (try clear Ar467); (try clear cl467); (try clear V466); (try clear KP466); (try clear EX466); (try clear st466); (try clear A466); (try clear E466); (try clear e466); (try clear X466); (try clear h466); (try clear T466); (try clear N465); (try clear e465); (try clear N465q); (try clear st465); (try clear Lc465); (try clear X465); (try clear n465); (try clear k465); (try clear L465); (try clear T465)
    obtain ⟨T478, L478, pk, X478, e478, N478, hj478_0, ck478⟩ : ∃ (TJ : State) (LJ : List Loc) (pk : Int64), Stand p l e room_1 s m #[(.int p0), (.int p1), (.int p2), (.int p3), (.int p4), (.int p5)] below meth c TJ LJ 1 3 ∧ TJ.heap = h472 ∧ Fr n0 LJ ∧ (0 ≤ pk.toInt ∧ pk.toInt ≤ lim.toInt) ∧ (∀ t, Steps p.tables e below (TJ.setTop (mkF m 298 #[.val (.int p0), .val (.int p1), .val (.int p2), .val (.int p3), .val (.int p4), .val (.int p5), .val (.int (4 : Int32)), .val (.int sm), .val (.long lim), .second, .val (.long C0), .second, .val (.long C1), .second, .val (.long C2), .second, .val (.long C3), .second, .val (.int (3 : Int32)), .val (.ref b466), .val (.int (((p5.toUInt32 >>> ((4 : Int32) &&& 31).toUInt32).toInt32) &&& (3 : Int32))), .unset, .unset, .unset, .unset, .unset] [(.long pk)])) t → Steps p.tables e below (s₁.setTop (entryFrame m #[(.int p0), (.int p1), (.int p2), (.int p3), (.int p4), (.int p5)] maxLocals)) t) := by
      by_cases hc266_479 : (((p5.toUInt32 >>> ((4 : Int32) &&& 31).toUInt32).toInt32) &&& (3 : Int32)) = (0 : Int32)
      · -- pc 266: yes
        refine ⟨T472, _, C0, X472, e472, N472, hC0, fun t kt => ?_⟩
        refine ck473 _ ?_
        refine XS.iload X472.here hx rfl (hb hby at_264) rfl ?_
        refine XS.ifNo X472.here hx rfl (hb hby at_266) rfl ((if0 _ _).trans (teq hc266_479).2) ?_
        refine XS.lload X472.here hx rfl (hb hby at_269) rfl ?_
        refine XS.goto X472.here hx rfl (pc0 := 271) (pc' := 298) rfl (hb hby at_271) (by decide) (by decide) ?_
        exact kt
      · -- pc 266: no
        have ck481 : ∀ t, Steps p.tables e below (T472.setTop (mkF m 277 #[.val (.int p0), .val (.int p1), .val (.int p2), .val (.int p3), .val (.int p4), .val (.int p5), .val (.int (4 : Int32)), .val (.int sm), .val (.long lim), .second, .val (.long C0), .second, .val (.long C1), .second, .val (.long C2), .second, .val (.long C3), .second, .val (.int (3 : Int32)), .val (.ref b466), .val (.int (((p5.toUInt32 >>> ((4 : Int32) &&& 31).toUInt32).toInt32) &&& (3 : Int32))), .unset, .unset, .unset, .unset, .unset] [(.int (1 : Int32)), (.int (((p5.toUInt32 >>> ((4 : Int32) &&& 31).toUInt32).toInt32) &&& (3 : Int32)))])) t → Steps p.tables e below (s₁.setTop (entryFrame m #[(.int p0), (.int p1), (.int p2), (.int p3), (.int p4), (.int p5)] maxLocals)) t := by
          intro t kt
          refine ck473 _ ?_
          refine XS.iload X472.here hx rfl (hb hby at_264) rfl ?_
          refine XS.ifYes X472.here hx rfl (pc0 := 266) (pc' := 274) rfl (hb hby at_266) rfl ((if0 _ _).trans (feq hc266_479).2) (by decide) (by decide) ?_
          refine XS.iload X472.here hx rfl (hb hby at_274) rfl ?_
          refine XS.iconst X472.here hx rfl (hb hby at_276) ?_
          exact kt
        by_cases hc277_480 : (((p5.toUInt32 >>> ((4 : Int32) &&& 31).toUInt32).toInt32) &&& (3 : Int32)) = (1 : Int32)
        · -- pc 277: yes
          refine ⟨T472, _, C1, X472, e472, N472, hC1, fun t kt => ?_⟩
          refine ck481 _ ?_
          refine XS.icmpNo X472.here hx rfl (hb hby at_277) rfl (teq hc277_480).2 ?_
          refine XS.lload X472.here hx rfl (hb hby at_280) rfl ?_
          refine XS.goto X472.here hx rfl (pc0 := 282) (pc' := 298) rfl (hb hby at_282) (by decide) (by decide) ?_
          exact kt
        · -- pc 277: no
          by_cases hc288_482 : (((p5.toUInt32 >>> ((4 : Int32) &&& 31).toUInt32).toInt32) &&& (3 : Int32)) = (2 : Int32)
          · -- pc 288: yes
            refine ⟨T472, _, C2, X472, e472, N472, hC2, fun t kt => ?_⟩
            refine ck481 _ ?_
            refine XS.icmpYes X472.here hx rfl (pc0 := 277) (pc' := 285) rfl (hb hby at_277) rfl (feq hc277_480).2 (by decide) (by decide) ?_
            refine XS.iload X472.here hx rfl (hb hby at_285) rfl ?_
            refine XS.iconst X472.here hx rfl (hb hby at_287) ?_
            refine XS.icmpNo X472.here hx rfl (hb hby at_288) rfl (teq hc288_482).2 ?_
            refine XS.lload X472.here hx rfl (hb hby at_291) rfl ?_
            refine XS.goto X472.here hx rfl (pc0 := 293) (pc' := 298) rfl (hb hby at_293) (by decide) (by decide) ?_
            exact kt
          · -- pc 288: no
            refine ⟨T472, _, C3, X472, e472, N472, hC3, fun t kt => ?_⟩
            refine ck481 _ ?_
            refine XS.icmpYes X472.here hx rfl (pc0 := 277) (pc' := 285) rfl (hb hby at_277) rfl (feq hc277_480).2 (by decide) (by decide) ?_
            refine XS.iload X472.here hx rfl (hb hby at_285) rfl ?_
            refine XS.iconst X472.here hx rfl (hb hby at_287) ?_
            refine XS.icmpYes X472.here hx rfl (pc0 := 288) (pc' := 296) rfl (hb hby at_288) rfl (feq hc288_482).2 (by decide) (by decide) ?_
            refine XS.lload X472.here hx rfl (hb hby at_296) rfl ?_
            exact kt
    have hpk := hj478_0
    obtain ⟨T486, L486, qq, X486, e486, N486, hj486_0, ck486⟩ : ∃ (TJ : State) (LJ : List Loc) (qq : Int32), Stand p l e room_1 s m #[(.int p0), (.int p1), (.int p2), (.int p3), (.int p4), (.int p5)] below meth c TJ LJ 1 3 ∧ TJ.heap = h472 ∧ Fr n0 LJ ∧ (0 ≤ qq.toInt) ∧ (∀ t, Steps p.tables e below (TJ.setTop (mkF m 345 #[.val (.int p0), .val (.int p1), .val (.int p2), .val (.int p3), .val (.int p4), .val (.int p5), .val (.int (4 : Int32)), .val (.int sm), .val (.long lim), .second, .val (.long C0), .second, .val (.long C1), .second, .val (.long C2), .second, .val (.long C3), .second, .val (.int (3 : Int32)), .val (.ref b466), .val (.int (((p5.toUInt32 >>> ((4 : Int32) &&& 31).toUInt32).toInt32) &&& (3 : Int32))), .val (.long pk), .second, .val (.int qq), .unset, .unset] [])) t → Steps p.tables e below (s₁.setTop (entryFrame m #[(.int p0), (.int p1), (.int p2), (.int p3), (.int p4), (.int p5)] maxLocals)) t) := by
      have ck488 : ∀ t, Steps p.tables e below (T478.setTop (mkF m 305 #[.val (.int p0), .val (.int p1), .val (.int p2), .val (.int p3), .val (.int p4), .val (.int p5), .val (.int (4 : Int32)), .val (.int sm), .val (.long lim), .second, .val (.long C0), .second, .val (.long C1), .second, .val (.long C2), .second, .val (.long C3), .second, .val (.int (3 : Int32)), .val (.ref b466), .val (.int (((p5.toUInt32 >>> ((4 : Int32) &&& 31).toUInt32).toInt32) &&& (3 : Int32))), .val (.long pk), .second, .unset, .unset, .unset] [(.int (p5 &&& (64 : Int32)))])) t → Steps p.tables e below (s₁.setTop (entryFrame m #[(.int p0), (.int p1), (.int p2), (.int p3), (.int p4), (.int p5)] maxLocals)) t := by
        intro t kt
        refine ck478 _ ?_
        refine XS.lstore X478.here hx rfl (hb hby at_298) rfl (l' := #[.val (.int p0), .val (.int p1), .val (.int p2), .val (.int p3), .val (.int p4), .val (.int p5), .val (.int (4 : Int32)), .val (.int sm), .val (.long lim), .second, .val (.long C0), .second, .val (.long C1), .second, .val (.long C2), .second, .val (.long C3), .second, .val (.int (3 : Int32)), .val (.ref b466), .val (.int (((p5.toUInt32 >>> ((4 : Int32) &&& 31).toUInt32).toInt32) &&& (3 : Int32))), .val (.long pk), .second, .unset, .unset, .unset]) rfl ?_
        refine XS.iload X478.here hx rfl (hb hby at_300) rfl ?_
        refine XS.bipush X478.here hx rfl (hb hby at_302) ?_
        refine XS.iand X478.here hx rfl (hb hby at_304) rfl ?_
        exact kt
      by_cases hc305_487 : (p5 &&& (64 : Int32)) = (0 : Int32)
      · -- pc 305: yes
        refine ⟨T478, _, ((((p4.toInt64) &&& (2147483647 : Int64)) % (lim + (1 : Int64))).toInt32), X478, e478, N478, (own_q2 hlim), fun t kt => ?_⟩
        refine ck488 _ ?_
        refine XS.ifYes X478.here hx rfl (pc0 := 305) (pc' := 330) rfl (hb hby at_305) rfl ((if0 _ _).trans (teq hc305_487).1) (by decide) (by decide) ?_
        refine XS.iload X478.here hx rfl (hb hby at_330) rfl ?_
        refine XS.i2l X478.here hx rfl (hb hby at_332) rfl ?_
        refine X478.ldc2Long hx hown (mvT hZ (own_q hw 0 rfl)) (g := (mkF m 333 #[.val (.int p0), .val (.int p1), .val (.int p2), .val (.int p3), .val (.int p4), .val (.int p5), .val (.int (4 : Int32)), .val (.int sm), .val (.long lim), .second, .val (.long C0), .second, .val (.long C1), .second, .val (.long C2), .second, .val (.long C3), .second, .val (.int (3 : Int32)), .val (.ref b466), .val (.int (((p5.toUInt32 >>> ((4 : Int32) &&& 31).toUInt32).toInt32) &&& (3 : Int32))), .val (.long pk), .second, .unset, .unset, .unset] [(.long (p4.toInt64))])) rfl (hb hby at_333) _ ?_
        show Steps p.tables e below (T478.setTop (mkF m 336 #[.val (.int p0), .val (.int p1), .val (.int p2), .val (.int p3), .val (.int p4), .val (.int p5), .val (.int (4 : Int32)), .val (.int sm), .val (.long lim), .second, .val (.long C0), .second, .val (.long C1), .second, .val (.long C2), .second, .val (.long C3), .second, .val (.int (3 : Int32)), .val (.ref b466), .val (.int (((p5.toUInt32 >>> ((4 : Int32) &&& 31).toUInt32).toInt32) &&& (3 : Int32))), .val (.long pk), .second, .unset, .unset, .unset] [(.long (2147483647 : Int64)), (.long (p4.toInt64))])) _
        refine XS.land X478.here hx rfl (hb hby at_336) rfl ?_
        refine XS.lload X478.here hx rfl (hb hby at_337) rfl ?_
        refine XS.lconst X478.here hx rfl (hb hby at_339) ?_
        refine XS.ladd X478.here hx rfl (hb hby at_340) rfl ?_
        refine XS.lrem X478.here hx rfl (hb hby at_341) rfl (own_nz (own_l1 hlim).1) ?_
        show Steps p.tables e below (T478.setTop (mkF m 342 #[.val (.int p0), .val (.int p1), .val (.int p2), .val (.int p3), .val (.int p4), .val (.int p5), .val (.int (4 : Int32)), .val (.int sm), .val (.long lim), .second, .val (.long C0), .second, .val (.long C1), .second, .val (.long C2), .second, .val (.long C3), .second, .val (.int (3 : Int32)), .val (.ref b466), .val (.int (((p5.toUInt32 >>> ((4 : Int32) &&& 31).toUInt32).toInt32) &&& (3 : Int32))), .val (.long pk), .second, .unset, .unset, .unset] [(.long (((p4.toInt64) &&& (2147483647 : Int64)) - (((p4.toInt64) &&& (2147483647 : Int64)) / (lim + (1 : Int64))) * (lim + (1 : Int64))))])) _
        rw [lrem_mod]
        show Steps p.tables e below (T478.setTop (mkF m 342 #[.val (.int p0), .val (.int p1), .val (.int p2), .val (.int p3), .val (.int p4), .val (.int p5), .val (.int (4 : Int32)), .val (.int sm), .val (.long lim), .second, .val (.long C0), .second, .val (.long C1), .second, .val (.long C2), .second, .val (.long C3), .second, .val (.int (3 : Int32)), .val (.ref b466), .val (.int (((p5.toUInt32 >>> ((4 : Int32) &&& 31).toUInt32).toInt32) &&& (3 : Int32))), .val (.long pk), .second, .unset, .unset, .unset] [(.long (((p4.toInt64) &&& (2147483647 : Int64)) % (lim + (1 : Int64))))])) _
        refine XS.l2i X478.here hx rfl (hb hby at_342) rfl ?_
        refine XS.istore X478.here hx rfl (hb hby at_343) rfl (l' := #[.val (.int p0), .val (.int p1), .val (.int p2), .val (.int p3), .val (.int p4), .val (.int p5), .val (.int (4 : Int32)), .val (.int sm), .val (.long lim), .second, .val (.long C0), .second, .val (.long C1), .second, .val (.long C2), .second, .val (.long C3), .second, .val (.int (3 : Int32)), .val (.ref b466), .val (.int (((p5.toUInt32 >>> ((4 : Int32) &&& 31).toUInt32).toInt32) &&& (3 : Int32))), .val (.long pk), .second, .val (.int ((((p4.toInt64) &&& (2147483647 : Int64)) % (lim + (1 : Int64))).toInt32)), .unset, .unset]) rfl ?_
        exact kt
      · -- pc 305: no
        obtain ⟨_, _, ⟨T489, L489, k489, n489⟩, -, X489, ⟨Lc489, hQ489, l489, y489, z489⟩, st489⟩ := Jvm.LawKit.callS X478 hx (y := (⟨"java/lang/Math", "min", "(JJ)J"⟩ : MethodName)) hown (mvT hZ (own_q hw 35 rfl)) (mvT hZ (own_q hw 36 rfl)) (mvT hZ (own_q hw 3 rfl)) (mvT hZ (own_q hw 37 rfl)) (by decide) (backOf (W := 0) (rm_minJ l Z a0 hw [] lim (pk + ((((p5.toUInt32 >>> ((7 : Int32) &&& 31).toUInt32).toInt32) &&& (1 : Int32)).toInt64)) h472 n0 (Nat.le_trans Z0 EX472.1) (if (0 : Int32) < (lcmpW lim (pk + ((((p5.toUInt32 >>> ((7 : Int32) &&& 31).toUInt32).toInt32) &&& (1 : Int32)).toInt64))) then (pk + ((((p5.toUInt32 >>> ((7 : Int32) &&& 31).toUInt32).toInt32) &&& (1 : Int32)).toInt64)) else lim) rfl) hZ (own_q hw 37 rfl) (own_q hw 3 rfl) (by decide) (by decide)) (g := (mkF m 321 #[.val (.int p0), .val (.int p1), .val (.int p2), .val (.int p3), .val (.int p4), .val (.int p5), .val (.int (4 : Int32)), .val (.int sm), .val (.long lim), .second, .val (.long C0), .second, .val (.long C1), .second, .val (.long C2), .second, .val (.long C3), .second, .val (.int (3 : Int32)), .val (.ref b466), .val (.int (((p5.toUInt32 >>> ((4 : Int32) &&& 31).toUInt32).toInt32) &&& (3 : Int32))), .val (.long pk), .second, .unset, .unset, .unset] [(.long (pk + ((((p5.toUInt32 >>> ((7 : Int32) &&& 31).toUInt32).toInt32) &&& (1 : Int32)).toInt64))), (.long lim)])) rfl (by rw [hml]; rfl) (argsL := [(.long lim), (.long (pk + ((((p5.toUInt32 >>> ((7 : Int32) &&& 31).toUInt32).toInt32) &&& (1 : Int32)).toInt64)))]) (rest := []) (lenOf pd_217 rfl) rfl (by show 2 * 0 + _ ≤ _; exact Nat.le_of_eq rfl) (hb hby at_321) (fun _ _ => ⟨rfl, e478, (by decide : 1 + 0 ≤ _), (by decide : 3 + 0 ≤ _)⟩)
        dsimp only [Pt.U, Pt.locs, Pt.cells, Pt.slots] at X489 l489 y489 z489 st489 hQ489
        subst l489 y489 z489
        obtain ⟨rfl, N489q, e489⟩ := hQ489
        have N489 := Fr.app N478 N489q
        refine ⟨T489, _, ((if (0 : Int32) < (lcmpW lim (pk + ((((p5.toUInt32 >>> ((7 : Int32) &&& 31).toUInt32).toInt32) &&& (1 : Int32)).toInt64))) then (pk + ((((p5.toUInt32 >>> ((7 : Int32) &&& 31).toUInt32).toInt32) &&& (1 : Int32)).toInt64)) else lim).toInt32), X489, e489, N489, (own_q1 hlim hpk), fun t kt => ?_⟩
        refine ck488 _ ?_
        refine XS.ifNo X478.here hx rfl (hb hby at_305) rfl ((if0 _ _).trans (feq hc305_487).1) ?_
        refine XS.lload X478.here hx rfl (hb hby at_308) rfl ?_
        refine XS.lload X478.here hx rfl (hb hby at_310) rfl ?_
        refine XS.iload X478.here hx rfl (hb hby at_312) rfl ?_
        refine XS.bipush X478.here hx rfl (hb hby at_314) ?_
        refine XS.iushr X478.here hx rfl (hb hby at_316) rfl ?_
        refine XS.iconst X478.here hx rfl (hb hby at_317) ?_
        refine XS.iand X478.here hx rfl (hb hby at_318) rfl ?_
        refine XS.i2l X478.here hx rfl (hb hby at_319) rfl ?_
        refine XS.ladd X478.here hx rfl (hb hby at_320) rfl ?_
        refine st489 _ ?_
        show Steps p.tables e below (T489.setTop (mkF m 324 #[.val (.int p0), .val (.int p1), .val (.int p2), .val (.int p3), .val (.int p4), .val (.int p5), .val (.int (4 : Int32)), .val (.int sm), .val (.long lim), .second, .val (.long C0), .second, .val (.long C1), .second, .val (.long C2), .second, .val (.long C3), .second, .val (.int (3 : Int32)), .val (.ref b466), .val (.int (((p5.toUInt32 >>> ((4 : Int32) &&& 31).toUInt32).toInt32) &&& (3 : Int32))), .val (.long pk), .second, .unset, .unset, .unset] [(.long (if (0 : Int32) < (lcmpW lim (pk + ((((p5.toUInt32 >>> ((7 : Int32) &&& 31).toUInt32).toInt32) &&& (1 : Int32)).toInt64))) then (pk + ((((p5.toUInt32 >>> ((7 : Int32) &&& 31).toUInt32).toInt32) &&& (1 : Int32)).toInt64)) else lim))])) _
        refine XS.l2i X489.here hx rfl (hb hby at_324) rfl ?_
        refine XS.istore X489.here hx rfl (hb hby at_325) rfl (l' := #[.val (.int p0), .val (.int p1), .val (.int p2), .val (.int p3), .val (.int p4), .val (.int p5), .val (.int (4 : Int32)), .val (.int sm), .val (.long lim), .second, .val (.long C0), .second, .val (.long C1), .second, .val (.long C2), .second, .val (.long C3), .second, .val (.int (3 : Int32)), .val (.ref b466), .val (.int (((p5.toUInt32 >>> ((4 : Int32) &&& 31).toUInt32).toInt32) &&& (3 : Int32))), .val (.long pk), .second, .val (.int ((if (0 : Int32) < (lcmpW lim (pk + ((((p5.toUInt32 >>> ((7 : Int32) &&& 31).toUInt32).toInt32) &&& (1 : Int32)).toInt64))) then (pk + ((((p5.toUInt32 >>> ((7 : Int32) &&& 31).toUInt32).toInt32) &&& (1 : Int32)).toInt64)) else lim).toInt32)), .unset, .unset]) rfl ?_
        refine XS.goto X489.here hx rfl (pc0 := 327) (pc' := 345) rfl (hb hby at_327) (by decide) (by decide) ?_
        exact kt
    have hqq := hj486_0
    have hqL := c_i2l qq
    obtain ⟨_, _, ⟨T490, L490, k490, n490⟩, -, X490, ⟨Lc490, hQ490, l490, y490, z490⟩, st490⟩ := Jvm.LawKit.callS X486 hx (y := (⟨"com/example/cubelet/cubelet/CellStore$Step", "together", "([I)Lcom/example/cubelet/cubelet/CellStore$Step;"⟩ : MethodName)) hown (mvT hZ (own_q hw 6 rfl)) (mvT hZ (own_q hw 7 rfl)) (mvT hZ (own_q hw 8 rfl)) (mvT hZ (own_q hw 9 rfl)) (by decide) (backOf (W := 0) (rm_tog_3 l Z a0 hw [] b466 h472 n0 (Nat.le_trans Z0 EX472.1) k466 ic0 ic1 ic2 V472 ⟨by omega, by omega, by omega⟩) hZ (own_q hw 9 rfl) (own_q hw 8 rfl) (by decide) (by decide)) (g := (mkF m 347 #[.val (.int p0), .val (.int p1), .val (.int p2), .val (.int p3), .val (.int p4), .val (.int p5), .val (.int (4 : Int32)), .val (.int sm), .val (.long lim), .second, .val (.long C0), .second, .val (.long C1), .second, .val (.long C2), .second, .val (.long C3), .second, .val (.int (3 : Int32)), .val (.ref b466), .val (.int (((p5.toUInt32 >>> ((4 : Int32) &&& 31).toUInt32).toInt32) &&& (3 : Int32))), .val (.long pk), .second, .val (.int qq), .unset, .unset] [(.ref b466)])) rfl (by rw [hml]; rfl) (argsL := [(.ref b466)]) (rest := []) (lenOf pd_218 rfl) rfl (by show 2 * 0 + _ ≤ _; exact Nat.le_of_eq rfl) (hb hby at_347) (fun _ _ => ⟨rfl, e486, (by decide : 1 + 2 ≤ _), (by decide : 3 + 38 ≤ _)⟩)
    dsimp only [Pt.U, Pt.locs, Pt.cells, Pt.slots] at X490 l490 y490 z490 st490 hQ490
    subst l490 y490 z490
    obtain ⟨aS, rfl, N490q, E490, ES, FcS, hB⟩ := hQ490
    have N490 := Fr.app N486 N490q
    have e490 : T490.heap = T490.heap := rfl
    have EX490 := own_ext_trans EX472 E490
    have KP490 := Keep.ext KP472 E490
    have Fx491 := (V472.ext E490)
    have ck493 : ∀ t, Steps p.tables e below (T490.setTop (mkF m 369 #[.val (.int p0), .val (.int p1), .val (.int p2), .val (.int p3), .val (.int p4), .val (.int p5), .val (.int (4 : Int32)), .val (.int sm), .val (.long lim), .second, .val (.long C0), .second, .val (.long C1), .second, .val (.long C2), .second, .val (.long C3), .second, .val (.int (3 : Int32)), .val (.ref b466), .val (.int (((p5.toUInt32 >>> ((4 : Int32) &&& 31).toUInt32).toInt32) &&& (3 : Int32))), .val (.long pk), .second, .val (.int qq), .val (.ref aS), .unset] [(.int (lcmpW (qq.toInt64) C0))])) t → Steps p.tables e below (s₁.setTop (entryFrame m #[(.int p0), (.int p1), (.int p2), (.int p3), (.int p4), (.int p5)] maxLocals)) t := by
      intro t kt
      refine ck486 _ ?_
      refine XS.aload X486.here hx rfl (hb hby at_345) rfl rfl ?_
      refine st490 _ ?_
      show Steps p.tables e below (T490.setTop (mkF m 350 #[.val (.int p0), .val (.int p1), .val (.int p2), .val (.int p3), .val (.int p4), .val (.int p5), .val (.int (4 : Int32)), .val (.int sm), .val (.long lim), .second, .val (.long C0), .second, .val (.long C1), .second, .val (.long C2), .second, .val (.long C3), .second, .val (.int (3 : Int32)), .val (.ref b466), .val (.int (((p5.toUInt32 >>> ((4 : Int32) &&& 31).toUInt32).toInt32) &&& (3 : Int32))), .val (.long pk), .second, .val (.int qq), .unset, .unset] [(.ref aS)])) _
      refine XS.astore X490.here hx rfl (hb hby at_350) rfl rfl (l' := #[.val (.int p0), .val (.int p1), .val (.int p2), .val (.int p3), .val (.int p4), .val (.int p5), .val (.int (4 : Int32)), .val (.int sm), .val (.long lim), .second, .val (.long C0), .second, .val (.long C1), .second, .val (.long C2), .second, .val (.long C3), .second, .val (.int (3 : Int32)), .val (.ref b466), .val (.int (((p5.toUInt32 >>> ((4 : Int32) &&& 31).toUInt32).toInt32) &&& (3 : Int32))), .val (.long pk), .second, .val (.int qq), .val (.ref aS), .unset]) rfl ?_
      refine XS.iload X490.here hx rfl (hb hby at_352) rfl ?_
      refine XS.ifNo X490.here hx rfl (hb hby at_354) rfl ((if0 _ _).trans (flt (by decide : ¬ ((3 : Int32) < (0 : Int32)))).1) ?_
      refine XS.iload X490.here hx rfl (hb hby at_357) rfl ?_
      refine XS.iconst X490.here hx rfl (hb hby at_359) ?_
      refine XS.icmpNo X490.here hx rfl (hb hby at_360) rfl (flt (by decide : ¬ ((3 : Int32) < (1 : Int32)))).1 ?_
      refine XS.iload X490.here hx rfl (hb hby at_363) rfl ?_
      refine XS.i2l X490.here hx rfl (hb hby at_365) rfl ?_
      refine XS.lload X490.here hx rfl (hb hby at_366) rfl ?_
      refine XS.lcmp X490.here hx rfl (hb hby at_368) rfl ?_
      exact kt
    (try clear E490); (try clear N490q); (try clear st490); (try clear Lc490); (try clear n490); (try clear k490); (try clear L490)
    by_cases hc369_492 : (lcmpW (qq.toInt64) C0) = (0 : Int32)
    · -- pc 369: yes
      have ck494 : ∀ t, Steps p.tables e below (T490.setTop (mkF m 424 #[.val (.int p0), .val (.int p1), .val (.int p2), .val (.int p3), .val (.int p4), .val (.int p5), .val (.int (4 : Int32)), .val (.int sm), .val (.long lim), .second, .val (.long C0), .second, .val (.long C1), .second, .val (.long C2), .second, .val (.long C3), .second, .val (.int (3 : Int32)), .val (.ref b466), .val (.int (((p5.toUInt32 >>> ((4 : Int32) &&& 31).toUInt32).toInt32) &&& (3 : Int32))), .val (.long pk), .second, .val (.int qq), .val (.ref aS), .val (.int (1 : Int32))] [])) t → Steps p.tables e below (s₁.setTop (entryFrame m #[(.int p0), (.int p1), (.int p2), (.int p3), (.int p4), (.int p5)] maxLocals)) t := by
        intro t kt
        refine ck493 _ ?_
        refine XS.ifYes X490.here hx rfl (pc0 := 369) (pc' := 417) rfl (hb hby at_369) rfl ((if0 _ _).trans (teq hc369_492).1) (by decide) (by decide) ?_
        refine XS.iconst X490.here hx rfl (hb hby at_417) ?_
        refine XS.goto X490.here hx rfl (pc0 := 418) (pc' := 422) rfl (hb hby at_418) (by decide) (by decide) ?_
        refine XS.istore X490.here hx rfl (hb hby at_422) rfl (l' := #[.val (.int p0), .val (.int p1), .val (.int p2), .val (.int p3), .val (.int p4), .val (.int p5), .val (.int (4 : Int32)), .val (.int sm), .val (.long lim), .second, .val (.long C0), .second, .val (.long C1), .second, .val (.long C2), .second, .val (.long C3), .second, .val (.int (3 : Int32)), .val (.ref b466), .val (.int (((p5.toUInt32 >>> ((4 : Int32) &&& 31).toUInt32).toInt32) &&& (3 : Int32))), .val (.long pk), .second, .val (.int qq), .val (.ref aS), .val (.int (1 : Int32))]) rfl ?_
        exact kt
      rcases hB with hB | ⟨bb, kb, zb, gb, hB, B_b, hzb, hS⟩
      · -- bits: S
        have d_hc369_492 := own_eq_lc hc369_492
        obtain ⟨cq495, kq495, q495a, q495b, q495c⟩ := isOf hZ e490 (ES)
        obtain ⟨_, _, ⟨T495, L495, k495, n495⟩, -, X495, ⟨Lc495, hQ495, l495, y495, z495⟩, st495⟩ := X490.virtualBack hx (y := (⟨"com/example/cubelet/cubelet/CellStore$Step", "takes", "(I)Z"⟩ : MethodName)) (z := (⟨"com/example/cubelet/cubelet/CellStore$Step", "takes", "(I)Z"⟩ : MethodName)) hown (mvT hZ (own_q hw 29 rfl)) (mvT hZ (own_q hw 30 rfl)) (notFace_of_selects (args := #[]) (mvT hZ (own_q hw 32 rfl))) (mvT hZ (own_q hw 32 rfl)) (mvT hZ (own_q hw 31 rfl)) (by decide) (backOf (W := 0) (rm_tkS_3 l Z a0 hw [] aS qq T490.heap n0 (Nat.le_trans Z0 EX490.1) b466 k466 ic0 ic1 ic2 Fx491 ⟨by omega, by omega, by omega⟩ FcS hB (1 : Int32) ⟨fun _ => rfl, fun z => absurd (by omega) z⟩) hZ (own_q hw 33 rfl) (own_q hw 8 rfl) (by decide) (by decide)) q495a q495c (g := (mkF m 428 #[.val (.int p0), .val (.int p1), .val (.int p2), .val (.int p3), .val (.int p4), .val (.int p5), .val (.int (4 : Int32)), .val (.int sm), .val (.long lim), .second, .val (.long C0), .second, .val (.long C1), .second, .val (.long C2), .second, .val (.long C3), .second, .val (.int (3 : Int32)), .val (.ref b466), .val (.int (((p5.toUInt32 >>> ((4 : Int32) &&& 31).toUInt32).toInt32) &&& (3 : Int32))), .val (.long pk), .second, .val (.int qq), .val (.ref aS), .val (.int (1 : Int32))] [(.int qq), (.ref aS)])) rfl (by rw [hml]; rfl) (Steps.refl _) (argsL := [(.int qq)]) (rest := []) (lenOf pd_219 rfl) rfl (by show 2 * 0 + _ ≤ _; exact Nat.le_of_eq rfl) (hb hby at_428) (fun _ _ => ⟨rfl, e490, (by decide : 3 + 0 ≤ _), (by decide : 41 + 0 ≤ _)⟩)
        dsimp only [Pt.U, Pt.locs, Pt.cells, Pt.slots] at X495 l495 y495 z495 st495 hQ495
        subst l495 y495 z495
        obtain ⟨rfl, N495q, e495⟩ := hQ495
        have N495 := Fr.app N490 N495q
        obtain ⟨fs, hr, hrun, hended, hW, hsame⟩ := X495.leave (v := some (.int (1 : Int32))) (fun h => by rw [Bd.returns] at h; cases h)
        refine ⟨_, _, ck494 _ ?_, hrun, hended, _, _, rfl, ?_, ⟨_, rfl⟩, hW, hsame.mono (by decide) (by decide)⟩
        · refine XS.aload X490.here hx rfl (hb hby at_424) rfl rfl ?_
          refine XS.iload X490.here hx rfl (hb hby at_426) rfl ?_
          refine st495.trans ?_
          show Steps p.tables e below (T495.setTop (mkF m 431 #[.val (.int p0), .val (.int p1), .val (.int p2), .val (.int p3), .val (.int p4), .val (.int p5), .val (.int (4 : Int32)), .val (.int sm), .val (.long lim), .second, .val (.long C0), .second, .val (.long C1), .second, .val (.long C2), .second, .val (.long C3), .second, .val (.int (3 : Int32)), .val (.ref b466), .val (.int (((p5.toUInt32 >>> ((4 : Int32) &&& 31).toUInt32).toInt32) &&& (3 : Int32))), .val (.long pk), .second, .val (.int qq), .val (.ref aS), .val (.int (1 : Int32))] [(.int (1 : Int32))])) _
          refine XS.iload X495.here hx rfl (hb hby at_431) rfl ?_
          refine XS.icmpNo X495.here hx rfl (hb hby at_433) rfl (teq (by decide : (1 : Int32) = (1 : Int32))).2 ?_
          refine XS.iconst X495.here hx rfl (hb hby at_436) ?_
          refine XS.goto X495.here hx rfl (pc0 := 437) (pc' := 441) rfl (hb hby at_437) (by decide) (by decide) ?_
          exact retN X495 hx (t := .boolean) Bd.returns (by simp) (hb hby at_441) hr
        · show own_Made (some (.int 1)) n0 _ T495.heap _
          rw [e495]
          exact ⟨rfl, N495, trivial⟩
      · -- bits: B
        have d_hc369_492 := own_eq_lc hc369_492
        obtain ⟨cq496, kq496, q496a, q496b, q496c⟩ := isOf hZ e490 (ES)
        obtain ⟨_, _, ⟨T496, L496, k496, n496⟩, -, X496, ⟨Lc496, hQ496, l496, y496, z496⟩, st496⟩ := X490.virtualBack hx (y := (⟨"com/example/cubelet/cubelet/CellStore$Step", "takes", "(I)Z"⟩ : MethodName)) (z := (⟨"com/example/cubelet/cubelet/CellStore$Step", "takes", "(I)Z"⟩ : MethodName)) hown (mvT hZ (own_q hw 29 rfl)) (mvT hZ (own_q hw 30 rfl)) (notFace_of_selects (args := #[]) (mvT hZ (own_q hw 32 rfl))) (mvT hZ (own_q hw 32 rfl)) (mvT hZ (own_q hw 31 rfl)) (by decide) (backOf (W := 0) (rm_tkB_3 l Z a0 hw [] aS qq T490.heap n0 (Nat.le_trans Z0 EX490.1) b466 k466 ic0 ic1 ic2 Fx491 ⟨by omega, by omega, by omega⟩ FcS bb kb zb gb hB B_b (by rw [hzb]) hS hqq (1 : Int32) ⟨fun _ => rfl, fun z => absurd (by omega) z⟩) hZ (own_q hw 33 rfl) (own_q hw 8 rfl) (by decide) (by decide)) q496a q496c (g := (mkF m 428 #[.val (.int p0), .val (.int p1), .val (.int p2), .val (.int p3), .val (.int p4), .val (.int p5), .val (.int (4 : Int32)), .val (.int sm), .val (.long lim), .second, .val (.long C0), .second, .val (.long C1), .second, .val (.long C2), .second, .val (.long C3), .second, .val (.int (3 : Int32)), .val (.ref b466), .val (.int (((p5.toUInt32 >>> ((4 : Int32) &&& 31).toUInt32).toInt32) &&& (3 : Int32))), .val (.long pk), .second, .val (.int qq), .val (.ref aS), .val (.int (1 : Int32))] [(.int qq), (.ref aS)])) rfl (by rw [hml]; rfl) (Steps.refl _) (argsL := [(.int qq)]) (rest := []) (lenOf pd_219 rfl) rfl (by show 2 * 0 + _ ≤ _; exact Nat.le_of_eq rfl) (hb hby at_428) (fun _ _ => ⟨rfl, e490, (by decide : 3 + 0 ≤ _), (by decide : 41 + 0 ≤ _)⟩)
        dsimp only [Pt.U, Pt.locs, Pt.cells, Pt.slots] at X496 l496 y496 z496 st496 hQ496
        subst l496 y496 z496
        obtain ⟨rfl, N496q, e496⟩ := hQ496
        have N496 := Fr.app N490 N496q
        obtain ⟨fs, hr, hrun, hended, hW, hsame⟩ := X496.leave (v := some (.int (1 : Int32))) (fun h => by rw [Bd.returns] at h; cases h)
        refine ⟨_, _, ck494 _ ?_, hrun, hended, _, _, rfl, ?_, ⟨_, rfl⟩, hW, hsame.mono (by decide) (by decide)⟩
        · refine XS.aload X490.here hx rfl (hb hby at_424) rfl rfl ?_
          refine XS.iload X490.here hx rfl (hb hby at_426) rfl ?_
          refine st496.trans ?_
          show Steps p.tables e below (T496.setTop (mkF m 431 #[.val (.int p0), .val (.int p1), .val (.int p2), .val (.int p3), .val (.int p4), .val (.int p5), .val (.int (4 : Int32)), .val (.int sm), .val (.long lim), .second, .val (.long C0), .second, .val (.long C1), .second, .val (.long C2), .second, .val (.long C3), .second, .val (.int (3 : Int32)), .val (.ref b466), .val (.int (((p5.toUInt32 >>> ((4 : Int32) &&& 31).toUInt32).toInt32) &&& (3 : Int32))), .val (.long pk), .second, .val (.int qq), .val (.ref aS), .val (.int (1 : Int32))] [(.int (1 : Int32))])) _
          refine XS.iload X496.here hx rfl (hb hby at_431) rfl ?_
          refine XS.icmpNo X496.here hx rfl (hb hby at_433) rfl (teq (by decide : (1 : Int32) = (1 : Int32))).2 ?_
          refine XS.iconst X496.here hx rfl (hb hby at_436) ?_
          refine XS.goto X496.here hx rfl (pc0 := 437) (pc' := 441) rfl (hb hby at_437) (by decide) (by decide) ?_
          exact retN X496 hx (t := .boolean) Bd.returns (by simp) (hb hby at_441) hr
        · show own_Made (some (.int 1)) n0 _ T496.heap _
          rw [e496]
          exact ⟨rfl, N496, trivial⟩
    · -- pc 369: no
      have ck498 : ∀ t, Steps p.tables e below (T490.setTop (mkF m 384 #[.val (.int p0), .val (.int p1), .val (.int p2), .val (.int p3), .val (.int p4), .val (.int p5), .val (.int (4 : Int32)), .val (.int sm), .val (.long lim), .second, .val (.long C0), .second, .val (.long C1), .second, .val (.long C2), .second, .val (.long C3), .second, .val (.int (3 : Int32)), .val (.ref b466), .val (.int (((p5.toUInt32 >>> ((4 : Int32) &&& 31).toUInt32).toInt32) &&& (3 : Int32))), .val (.long pk), .second, .val (.int qq), .val (.ref aS), .unset] [(.int (lcmpW (qq.toInt64) C1))])) t → Steps p.tables e below (s₁.setTop (entryFrame m #[(.int p0), (.int p1), (.int p2), (.int p3), (.int p4), (.int p5)] maxLocals)) t := by
        intro t kt
        refine ck493 _ ?_
        refine XS.ifNo X490.here hx rfl (hb hby at_369) rfl ((if0 _ _).trans (feq hc369_492).1) ?_
        refine XS.iload X490.here hx rfl (hb hby at_372) rfl ?_
        refine XS.iconst X490.here hx rfl (hb hby at_374) ?_
        refine XS.icmpNo X490.here hx rfl (hb hby at_375) rfl (flt (by decide : ¬ ((3 : Int32) < (2 : Int32)))).1 ?_
        refine XS.iload X490.here hx rfl (hb hby at_378) rfl ?_
        refine XS.i2l X490.here hx rfl (hb hby at_380) rfl ?_
        refine XS.lload X490.here hx rfl (hb hby at_381) rfl ?_
        refine XS.lcmp X490.here hx rfl (hb hby at_383) rfl ?_
        exact kt
      by_cases hc384_497 : (lcmpW (qq.toInt64) C1) = (0 : Int32)
      · -- pc 384: yes
        have ck499 : ∀ t, Steps p.tables e below (T490.setTop (mkF m 424 #[.val (.int p0), .val (.int p1), .val (.int p2), .val (.int p3), .val (.int p4), .val (.int p5), .val (.int (4 : Int32)), .val (.int sm), .val (.long lim), .second, .val (.long C0), .second, .val (.long C1), .second, .val (.long C2), .second, .val (.long C3), .second, .val (.int (3 : Int32)), .val (.ref b466), .val (.int (((p5.toUInt32 >>> ((4 : Int32) &&& 31).toUInt32).toInt32) &&& (3 : Int32))), .val (.long pk), .second, .val (.int qq), .val (.ref aS), .val (.int (1 : Int32))] [])) t → Steps p.tables e below (s₁.setTop (entryFrame m #[(.int p0), (.int p1), (.int p2), (.int p3), (.int p4), (.int p5)] maxLocals)) t := by
          intro t kt
          refine ck498 _ ?_
          refine XS.ifYes X490.here hx rfl (pc0 := 384) (pc' := 417) rfl (hb hby at_384) rfl ((if0 _ _).trans (teq hc384_497).1) (by decide) (by decide) ?_
          refine XS.iconst X490.here hx rfl (hb hby at_417) ?_
          refine XS.goto X490.here hx rfl (pc0 := 418) (pc' := 422) rfl (hb hby at_418) (by decide) (by decide) ?_
          refine XS.istore X490.here hx rfl (hb hby at_422) rfl (l' := #[.val (.int p0), .val (.int p1), .val (.int p2), .val (.int p3), .val (.int p4), .val (.int p5), .val (.int (4 : Int32)), .val (.int sm), .val (.long lim), .second, .val (.long C0), .second, .val (.long C1), .second, .val (.long C2), .second, .val (.long C3), .second, .val (.int (3 : Int32)), .val (.ref b466), .val (.int (((p5.toUInt32 >>> ((4 : Int32) &&& 31).toUInt32).toInt32) &&& (3 : Int32))), .val (.long pk), .second, .val (.int qq), .val (.ref aS), .val (.int (1 : Int32))]) rfl ?_
          exact kt
        rcases hB with hB | ⟨bb, kb, zb, gb, hB, B_b, hzb, hS⟩
        · -- bits: S
          have d_hc369_492 := own_ne_lc hc369_492
          have d_hc384_497 := own_eq_lc hc384_497
          obtain ⟨cq500, kq500, q500a, q500b, q500c⟩ := isOf hZ e490 (ES)
          obtain ⟨_, _, ⟨T500, L500, k500, n500⟩, -, X500, ⟨Lc500, hQ500, l500, y500, z500⟩, st500⟩ := X490.virtualBack hx (y := (⟨"com/example/cubelet/cubelet/CellStore$Step", "takes", "(I)Z"⟩ : MethodName)) (z := (⟨"com/example/cubelet/cubelet/CellStore$Step", "takes", "(I)Z"⟩ : MethodName)) hown (mvT hZ (own_q hw 29 rfl)) (mvT hZ (own_q hw 30 rfl)) (notFace_of_selects (args := #[]) (mvT hZ (own_q hw 32 rfl))) (mvT hZ (own_q hw 32 rfl)) (mvT hZ (own_q hw 31 rfl)) (by decide) (backOf (W := 0) (rm_tkS_3 l Z a0 hw [] aS qq T490.heap n0 (Nat.le_trans Z0 EX490.1) b466 k466 ic0 ic1 ic2 Fx491 ⟨by omega, by omega, by omega⟩ FcS hB (1 : Int32) ⟨fun _ => rfl, fun z => absurd (by omega) z⟩) hZ (own_q hw 33 rfl) (own_q hw 8 rfl) (by decide) (by decide)) q500a q500c (g := (mkF m 428 #[.val (.int p0), .val (.int p1), .val (.int p2), .val (.int p3), .val (.int p4), .val (.int p5), .val (.int (4 : Int32)), .val (.int sm), .val (.long lim), .second, .val (.long C0), .second, .val (.long C1), .second, .val (.long C2), .second, .val (.long C3), .second, .val (.int (3 : Int32)), .val (.ref b466), .val (.int (((p5.toUInt32 >>> ((4 : Int32) &&& 31).toUInt32).toInt32) &&& (3 : Int32))), .val (.long pk), .second, .val (.int qq), .val (.ref aS), .val (.int (1 : Int32))] [(.int qq), (.ref aS)])) rfl (by rw [hml]; rfl) (Steps.refl _) (argsL := [(.int qq)]) (rest := []) (lenOf pd_219 rfl) rfl (by show 2 * 0 + _ ≤ _; exact Nat.le_of_eq rfl) (hb hby at_428) (fun _ _ => ⟨rfl, e490, (by decide : 3 + 0 ≤ _), (by decide : 41 + 0 ≤ _)⟩)
          dsimp only [Pt.U, Pt.locs, Pt.cells, Pt.slots] at X500 l500 y500 z500 st500 hQ500
          subst l500 y500 z500
          obtain ⟨rfl, N500q, e500⟩ := hQ500
          have N500 := Fr.app N490 N500q
          obtain ⟨fs, hr, hrun, hended, hW, hsame⟩ := X500.leave (v := some (.int (1 : Int32))) (fun h => by rw [Bd.returns] at h; cases h)
          refine ⟨_, _, ck499 _ ?_, hrun, hended, _, _, rfl, ?_, ⟨_, rfl⟩, hW, hsame.mono (by decide) (by decide)⟩
          · refine XS.aload X490.here hx rfl (hb hby at_424) rfl rfl ?_
            refine XS.iload X490.here hx rfl (hb hby at_426) rfl ?_
            refine st500.trans ?_
            show Steps p.tables e below (T500.setTop (mkF m 431 #[.val (.int p0), .val (.int p1), .val (.int p2), .val (.int p3), .val (.int p4), .val (.int p5), .val (.int (4 : Int32)), .val (.int sm), .val (.long lim), .second, .val (.long C0), .second, .val (.long C1), .second, .val (.long C2), .second, .val (.long C3), .second, .val (.int (3 : Int32)), .val (.ref b466), .val (.int (((p5.toUInt32 >>> ((4 : Int32) &&& 31).toUInt32).toInt32) &&& (3 : Int32))), .val (.long pk), .second, .val (.int qq), .val (.ref aS), .val (.int (1 : Int32))] [(.int (1 : Int32))])) _
            refine XS.iload X500.here hx rfl (hb hby at_431) rfl ?_
            refine XS.icmpNo X500.here hx rfl (hb hby at_433) rfl (teq (by decide : (1 : Int32) = (1 : Int32))).2 ?_
            refine XS.iconst X500.here hx rfl (hb hby at_436) ?_
            refine XS.goto X500.here hx rfl (pc0 := 437) (pc' := 441) rfl (hb hby at_437) (by decide) (by decide) ?_
            exact retN X500 hx (t := .boolean) Bd.returns (by simp) (hb hby at_441) hr
          · show own_Made (some (.int 1)) n0 _ T500.heap _
            rw [e500]
            exact ⟨rfl, N500, trivial⟩
        · -- bits: B
          have d_hc369_492 := own_ne_lc hc369_492
          have d_hc384_497 := own_eq_lc hc384_497
          obtain ⟨cq501, kq501, q501a, q501b, q501c⟩ := isOf hZ e490 (ES)
          obtain ⟨_, _, ⟨T501, L501, k501, n501⟩, -, X501, ⟨Lc501, hQ501, l501, y501, z501⟩, st501⟩ := X490.virtualBack hx (y := (⟨"com/example/cubelet/cubelet/CellStore$Step", "takes", "(I)Z"⟩ : MethodName)) (z := (⟨"com/example/cubelet/cubelet/CellStore$Step", "takes", "(I)Z"⟩ : MethodName)) hown (mvT hZ (own_q hw 29 rfl)) (mvT hZ (own_q hw 30 rfl)) (notFace_of_selects (args := #[]) (mvT hZ (own_q hw 32 rfl))) (mvT hZ (own_q hw 32 rfl)) (mvT hZ (own_q hw 31 rfl)) (by decide) (backOf (W := 0) (rm_tkB_3 l Z a0 hw [] aS qq T490.heap n0 (Nat.le_trans Z0 EX490.1) b466 k466 ic0 ic1 ic2 Fx491 ⟨by omega, by omega, by omega⟩ FcS bb kb zb gb hB B_b (by rw [hzb]) hS hqq (1 : Int32) ⟨fun _ => rfl, fun z => absurd (by omega) z⟩) hZ (own_q hw 33 rfl) (own_q hw 8 rfl) (by decide) (by decide)) q501a q501c (g := (mkF m 428 #[.val (.int p0), .val (.int p1), .val (.int p2), .val (.int p3), .val (.int p4), .val (.int p5), .val (.int (4 : Int32)), .val (.int sm), .val (.long lim), .second, .val (.long C0), .second, .val (.long C1), .second, .val (.long C2), .second, .val (.long C3), .second, .val (.int (3 : Int32)), .val (.ref b466), .val (.int (((p5.toUInt32 >>> ((4 : Int32) &&& 31).toUInt32).toInt32) &&& (3 : Int32))), .val (.long pk), .second, .val (.int qq), .val (.ref aS), .val (.int (1 : Int32))] [(.int qq), (.ref aS)])) rfl (by rw [hml]; rfl) (Steps.refl _) (argsL := [(.int qq)]) (rest := []) (lenOf pd_219 rfl) rfl (by show 2 * 0 + _ ≤ _; exact Nat.le_of_eq rfl) (hb hby at_428) (fun _ _ => ⟨rfl, e490, (by decide : 3 + 0 ≤ _), (by decide : 41 + 0 ≤ _)⟩)
          dsimp only [Pt.U, Pt.locs, Pt.cells, Pt.slots] at X501 l501 y501 z501 st501 hQ501
          subst l501 y501 z501
          obtain ⟨rfl, N501q, e501⟩ := hQ501
          have N501 := Fr.app N490 N501q
          obtain ⟨fs, hr, hrun, hended, hW, hsame⟩ := X501.leave (v := some (.int (1 : Int32))) (fun h => by rw [Bd.returns] at h; cases h)
          refine ⟨_, _, ck499 _ ?_, hrun, hended, _, _, rfl, ?_, ⟨_, rfl⟩, hW, hsame.mono (by decide) (by decide)⟩
          · refine XS.aload X490.here hx rfl (hb hby at_424) rfl rfl ?_
            refine XS.iload X490.here hx rfl (hb hby at_426) rfl ?_
            refine st501.trans ?_
            show Steps p.tables e below (T501.setTop (mkF m 431 #[.val (.int p0), .val (.int p1), .val (.int p2), .val (.int p3), .val (.int p4), .val (.int p5), .val (.int (4 : Int32)), .val (.int sm), .val (.long lim), .second, .val (.long C0), .second, .val (.long C1), .second, .val (.long C2), .second, .val (.long C3), .second, .val (.int (3 : Int32)), .val (.ref b466), .val (.int (((p5.toUInt32 >>> ((4 : Int32) &&& 31).toUInt32).toInt32) &&& (3 : Int32))), .val (.long pk), .second, .val (.int qq), .val (.ref aS), .val (.int (1 : Int32))] [(.int (1 : Int32))])) _
            refine XS.iload X501.here hx rfl (hb hby at_431) rfl ?_
            refine XS.icmpNo X501.here hx rfl (hb hby at_433) rfl (teq (by decide : (1 : Int32) = (1 : Int32))).2 ?_
            refine XS.iconst X501.here hx rfl (hb hby at_436) ?_
            refine XS.goto X501.here hx rfl (pc0 := 437) (pc' := 441) rfl (hb hby at_437) (by decide) (by decide) ?_
            exact retN X501 hx (t := .boolean) Bd.returns (by simp) (hb hby at_441) hr
          · show own_Made (some (.int 1)) n0 _ T501.heap _
            rw [e501]
            exact ⟨rfl, N501, trivial⟩
      · -- pc 384: no
        have ck503 : ∀ t, Steps p.tables e below (T490.setTop (mkF m 399 #[.val (.int p0), .val (.int p1), .val (.int p2), .val (.int p3), .val (.int p4), .val (.int p5), .val (.int (4 : Int32)), .val (.int sm), .val (.long lim), .second, .val (.long C0), .second, .val (.long C1), .second, .val (.long C2), .second, .val (.long C3), .second, .val (.int (3 : Int32)), .val (.ref b466), .val (.int (((p5.toUInt32 >>> ((4 : Int32) &&& 31).toUInt32).toInt32) &&& (3 : Int32))), .val (.long pk), .second, .val (.int qq), .val (.ref aS), .unset] [(.int (lcmpW (qq.toInt64) C2))])) t → Steps p.tables e below (s₁.setTop (entryFrame m #[(.int p0), (.int p1), (.int p2), (.int p3), (.int p4), (.int p5)] maxLocals)) t := by
          intro t kt
          refine ck498 _ ?_
          refine XS.ifNo X490.here hx rfl (hb hby at_384) rfl ((if0 _ _).trans (feq hc384_497).1) ?_
          refine XS.iload X490.here hx rfl (hb hby at_387) rfl ?_
          refine XS.iconst X490.here hx rfl (hb hby at_389) ?_
          refine XS.icmpNo X490.here hx rfl (hb hby at_390) rfl (flt (by decide : ¬ ((3 : Int32) < (3 : Int32)))).1 ?_
          refine XS.iload X490.here hx rfl (hb hby at_393) rfl ?_
          refine XS.i2l X490.here hx rfl (hb hby at_395) rfl ?_
          refine XS.lload X490.here hx rfl (hb hby at_396) rfl ?_
          refine XS.lcmp X490.here hx rfl (hb hby at_398) rfl ?_
          exact kt
        by_cases hc399_502 : (lcmpW (qq.toInt64) C2) = (0 : Int32)
        · -- pc 399: yes
          have ck504 : ∀ t, Steps p.tables e below (T490.setTop (mkF m 424 #[.val (.int p0), .val (.int p1), .val (.int p2), .val (.int p3), .val (.int p4), .val (.int p5), .val (.int (4 : Int32)), .val (.int sm), .val (.long lim), .second, .val (.long C0), .second, .val (.long C1), .second, .val (.long C2), .second, .val (.long C3), .second, .val (.int (3 : Int32)), .val (.ref b466), .val (.int (((p5.toUInt32 >>> ((4 : Int32) &&& 31).toUInt32).toInt32) &&& (3 : Int32))), .val (.long pk), .second, .val (.int qq), .val (.ref aS), .val (.int (1 : Int32))] [])) t → Steps p.tables e below (s₁.setTop (entryFrame m #[(.int p0), (.int p1), (.int p2), (.int p3), (.int p4), (.int p5)] maxLocals)) t := by
            intro t kt
            refine ck503 _ ?_
            refine XS.ifYes X490.here hx rfl (pc0 := 399) (pc' := 417) rfl (hb hby at_399) rfl ((if0 _ _).trans (teq hc399_502).1) (by decide) (by decide) ?_
            refine XS.iconst X490.here hx rfl (hb hby at_417) ?_
            refine XS.goto X490.here hx rfl (pc0 := 418) (pc' := 422) rfl (hb hby at_418) (by decide) (by decide) ?_
            refine XS.istore X490.here hx rfl (hb hby at_422) rfl (l' := #[.val (.int p0), .val (.int p1), .val (.int p2), .val (.int p3), .val (.int p4), .val (.int p5), .val (.int (4 : Int32)), .val (.int sm), .val (.long lim), .second, .val (.long C0), .second, .val (.long C1), .second, .val (.long C2), .second, .val (.long C3), .second, .val (.int (3 : Int32)), .val (.ref b466), .val (.int (((p5.toUInt32 >>> ((4 : Int32) &&& 31).toUInt32).toInt32) &&& (3 : Int32))), .val (.long pk), .second, .val (.int qq), .val (.ref aS), .val (.int (1 : Int32))]) rfl ?_
            exact kt
          rcases hB with hB | ⟨bb, kb, zb, gb, hB, B_b, hzb, hS⟩
          · -- bits: S
            have d_hc369_492 := own_ne_lc hc369_492
            have d_hc384_497 := own_ne_lc hc384_497
            have d_hc399_502 := own_eq_lc hc399_502
            obtain ⟨cq505, kq505, q505a, q505b, q505c⟩ := isOf hZ e490 (ES)
            obtain ⟨_, _, ⟨T505, L505, k505, n505⟩, -, X505, ⟨Lc505, hQ505, l505, y505, z505⟩, st505⟩ := X490.virtualBack hx (y := (⟨"com/example/cubelet/cubelet/CellStore$Step", "takes", "(I)Z"⟩ : MethodName)) (z := (⟨"com/example/cubelet/cubelet/CellStore$Step", "takes", "(I)Z"⟩ : MethodName)) hown (mvT hZ (own_q hw 29 rfl)) (mvT hZ (own_q hw 30 rfl)) (notFace_of_selects (args := #[]) (mvT hZ (own_q hw 32 rfl))) (mvT hZ (own_q hw 32 rfl)) (mvT hZ (own_q hw 31 rfl)) (by decide) (backOf (W := 0) (rm_tkS_3 l Z a0 hw [] aS qq T490.heap n0 (Nat.le_trans Z0 EX490.1) b466 k466 ic0 ic1 ic2 Fx491 ⟨by omega, by omega, by omega⟩ FcS hB (1 : Int32) ⟨fun _ => rfl, fun z => absurd (by omega) z⟩) hZ (own_q hw 33 rfl) (own_q hw 8 rfl) (by decide) (by decide)) q505a q505c (g := (mkF m 428 #[.val (.int p0), .val (.int p1), .val (.int p2), .val (.int p3), .val (.int p4), .val (.int p5), .val (.int (4 : Int32)), .val (.int sm), .val (.long lim), .second, .val (.long C0), .second, .val (.long C1), .second, .val (.long C2), .second, .val (.long C3), .second, .val (.int (3 : Int32)), .val (.ref b466), .val (.int (((p5.toUInt32 >>> ((4 : Int32) &&& 31).toUInt32).toInt32) &&& (3 : Int32))), .val (.long pk), .second, .val (.int qq), .val (.ref aS), .val (.int (1 : Int32))] [(.int qq), (.ref aS)])) rfl (by rw [hml]; rfl) (Steps.refl _) (argsL := [(.int qq)]) (rest := []) (lenOf pd_219 rfl) rfl (by show 2 * 0 + _ ≤ _; exact Nat.le_of_eq rfl) (hb hby at_428) (fun _ _ => ⟨rfl, e490, (by decide : 3 + 0 ≤ _), (by decide : 41 + 0 ≤ _)⟩)
            dsimp only [Pt.U, Pt.locs, Pt.cells, Pt.slots] at X505 l505 y505 z505 st505 hQ505
            subst l505 y505 z505
            obtain ⟨rfl, N505q, e505⟩ := hQ505
            have N505 := Fr.app N490 N505q
            obtain ⟨fs, hr, hrun, hended, hW, hsame⟩ := X505.leave (v := some (.int (1 : Int32))) (fun h => by rw [Bd.returns] at h; cases h)
            refine ⟨_, _, ck504 _ ?_, hrun, hended, _, _, rfl, ?_, ⟨_, rfl⟩, hW, hsame.mono (by decide) (by decide)⟩
            · refine XS.aload X490.here hx rfl (hb hby at_424) rfl rfl ?_
              refine XS.iload X490.here hx rfl (hb hby at_426) rfl ?_
              refine st505.trans ?_
              show Steps p.tables e below (T505.setTop (mkF m 431 #[.val (.int p0), .val (.int p1), .val (.int p2), .val (.int p3), .val (.int p4), .val (.int p5), .val (.int (4 : Int32)), .val (.int sm), .val (.long lim), .second, .val (.long C0), .second, .val (.long C1), .second, .val (.long C2), .second, .val (.long C3), .second, .val (.int (3 : Int32)), .val (.ref b466), .val (.int (((p5.toUInt32 >>> ((4 : Int32) &&& 31).toUInt32).toInt32) &&& (3 : Int32))), .val (.long pk), .second, .val (.int qq), .val (.ref aS), .val (.int (1 : Int32))] [(.int (1 : Int32))])) _
              refine XS.iload X505.here hx rfl (hb hby at_431) rfl ?_
              refine XS.icmpNo X505.here hx rfl (hb hby at_433) rfl (teq (by decide : (1 : Int32) = (1 : Int32))).2 ?_
              refine XS.iconst X505.here hx rfl (hb hby at_436) ?_
              refine XS.goto X505.here hx rfl (pc0 := 437) (pc' := 441) rfl (hb hby at_437) (by decide) (by decide) ?_
              exact retN X505 hx (t := .boolean) Bd.returns (by simp) (hb hby at_441) hr
            · show own_Made (some (.int 1)) n0 _ T505.heap _
              rw [e505]
              exact ⟨rfl, N505, trivial⟩
          · -- bits: B
            have d_hc369_492 := own_ne_lc hc369_492
            have d_hc384_497 := own_ne_lc hc384_497
            have d_hc399_502 := own_eq_lc hc399_502
            obtain ⟨cq506, kq506, q506a, q506b, q506c⟩ := isOf hZ e490 (ES)
            obtain ⟨_, _, ⟨T506, L506, k506, n506⟩, -, X506, ⟨Lc506, hQ506, l506, y506, z506⟩, st506⟩ := X490.virtualBack hx (y := (⟨"com/example/cubelet/cubelet/CellStore$Step", "takes", "(I)Z"⟩ : MethodName)) (z := (⟨"com/example/cubelet/cubelet/CellStore$Step", "takes", "(I)Z"⟩ : MethodName)) hown (mvT hZ (own_q hw 29 rfl)) (mvT hZ (own_q hw 30 rfl)) (notFace_of_selects (args := #[]) (mvT hZ (own_q hw 32 rfl))) (mvT hZ (own_q hw 32 rfl)) (mvT hZ (own_q hw 31 rfl)) (by decide) (backOf (W := 0) (rm_tkB_3 l Z a0 hw [] aS qq T490.heap n0 (Nat.le_trans Z0 EX490.1) b466 k466 ic0 ic1 ic2 Fx491 ⟨by omega, by omega, by omega⟩ FcS bb kb zb gb hB B_b (by rw [hzb]) hS hqq (1 : Int32) ⟨fun _ => rfl, fun z => absurd (by omega) z⟩) hZ (own_q hw 33 rfl) (own_q hw 8 rfl) (by decide) (by decide)) q506a q506c (g := (mkF m 428 #[.val (.int p0), .val (.int p1), .val (.int p2), .val (.int p3), .val (.int p4), .val (.int p5), .val (.int (4 : Int32)), .val (.int sm), .val (.long lim), .second, .val (.long C0), .second, .val (.long C1), .second, .val (.long C2), .second, .val (.long C3), .second, .val (.int (3 : Int32)), .val (.ref b466), .val (.int (((p5.toUInt32 >>> ((4 : Int32) &&& 31).toUInt32).toInt32) &&& (3 : Int32))), .val (.long pk), .second, .val (.int qq), .val (.ref aS), .val (.int (1 : Int32))] [(.int qq), (.ref aS)])) rfl (by rw [hml]; rfl) (Steps.refl _) (argsL := [(.int qq)]) (rest := []) (lenOf pd_219 rfl) rfl (by show 2 * 0 + _ ≤ _; exact Nat.le_of_eq rfl) (hb hby at_428) (fun _ _ => ⟨rfl, e490, (by decide : 3 + 0 ≤ _), (by decide : 41 + 0 ≤ _)⟩)
            dsimp only [Pt.U, Pt.locs, Pt.cells, Pt.slots] at X506 l506 y506 z506 st506 hQ506
            subst l506 y506 z506
            obtain ⟨rfl, N506q, e506⟩ := hQ506
            have N506 := Fr.app N490 N506q
            obtain ⟨fs, hr, hrun, hended, hW, hsame⟩ := X506.leave (v := some (.int (1 : Int32))) (fun h => by rw [Bd.returns] at h; cases h)
            refine ⟨_, _, ck504 _ ?_, hrun, hended, _, _, rfl, ?_, ⟨_, rfl⟩, hW, hsame.mono (by decide) (by decide)⟩
            · refine XS.aload X490.here hx rfl (hb hby at_424) rfl rfl ?_
              refine XS.iload X490.here hx rfl (hb hby at_426) rfl ?_
              refine st506.trans ?_
              show Steps p.tables e below (T506.setTop (mkF m 431 #[.val (.int p0), .val (.int p1), .val (.int p2), .val (.int p3), .val (.int p4), .val (.int p5), .val (.int (4 : Int32)), .val (.int sm), .val (.long lim), .second, .val (.long C0), .second, .val (.long C1), .second, .val (.long C2), .second, .val (.long C3), .second, .val (.int (3 : Int32)), .val (.ref b466), .val (.int (((p5.toUInt32 >>> ((4 : Int32) &&& 31).toUInt32).toInt32) &&& (3 : Int32))), .val (.long pk), .second, .val (.int qq), .val (.ref aS), .val (.int (1 : Int32))] [(.int (1 : Int32))])) _
              refine XS.iload X506.here hx rfl (hb hby at_431) rfl ?_
              refine XS.icmpNo X506.here hx rfl (hb hby at_433) rfl (teq (by decide : (1 : Int32) = (1 : Int32))).2 ?_
              refine XS.iconst X506.here hx rfl (hb hby at_436) ?_
              refine XS.goto X506.here hx rfl (pc0 := 437) (pc' := 441) rfl (hb hby at_437) (by decide) (by decide) ?_
              exact retN X506 hx (t := .boolean) Bd.returns (by simp) (hb hby at_441) hr
            · show own_Made (some (.int 1)) n0 _ T506.heap _
              rw [e506]
              exact ⟨rfl, N506, trivial⟩
        · -- pc 399: no
          have ck507 : ∀ t, Steps p.tables e below (T490.setTop (mkF m 424 #[.val (.int p0), .val (.int p1), .val (.int p2), .val (.int p3), .val (.int p4), .val (.int p5), .val (.int (4 : Int32)), .val (.int sm), .val (.long lim), .second, .val (.long C0), .second, .val (.long C1), .second, .val (.long C2), .second, .val (.long C3), .second, .val (.int (3 : Int32)), .val (.ref b466), .val (.int (((p5.toUInt32 >>> ((4 : Int32) &&& 31).toUInt32).toInt32) &&& (3 : Int32))), .val (.long pk), .second, .val (.int qq), .val (.ref aS), .val (.int (0 : Int32))] [])) t → Steps p.tables e below (s₁.setTop (entryFrame m #[(.int p0), (.int p1), (.int p2), (.int p3), (.int p4), (.int p5)] maxLocals)) t := by
            intro t kt
            refine ck503 _ ?_
            refine XS.ifNo X490.here hx rfl (hb hby at_399) rfl ((if0 _ _).trans (feq hc399_502).1) ?_
            refine XS.iload X490.here hx rfl (hb hby at_402) rfl ?_
            refine XS.iconst X490.here hx rfl (hb hby at_404) ?_
            refine XS.icmpYes X490.here hx rfl (pc0 := 405) (pc' := 421) rfl (hb hby at_405) rfl (tlt (by decide : (3 : Int32) < (4 : Int32))).1 (by decide) (by decide) ?_
            refine XS.iconst X490.here hx rfl (hb hby at_421) ?_
            refine XS.istore X490.here hx rfl (hb hby at_422) rfl (l' := #[.val (.int p0), .val (.int p1), .val (.int p2), .val (.int p3), .val (.int p4), .val (.int p5), .val (.int (4 : Int32)), .val (.int sm), .val (.long lim), .second, .val (.long C0), .second, .val (.long C1), .second, .val (.long C2), .second, .val (.long C3), .second, .val (.int (3 : Int32)), .val (.ref b466), .val (.int (((p5.toUInt32 >>> ((4 : Int32) &&& 31).toUInt32).toInt32) &&& (3 : Int32))), .val (.long pk), .second, .val (.int qq), .val (.ref aS), .val (.int (0 : Int32))]) rfl ?_
            exact kt
          rcases hB with hB | ⟨bb, kb, zb, gb, hB, B_b, hzb, hS⟩
          · -- bits: S
            have d_hc369_492 := own_ne_lc hc369_492
            have d_hc384_497 := own_ne_lc hc384_497
            have d_hc399_502 := own_ne_lc hc399_502
            obtain ⟨cq508, kq508, q508a, q508b, q508c⟩ := isOf hZ e490 (ES)
            obtain ⟨_, _, ⟨T508, L508, k508, n508⟩, -, X508, ⟨Lc508, hQ508, l508, y508, z508⟩, st508⟩ := X490.virtualBack hx (y := (⟨"com/example/cubelet/cubelet/CellStore$Step", "takes", "(I)Z"⟩ : MethodName)) (z := (⟨"com/example/cubelet/cubelet/CellStore$Step", "takes", "(I)Z"⟩ : MethodName)) hown (mvT hZ (own_q hw 29 rfl)) (mvT hZ (own_q hw 30 rfl)) (notFace_of_selects (args := #[]) (mvT hZ (own_q hw 32 rfl))) (mvT hZ (own_q hw 32 rfl)) (mvT hZ (own_q hw 31 rfl)) (by decide) (backOf (W := 0) (rm_tkS_3 l Z a0 hw [] aS qq T490.heap n0 (Nat.le_trans Z0 EX490.1) b466 k466 ic0 ic1 ic2 Fx491 ⟨by omega, by omega, by omega⟩ FcS hB (0 : Int32) ⟨fun z => absurd z (by omega), fun _ => rfl⟩) hZ (own_q hw 33 rfl) (own_q hw 8 rfl) (by decide) (by decide)) q508a q508c (g := (mkF m 428 #[.val (.int p0), .val (.int p1), .val (.int p2), .val (.int p3), .val (.int p4), .val (.int p5), .val (.int (4 : Int32)), .val (.int sm), .val (.long lim), .second, .val (.long C0), .second, .val (.long C1), .second, .val (.long C2), .second, .val (.long C3), .second, .val (.int (3 : Int32)), .val (.ref b466), .val (.int (((p5.toUInt32 >>> ((4 : Int32) &&& 31).toUInt32).toInt32) &&& (3 : Int32))), .val (.long pk), .second, .val (.int qq), .val (.ref aS), .val (.int (0 : Int32))] [(.int qq), (.ref aS)])) rfl (by rw [hml]; rfl) (Steps.refl _) (argsL := [(.int qq)]) (rest := []) (lenOf pd_219 rfl) rfl (by show 2 * 0 + _ ≤ _; exact Nat.le_of_eq rfl) (hb hby at_428) (fun _ _ => ⟨rfl, e490, (by decide : 3 + 0 ≤ _), (by decide : 41 + 0 ≤ _)⟩)
            dsimp only [Pt.U, Pt.locs, Pt.cells, Pt.slots] at X508 l508 y508 z508 st508 hQ508
            subst l508 y508 z508
            obtain ⟨rfl, N508q, e508⟩ := hQ508
            have N508 := Fr.app N490 N508q
            obtain ⟨fs, hr, hrun, hended, hW, hsame⟩ := X508.leave (v := some (.int (1 : Int32))) (fun h => by rw [Bd.returns] at h; cases h)
            refine ⟨_, _, ck507 _ ?_, hrun, hended, _, _, rfl, ?_, ⟨_, rfl⟩, hW, hsame.mono (by decide) (by decide)⟩
            · refine XS.aload X490.here hx rfl (hb hby at_424) rfl rfl ?_
              refine XS.iload X490.here hx rfl (hb hby at_426) rfl ?_
              refine st508.trans ?_
              show Steps p.tables e below (T508.setTop (mkF m 431 #[.val (.int p0), .val (.int p1), .val (.int p2), .val (.int p3), .val (.int p4), .val (.int p5), .val (.int (4 : Int32)), .val (.int sm), .val (.long lim), .second, .val (.long C0), .second, .val (.long C1), .second, .val (.long C2), .second, .val (.long C3), .second, .val (.int (3 : Int32)), .val (.ref b466), .val (.int (((p5.toUInt32 >>> ((4 : Int32) &&& 31).toUInt32).toInt32) &&& (3 : Int32))), .val (.long pk), .second, .val (.int qq), .val (.ref aS), .val (.int (0 : Int32))] [(.int (0 : Int32))])) _
              refine XS.iload X508.here hx rfl (hb hby at_431) rfl ?_
              refine XS.icmpNo X508.here hx rfl (hb hby at_433) rfl (teq (by decide : (0 : Int32) = (0 : Int32))).2 ?_
              refine XS.iconst X508.here hx rfl (hb hby at_436) ?_
              refine XS.goto X508.here hx rfl (pc0 := 437) (pc' := 441) rfl (hb hby at_437) (by decide) (by decide) ?_
              exact retN X508 hx (t := .boolean) Bd.returns (by simp) (hb hby at_441) hr
            · show own_Made (some (.int 1)) n0 _ T508.heap _
              rw [e508]
              exact ⟨rfl, N508, trivial⟩
          · -- bits: B
            have d_hc369_492 := own_ne_lc hc369_492
            have d_hc384_497 := own_ne_lc hc384_497
            have d_hc399_502 := own_ne_lc hc399_502
            obtain ⟨cq509, kq509, q509a, q509b, q509c⟩ := isOf hZ e490 (ES)
            obtain ⟨_, _, ⟨T509, L509, k509, n509⟩, -, X509, ⟨Lc509, hQ509, l509, y509, z509⟩, st509⟩ := X490.virtualBack hx (y := (⟨"com/example/cubelet/cubelet/CellStore$Step", "takes", "(I)Z"⟩ : MethodName)) (z := (⟨"com/example/cubelet/cubelet/CellStore$Step", "takes", "(I)Z"⟩ : MethodName)) hown (mvT hZ (own_q hw 29 rfl)) (mvT hZ (own_q hw 30 rfl)) (notFace_of_selects (args := #[]) (mvT hZ (own_q hw 32 rfl))) (mvT hZ (own_q hw 32 rfl)) (mvT hZ (own_q hw 31 rfl)) (by decide) (backOf (W := 0) (rm_tkB_3 l Z a0 hw [] aS qq T490.heap n0 (Nat.le_trans Z0 EX490.1) b466 k466 ic0 ic1 ic2 Fx491 ⟨by omega, by omega, by omega⟩ FcS bb kb zb gb hB B_b (by rw [hzb]) hS hqq (0 : Int32) ⟨fun z => absurd z (by omega), fun _ => rfl⟩) hZ (own_q hw 33 rfl) (own_q hw 8 rfl) (by decide) (by decide)) q509a q509c (g := (mkF m 428 #[.val (.int p0), .val (.int p1), .val (.int p2), .val (.int p3), .val (.int p4), .val (.int p5), .val (.int (4 : Int32)), .val (.int sm), .val (.long lim), .second, .val (.long C0), .second, .val (.long C1), .second, .val (.long C2), .second, .val (.long C3), .second, .val (.int (3 : Int32)), .val (.ref b466), .val (.int (((p5.toUInt32 >>> ((4 : Int32) &&& 31).toUInt32).toInt32) &&& (3 : Int32))), .val (.long pk), .second, .val (.int qq), .val (.ref aS), .val (.int (0 : Int32))] [(.int qq), (.ref aS)])) rfl (by rw [hml]; rfl) (Steps.refl _) (argsL := [(.int qq)]) (rest := []) (lenOf pd_219 rfl) rfl (by show 2 * 0 + _ ≤ _; exact Nat.le_of_eq rfl) (hb hby at_428) (fun _ _ => ⟨rfl, e490, (by decide : 3 + 0 ≤ _), (by decide : 41 + 0 ≤ _)⟩)
            dsimp only [Pt.U, Pt.locs, Pt.cells, Pt.slots] at X509 l509 y509 z509 st509 hQ509
            subst l509 y509 z509
            obtain ⟨rfl, N509q, e509⟩ := hQ509
            have N509 := Fr.app N490 N509q
            obtain ⟨fs, hr, hrun, hended, hW, hsame⟩ := X509.leave (v := some (.int (1 : Int32))) (fun h => by rw [Bd.returns] at h; cases h)
            refine ⟨_, _, ck507 _ ?_, hrun, hended, _, _, rfl, ?_, ⟨_, rfl⟩, hW, hsame.mono (by decide) (by decide)⟩
            · refine XS.aload X490.here hx rfl (hb hby at_424) rfl rfl ?_
              refine XS.iload X490.here hx rfl (hb hby at_426) rfl ?_
              refine st509.trans ?_
              show Steps p.tables e below (T509.setTop (mkF m 431 #[.val (.int p0), .val (.int p1), .val (.int p2), .val (.int p3), .val (.int p4), .val (.int p5), .val (.int (4 : Int32)), .val (.int sm), .val (.long lim), .second, .val (.long C0), .second, .val (.long C1), .second, .val (.long C2), .second, .val (.long C3), .second, .val (.int (3 : Int32)), .val (.ref b466), .val (.int (((p5.toUInt32 >>> ((4 : Int32) &&& 31).toUInt32).toInt32) &&& (3 : Int32))), .val (.long pk), .second, .val (.int qq), .val (.ref aS), .val (.int (0 : Int32))] [(.int (0 : Int32))])) _
              refine XS.iload X509.here hx rfl (hb hby at_431) rfl ?_
              refine XS.icmpNo X509.here hx rfl (hb hby at_433) rfl (teq (by decide : (0 : Int32) = (0 : Int32))).2 ?_
              refine XS.iconst X509.here hx rfl (hb hby at_436) ?_
              refine XS.goto X509.here hx rfl (pc0 := 437) (pc' := 441) rfl (hb hby at_437) (by decide) (by decide) ?_
              exact retN X509 hx (t := .boolean) Bd.returns (by simp) (hb hby at_441) hr
            · show own_Made (some (.int 1)) n0 _ T509.heap _
              rw [e509]
              exact ⟨rfl, N509, trivial⟩
  · -- flags & 7 is 5
    have hn7 : n7 = (5 : Int32) ∨ n7 = (6 : Int32) ∨ n7 = (7 : Int32) := by rw [← h_n7]; exact hn
    obtain ⟨_, _, ⟨T510, L510, k510, n510⟩, -, X510, ⟨Lc510, hQ510, l510, y510, z510⟩, st510⟩ := Jvm.LawKit.callS X355 hx (y := (⟨"java/lang/Math", "min", "(II)I"⟩ : MethodName)) hown (mvT hZ (own_q hw 1 rfl)) (mvT hZ (own_q hw 2 rfl)) (mvT hZ (own_q hw 3 rfl)) (mvT hZ (own_q hw 4 rfl)) (by decide) (backOf (W := 0) (rm_minI l Z a0 hw [] (n7 - (1 : Int32)) (4 : Int32) h0 n0 Z0 (4 : Int32) (own_n7 hn7).2) hZ (own_q hw 4 rfl) (own_q hw 3 rfl) (by decide) (by decide)) (g := (mkF m 122 #[.val (.int p0), .val (.int p1), .val (.int p2), .val (.int p3), .val (.int p4), .val (.int p5), .val (.int n7), .val (.int sm), .val (.long lim), .second, .val (.long C0), .second, .val (.long C1), .second, .val (.long C2), .second, .val (.long C3), .second, .unset, .unset, .unset, .unset, .unset, .unset, .unset, .unset] [(.int (4 : Int32)), (.int (n7 - (1 : Int32)))])) rfl (by rw [hml]; rfl) (argsL := [(.int (n7 - (1 : Int32))), (.int (4 : Int32))]) (rest := []) (lenOf pd_220 rfl) rfl (by show 2 * 0 + _ ≤ _; exact Nat.le_of_eq rfl) (hb hby at_122) (fun _ _ => ⟨rfl, e355, (by decide : 0 + 0 ≤ _), (by decide : 0 + 0 ≤ _)⟩)
    dsimp only [Pt.U, Pt.locs, Pt.cells, Pt.slots] at X510 l510 y510 z510 st510 hQ510
    subst l510 y510 z510
    obtain ⟨rfl, N510q, e510⟩ := hQ510
    have N510 := Fr.app N355 N510q
    obtain ⟨T511, h511, k511, X511, e511, E511, A511, st511⟩ := newP X510 hx hZ (own_q hw 5 rfl) e510 (g := (mkF m 228 #[.val (.int p0), .val (.int p1), .val (.int p2), .val (.int p3), .val (.int p4), .val (.int p5), .val (.int n7), .val (.int sm), .val (.long lim), .second, .val (.long C0), .second, .val (.long C1), .second, .val (.long C2), .second, .val (.long C3), .second, .val (.int (4 : Int32)), .val .null, .unset, .unset, .unset, .unset, .unset, .unset] [(.int (4 : Int32))])) rfl (hb hby at_228) rfl (by decide) (cap := 4) (by decide) (by decide) (by decide) (by decide)
    obtain ⟨b511, g511⟩ : ∃ z, z = h0.size := ⟨_, rfl⟩
    rw [← g511] at A511 st511
    have sz_b511 : h0.size ≤ b511 := Nat.le_trans (Keep.refl h0 []).1 (Nat.le_of_eq g511.symm)
    have gn_b511 : n0 ≤ b511 := Nat.le_trans Z0 sz_b511
    have EX511 := own_ext_trans (own_ext_refl h0) E511
    have KP511 := Keep.ext (Keep.refl h0 []) E511
    have V511 : Arv Z h511 b511 k511 .int (4 : Int32) [(.int (0 : Int32)), (.int (0 : Int32)), (.int (0 : Int32)), (.int (0 : Int32))] (.int (0 : Int32)) := (Arv.new A511 (by decide)).pad (pad_rep [] (.int (0 : Int32)) 4)
    obtain ⟨ic0, h_ic0⟩ : ∃ zQ : Int32, (C0.toInt32) = zQ := ⟨_, rfl⟩
    have hic0 : ic0.toInt = C0.toInt := by rw [← h_ic0]; exact own_ic (by omega)
    have Vc512 := V511
    obtain ⟨cl512, Ar512, q512, S512, N512_, H512_, G512⟩ := Vc512
    have hin512 : ¬ ((0 : Int32) < 0 ∨ cl512.slots.size ≤ ((0 : Int32)).toNatClampNeg) := inb_of S512 ⟨by decide, by decide⟩
    obtain ⟨T513, h513, X513, e513, W513, st513⟩ := stI X511 hx hZ e511 Ar512 (j := (0 : Int32)) hin512 (g := (mkF m 235 #[.val (.int p0), .val (.int p1), .val (.int p2), .val (.int p3), .val (.int p4), .val (.int p5), .val (.int n7), .val (.int sm), .val (.long lim), .second, .val (.long C0), .second, .val (.long C1), .second, .val (.long C2), .second, .val (.long C3), .second, .val (.int (4 : Int32)), .val .null, .unset, .unset, .unset, .unset, .unset, .unset] [(.int ic0), (.int (0 : Int32)), (.ref b511), (.ref b511)])) rfl rfl (hb hby at_235)
    have EX513 := own_ext_wr EX511 W513 sz_b511
    have KP513 := Keep.wr KP511 W513 (Or.inr sz_b511)
    have V513 : Arv Z h513 b511 k511 .int (4 : Int32) [(.int ic0), (.int (0 : Int32)), (.int (0 : Int32)), (.int (0 : Int32))] (.int (0 : Int32)) := Arv.set Ar512 q512 S512 N512_ H512_ G512 rfl W513 0 rfl (Nat.le_of_ble_eq_true rfl)
    have N513 := Fr.snoc X513 N510 gn_b511
    obtain ⟨ic1, h_ic1⟩ : ∃ zQ : Int32, (C1.toInt32) = zQ := ⟨_, rfl⟩
    have hic1 : ic1.toInt = C1.toInt := by rw [← h_ic1]; exact own_ic (by omega)
    have Vc514 := V513
    obtain ⟨cl514, Ar514, q514, S514, N514_, H514_, G514⟩ := Vc514
    have hin514 : ¬ ((1 : Int32) < 0 ∨ cl514.slots.size ≤ ((1 : Int32)).toNatClampNeg) := inb_of S514 ⟨by decide, by decide⟩
    obtain ⟨T515, h515, X515, e515, W515, st515⟩ := stI X513 hx hZ e513 Ar514 (j := (1 : Int32)) hin514 (g := (mkF m 241 #[.val (.int p0), .val (.int p1), .val (.int p2), .val (.int p3), .val (.int p4), .val (.int p5), .val (.int n7), .val (.int sm), .val (.long lim), .second, .val (.long C0), .second, .val (.long C1), .second, .val (.long C2), .second, .val (.long C3), .second, .val (.int (4 : Int32)), .val .null, .unset, .unset, .unset, .unset, .unset, .unset] [(.int ic1), (.int (1 : Int32)), (.ref b511), (.ref b511)])) rfl rfl (hb hby at_241)
    have EX515 := own_ext_wr EX513 W515 sz_b511
    have KP515 := Keep.wr KP513 W515 (Or.inr sz_b511)
    have V515 : Arv Z h515 b511 k511 .int (4 : Int32) [(.int ic0), (.int ic1), (.int (0 : Int32)), (.int (0 : Int32))] (.int (0 : Int32)) := Arv.set Ar514 q514 S514 N514_ H514_ G514 rfl W515 1 rfl (Nat.le_of_ble_eq_true rfl)
    have N515 := Fr.snoc X515 N513 gn_b511
    obtain ⟨ic2, h_ic2⟩ : ∃ zQ : Int32, (C2.toInt32) = zQ := ⟨_, rfl⟩
    have hic2 : ic2.toInt = C2.toInt := by rw [← h_ic2]; exact own_ic (by omega)
    have Vc516 := V515
    obtain ⟨cl516, Ar516, q516, S516, N516_, H516_, G516⟩ := Vc516
    have hin516 : ¬ ((2 : Int32) < 0 ∨ cl516.slots.size ≤ ((2 : Int32)).toNatClampNeg) := inb_of S516 ⟨by decide, by decide⟩
    obtain ⟨T517, h517, X517, e517, W517, st517⟩ := stI X515 hx hZ e515 Ar516 (j := (2 : Int32)) hin516 (g := (mkF m 247 #[.val (.int p0), .val (.int p1), .val (.int p2), .val (.int p3), .val (.int p4), .val (.int p5), .val (.int n7), .val (.int sm), .val (.long lim), .second, .val (.long C0), .second, .val (.long C1), .second, .val (.long C2), .second, .val (.long C3), .second, .val (.int (4 : Int32)), .val .null, .unset, .unset, .unset, .unset, .unset, .unset] [(.int ic2), (.int (2 : Int32)), (.ref b511), (.ref b511)])) rfl rfl (hb hby at_247)
    have EX517 := own_ext_wr EX515 W517 sz_b511
    have KP517 := Keep.wr KP515 W517 (Or.inr sz_b511)
    have V517 : Arv Z h517 b511 k511 .int (4 : Int32) [(.int ic0), (.int ic1), (.int ic2), (.int (0 : Int32))] (.int (0 : Int32)) := Arv.set Ar516 q516 S516 N516_ H516_ G516 rfl W517 2 rfl (Nat.le_of_ble_eq_true rfl)
    have N517 := Fr.snoc X517 N515 gn_b511
    obtain ⟨ic3, h_ic3⟩ : ∃ zQ : Int32, (C3.toInt32) = zQ := ⟨_, rfl⟩
    have hic3 : ic3.toInt = C3.toInt := by rw [← h_ic3]; exact own_ic (by omega)
    have Vc518 := V517
    obtain ⟨cl518, Ar518, q518, S518, N518_, H518_, G518⟩ := Vc518
    have hin518 : ¬ ((3 : Int32) < 0 ∨ cl518.slots.size ≤ ((3 : Int32)).toNatClampNeg) := inb_of S518 ⟨by decide, by decide⟩
    obtain ⟨T519, h519, X519, e519, W519, st519⟩ := stI X517 hx hZ e517 Ar518 (j := (3 : Int32)) hin518 (g := (mkF m 253 #[.val (.int p0), .val (.int p1), .val (.int p2), .val (.int p3), .val (.int p4), .val (.int p5), .val (.int n7), .val (.int sm), .val (.long lim), .second, .val (.long C0), .second, .val (.long C1), .second, .val (.long C2), .second, .val (.long C3), .second, .val (.int (4 : Int32)), .val .null, .unset, .unset, .unset, .unset, .unset, .unset] [(.int ic3), (.int (3 : Int32)), (.ref b511), (.ref b511)])) rfl rfl (hb hby at_253)
    have EX519 := own_ext_wr EX517 W519 sz_b511
    have KP519 := Keep.wr KP517 W519 (Or.inr sz_b511)
    have V519 : Arv Z h519 b511 k511 .int (4 : Int32) [(.int ic0), (.int ic1), (.int ic2), (.int ic3)] (.int (0 : Int32)) := Arv.set Ar518 q518 S518 N518_ H518_ G518 rfl W519 3 rfl (Nat.le_of_ble_eq_true rfl)
    have N519 := Fr.snoc X519 N517 gn_b511
    have ck520 : ∀ t, Steps p.tables e below (T519.setTop (mkF m 264 #[.val (.int p0), .val (.int p1), .val (.int p2), .val (.int p3), .val (.int p4), .val (.int p5), .val (.int n7), .val (.int sm), .val (.long lim), .second, .val (.long C0), .second, .val (.long C1), .second, .val (.long C2), .second, .val (.long C3), .second, .val (.int (4 : Int32)), .val (.ref b511), .val (.int (((p5.toUInt32 >>> ((4 : Int32) &&& 31).toUInt32).toInt32) &&& (3 : Int32))), .unset, .unset, .unset, .unset, .unset] [])) t → Steps p.tables e below (s₁.setTop (entryFrame m #[(.int p0), (.int p1), (.int p2), (.int p3), (.int p4), (.int p5)] maxLocals)) t := by
      intro t kt
      refine ck358 _ ?_
      refine XS.iload X355.here hx rfl (hb hby at_108) rfl ?_
      refine XS.ifYes X355.here hx rfl (pc0 := 110) (pc' := 117) rfl (hb hby at_110) rfl ((if0 _ _).trans (feq ((own_n7 hn7).1 : ¬ (n7 = (0 : Int32)))).2) (by decide) (by decide) ?_
      refine XS.iload X355.here hx rfl (hb hby at_117) rfl ?_
      refine XS.iconst X355.here hx rfl (hb hby at_119) ?_
      refine XS.isub X355.here hx rfl (hb hby at_120) rfl ?_
      refine XS.iconst X355.here hx rfl (hb hby at_121) ?_
      refine st510 _ ?_
      show Steps p.tables e below (T510.setTop (mkF m 125 #[.val (.int p0), .val (.int p1), .val (.int p2), .val (.int p3), .val (.int p4), .val (.int p5), .val (.int n7), .val (.int sm), .val (.long lim), .second, .val (.long C0), .second, .val (.long C1), .second, .val (.long C2), .second, .val (.long C3), .second, .unset, .unset, .unset, .unset, .unset, .unset, .unset, .unset] [(.int (4 : Int32))])) _
      refine XS.istore X510.here hx rfl (hb hby at_125) rfl (l' := #[.val (.int p0), .val (.int p1), .val (.int p2), .val (.int p3), .val (.int p4), .val (.int p5), .val (.int n7), .val (.int sm), .val (.long lim), .second, .val (.long C0), .second, .val (.long C1), .second, .val (.long C2), .second, .val (.long C3), .second, .val (.int (4 : Int32)), .unset, .unset, .unset, .unset, .unset, .unset, .unset]) rfl ?_
      refine XS.aconstNull X510.here hx rfl (hb hby at_127) ?_
      refine XS.astore X510.here hx rfl (hb hby at_128) rfl rfl (l' := #[.val (.int p0), .val (.int p1), .val (.int p2), .val (.int p3), .val (.int p4), .val (.int p5), .val (.int n7), .val (.int sm), .val (.long lim), .second, .val (.long C0), .second, .val (.long C1), .second, .val (.long C2), .second, .val (.long C3), .second, .val (.int (4 : Int32)), .val .null, .unset, .unset, .unset, .unset, .unset, .unset]) rfl ?_
      refine XS.iload X510.here hx rfl (hb hby at_130) rfl ?_
      refine XS.ifYes X510.here hx rfl (pc0 := 132) (pc' := 143) rfl (hb hby at_132) rfl ((if0 _ _).trans (feq (by decide : ¬ ((4 : Int32) = (0 : Int32)))).2) (by decide) (by decide) ?_
      refine XS.iload X510.here hx rfl (hb hby at_143) rfl ?_
      refine XS.iconst X510.here hx rfl (hb hby at_145) ?_
      refine XS.icmpYes X510.here hx rfl (pc0 := 146) (pc' := 163) rfl (hb hby at_146) rfl (feq (by decide : ¬ ((4 : Int32) = (1 : Int32)))).2 (by decide) (by decide) ?_
      refine XS.iload X510.here hx rfl (hb hby at_163) rfl ?_
      refine XS.iconst X510.here hx rfl (hb hby at_165) ?_
      refine XS.icmpYes X510.here hx rfl (pc0 := 166) (pc' := 189) rfl (hb hby at_166) rfl (feq (by decide : ¬ ((4 : Int32) = (2 : Int32)))).2 (by decide) (by decide) ?_
      refine XS.iload X510.here hx rfl (hb hby at_189) rfl ?_
      refine XS.iconst X510.here hx rfl (hb hby at_191) ?_
      refine XS.icmpYes X510.here hx rfl (pc0 := 192) (pc' := 221) rfl (hb hby at_192) rfl (feq (by decide : ¬ ((4 : Int32) = (3 : Int32)))).2 (by decide) (by decide) ?_
      refine XS.iload X510.here hx rfl (hb hby at_221) rfl ?_
      refine XS.iconst X510.here hx rfl (hb hby at_223) ?_
      refine XS.icmpNo X510.here hx rfl (hb hby at_224) rfl (teq (by decide : (4 : Int32) = (4 : Int32))).2 ?_
      refine XS.iconst X510.here hx rfl (hb hby at_227) ?_
      refine st511 _ ?_
      show Steps p.tables e below (T511.setTop (mkF m 230 #[.val (.int p0), .val (.int p1), .val (.int p2), .val (.int p3), .val (.int p4), .val (.int p5), .val (.int n7), .val (.int sm), .val (.long lim), .second, .val (.long C0), .second, .val (.long C1), .second, .val (.long C2), .second, .val (.long C3), .second, .val (.int (4 : Int32)), .val .null, .unset, .unset, .unset, .unset, .unset, .unset] [(.ref b511)])) _
      refine XS.dup X511.here hx rfl (hb hby at_230) rfl rfl ?_
      refine XS.iconst X511.here hx rfl (hb hby at_231) ?_
      refine XS.lload X511.here hx rfl (hb hby at_232) rfl ?_
      refine XS.l2i X511.here hx rfl (hb hby at_234) rfl ?_
      show Steps p.tables e below (T511.setTop (mkF m 235 #[.val (.int p0), .val (.int p1), .val (.int p2), .val (.int p3), .val (.int p4), .val (.int p5), .val (.int n7), .val (.int sm), .val (.long lim), .second, .val (.long C0), .second, .val (.long C1), .second, .val (.long C2), .second, .val (.long C3), .second, .val (.int (4 : Int32)), .val .null, .unset, .unset, .unset, .unset, .unset, .unset] [(.int (C0.toInt32)), (.int (0 : Int32)), (.ref b511), (.ref b511)])) _
      rw [h_ic0]
      show Steps p.tables e below (T511.setTop (mkF m 235 #[.val (.int p0), .val (.int p1), .val (.int p2), .val (.int p3), .val (.int p4), .val (.int p5), .val (.int n7), .val (.int sm), .val (.long lim), .second, .val (.long C0), .second, .val (.long C1), .second, .val (.long C2), .second, .val (.long C3), .second, .val (.int (4 : Int32)), .val .null, .unset, .unset, .unset, .unset, .unset, .unset] [(.int ic0), (.int (0 : Int32)), (.ref b511), (.ref b511)])) _
      refine st513 _ ?_
      show Steps p.tables e below (T513.setTop (mkF m 236 #[.val (.int p0), .val (.int p1), .val (.int p2), .val (.int p3), .val (.int p4), .val (.int p5), .val (.int n7), .val (.int sm), .val (.long lim), .second, .val (.long C0), .second, .val (.long C1), .second, .val (.long C2), .second, .val (.long C3), .second, .val (.int (4 : Int32)), .val .null, .unset, .unset, .unset, .unset, .unset, .unset] [(.ref b511)])) _
      refine XS.dup X513.here hx rfl (hb hby at_236) rfl rfl ?_
      refine XS.iconst X513.here hx rfl (hb hby at_237) ?_
      refine XS.lload X513.here hx rfl (hb hby at_238) rfl ?_
      refine XS.l2i X513.here hx rfl (hb hby at_240) rfl ?_
      show Steps p.tables e below (T513.setTop (mkF m 241 #[.val (.int p0), .val (.int p1), .val (.int p2), .val (.int p3), .val (.int p4), .val (.int p5), .val (.int n7), .val (.int sm), .val (.long lim), .second, .val (.long C0), .second, .val (.long C1), .second, .val (.long C2), .second, .val (.long C3), .second, .val (.int (4 : Int32)), .val .null, .unset, .unset, .unset, .unset, .unset, .unset] [(.int (C1.toInt32)), (.int (1 : Int32)), (.ref b511), (.ref b511)])) _
      rw [h_ic1]
      show Steps p.tables e below (T513.setTop (mkF m 241 #[.val (.int p0), .val (.int p1), .val (.int p2), .val (.int p3), .val (.int p4), .val (.int p5), .val (.int n7), .val (.int sm), .val (.long lim), .second, .val (.long C0), .second, .val (.long C1), .second, .val (.long C2), .second, .val (.long C3), .second, .val (.int (4 : Int32)), .val .null, .unset, .unset, .unset, .unset, .unset, .unset] [(.int ic1), (.int (1 : Int32)), (.ref b511), (.ref b511)])) _
      refine st515 _ ?_
      show Steps p.tables e below (T515.setTop (mkF m 242 #[.val (.int p0), .val (.int p1), .val (.int p2), .val (.int p3), .val (.int p4), .val (.int p5), .val (.int n7), .val (.int sm), .val (.long lim), .second, .val (.long C0), .second, .val (.long C1), .second, .val (.long C2), .second, .val (.long C3), .second, .val (.int (4 : Int32)), .val .null, .unset, .unset, .unset, .unset, .unset, .unset] [(.ref b511)])) _
      refine XS.dup X515.here hx rfl (hb hby at_242) rfl rfl ?_
      refine XS.iconst X515.here hx rfl (hb hby at_243) ?_
      refine XS.lload X515.here hx rfl (hb hby at_244) rfl ?_
      refine XS.l2i X515.here hx rfl (hb hby at_246) rfl ?_
      show Steps p.tables e below (T515.setTop (mkF m 247 #[.val (.int p0), .val (.int p1), .val (.int p2), .val (.int p3), .val (.int p4), .val (.int p5), .val (.int n7), .val (.int sm), .val (.long lim), .second, .val (.long C0), .second, .val (.long C1), .second, .val (.long C2), .second, .val (.long C3), .second, .val (.int (4 : Int32)), .val .null, .unset, .unset, .unset, .unset, .unset, .unset] [(.int (C2.toInt32)), (.int (2 : Int32)), (.ref b511), (.ref b511)])) _
      rw [h_ic2]
      show Steps p.tables e below (T515.setTop (mkF m 247 #[.val (.int p0), .val (.int p1), .val (.int p2), .val (.int p3), .val (.int p4), .val (.int p5), .val (.int n7), .val (.int sm), .val (.long lim), .second, .val (.long C0), .second, .val (.long C1), .second, .val (.long C2), .second, .val (.long C3), .second, .val (.int (4 : Int32)), .val .null, .unset, .unset, .unset, .unset, .unset, .unset] [(.int ic2), (.int (2 : Int32)), (.ref b511), (.ref b511)])) _
      refine st517 _ ?_
      show Steps p.tables e below (T517.setTop (mkF m 248 #[.val (.int p0), .val (.int p1), .val (.int p2), .val (.int p3), .val (.int p4), .val (.int p5), .val (.int n7), .val (.int sm), .val (.long lim), .second, .val (.long C0), .second, .val (.long C1), .second, .val (.long C2), .second, .val (.long C3), .second, .val (.int (4 : Int32)), .val .null, .unset, .unset, .unset, .unset, .unset, .unset] [(.ref b511)])) _
      refine XS.dup X517.here hx rfl (hb hby at_248) rfl rfl ?_
      refine XS.iconst X517.here hx rfl (hb hby at_249) ?_
      refine XS.lload X517.here hx rfl (hb hby at_250) rfl ?_
      refine XS.l2i X517.here hx rfl (hb hby at_252) rfl ?_
      show Steps p.tables e below (T517.setTop (mkF m 253 #[.val (.int p0), .val (.int p1), .val (.int p2), .val (.int p3), .val (.int p4), .val (.int p5), .val (.int n7), .val (.int sm), .val (.long lim), .second, .val (.long C0), .second, .val (.long C1), .second, .val (.long C2), .second, .val (.long C3), .second, .val (.int (4 : Int32)), .val .null, .unset, .unset, .unset, .unset, .unset, .unset] [(.int (C3.toInt32)), (.int (3 : Int32)), (.ref b511), (.ref b511)])) _
      rw [h_ic3]
      show Steps p.tables e below (T517.setTop (mkF m 253 #[.val (.int p0), .val (.int p1), .val (.int p2), .val (.int p3), .val (.int p4), .val (.int p5), .val (.int n7), .val (.int sm), .val (.long lim), .second, .val (.long C0), .second, .val (.long C1), .second, .val (.long C2), .second, .val (.long C3), .second, .val (.int (4 : Int32)), .val .null, .unset, .unset, .unset, .unset, .unset, .unset] [(.int ic3), (.int (3 : Int32)), (.ref b511), (.ref b511)])) _
      refine st519 _ ?_
      show Steps p.tables e below (T519.setTop (mkF m 254 #[.val (.int p0), .val (.int p1), .val (.int p2), .val (.int p3), .val (.int p4), .val (.int p5), .val (.int n7), .val (.int sm), .val (.long lim), .second, .val (.long C0), .second, .val (.long C1), .second, .val (.long C2), .second, .val (.long C3), .second, .val (.int (4 : Int32)), .val .null, .unset, .unset, .unset, .unset, .unset, .unset] [(.ref b511)])) _
      refine XS.astore X519.here hx rfl (hb hby at_254) rfl rfl (l' := #[.val (.int p0), .val (.int p1), .val (.int p2), .val (.int p3), .val (.int p4), .val (.int p5), .val (.int n7), .val (.int sm), .val (.long lim), .second, .val (.long C0), .second, .val (.long C1), .second, .val (.long C2), .second, .val (.long C3), .second, .val (.int (4 : Int32)), .val (.ref b511), .unset, .unset, .unset, .unset, .unset, .unset]) rfl ?_
      refine XS.iload X519.here hx rfl (hb hby at_256) rfl ?_
      refine XS.iconst X519.here hx rfl (hb hby at_258) ?_
      refine XS.iushr X519.here hx rfl (hb hby at_259) rfl ?_
      refine XS.iconst X519.here hx rfl (hb hby at_260) ?_
      refine XS.iand X519.here hx rfl (hb hby at_261) rfl ?_
      refine XS.istore X519.here hx rfl (hb hby at_262) rfl (l' := #[.val (.int p0), .val (.int p1), .val (.int p2), .val (.int p3), .val (.int p4), .val (.int p5), .val (.int n7), .val (.int sm), .val (.long lim), .second, .val (.long C0), .second, .val (.long C1), .second, .val (.long C2), .second, .val (.long C3), .second, .val (.int (4 : Int32)), .val (.ref b511), .val (.int (((p5.toUInt32 >>> ((4 : Int32) &&& 31).toUInt32).toInt32) &&& (3 : Int32))), .unset, .unset, .unset, .unset, .unset]) rfl ?_
      exact kt
    (try clear st519); (try clear W519); (try clear hin518); (try clear G518); (try clear H518_); (try clear N518_); (try clear S518); (try clear q518); (try clear Ar518); (try clear cl518); (try clear N517); (try clear V517); (try clear KP517); (try clear EX517); (try clear st517); (try clear W517); (try clear e517); (try clear X517); (try clear h517); (try clear T517); (try clear hin516); (try clear G516); (try clear H516_); (try clear N516_); (try clear S516); (try clear q516); (try clear Ar516); (try clear cl516); (try clear N515); (try clear V515); (try clear KP515); (try clear EX515); (try clear st515); (try clear W515); (try clear e515); (try clear X515); (try clear h515); (try clear T515); (try clear hin514); (try clear G514); (try clear H514_); (try clear N514_); (try clear S514); (try clear q514); (try clear Ar514); (try clear cl514); (try clear N513); (try clear V513); (try clear KP513); (try clear EX513); (try clear st513); (try clear W513); (try clear e513); (try clear X513); (try clear h513); (try clear T513); (try clear hin512); (try clear G512); (try clear H512_); (try clear N512_); (try clear S512); (try clear q512); (try clear Ar512); (try clear cl512); (try clear V511); (try clear KP511); (try clear EX511); (try clear st511); (try clear A511); (try clear E511); (try clear e511); (try clear X511); (try clear h511); (try clear T511); (try clear N510); (try clear e510); (try clear N510q); (try clear st510); (try clear Lc510); (try clear X510); (try clear n510); (try clear k510); (try clear L510); (try clear T510)
    obtain ⟨T525, L525, pk, X525, e525, N525, hj525_0, ck525⟩ : ∃ (TJ : State) (LJ : List Loc) (pk : Int64), Stand p l e room_1 s m #[(.int p0), (.int p1), (.int p2), (.int p3), (.int p4), (.int p5)] below meth c TJ LJ 1 4 ∧ TJ.heap = h519 ∧ Fr n0 LJ ∧ (0 ≤ pk.toInt ∧ pk.toInt ≤ lim.toInt) ∧ (∀ t, Steps p.tables e below (TJ.setTop (mkF m 298 #[.val (.int p0), .val (.int p1), .val (.int p2), .val (.int p3), .val (.int p4), .val (.int p5), .val (.int n7), .val (.int sm), .val (.long lim), .second, .val (.long C0), .second, .val (.long C1), .second, .val (.long C2), .second, .val (.long C3), .second, .val (.int (4 : Int32)), .val (.ref b511), .val (.int (((p5.toUInt32 >>> ((4 : Int32) &&& 31).toUInt32).toInt32) &&& (3 : Int32))), .unset, .unset, .unset, .unset, .unset] [(.long pk)])) t → Steps p.tables e below (s₁.setTop (entryFrame m #[(.int p0), (.int p1), (.int p2), (.int p3), (.int p4), (.int p5)] maxLocals)) t) := by
      by_cases hc266_526 : (((p5.toUInt32 >>> ((4 : Int32) &&& 31).toUInt32).toInt32) &&& (3 : Int32)) = (0 : Int32)
      · -- pc 266: yes
        refine ⟨T519, _, C0, X519, e519, N519, hC0, fun t kt => ?_⟩
        refine ck520 _ ?_
        refine XS.iload X519.here hx rfl (hb hby at_264) rfl ?_
        refine XS.ifNo X519.here hx rfl (hb hby at_266) rfl ((if0 _ _).trans (teq hc266_526).2) ?_
        refine XS.lload X519.here hx rfl (hb hby at_269) rfl ?_
        refine XS.goto X519.here hx rfl (pc0 := 271) (pc' := 298) rfl (hb hby at_271) (by decide) (by decide) ?_
        exact kt
      · -- pc 266: no
        have ck528 : ∀ t, Steps p.tables e below (T519.setTop (mkF m 277 #[.val (.int p0), .val (.int p1), .val (.int p2), .val (.int p3), .val (.int p4), .val (.int p5), .val (.int n7), .val (.int sm), .val (.long lim), .second, .val (.long C0), .second, .val (.long C1), .second, .val (.long C2), .second, .val (.long C3), .second, .val (.int (4 : Int32)), .val (.ref b511), .val (.int (((p5.toUInt32 >>> ((4 : Int32) &&& 31).toUInt32).toInt32) &&& (3 : Int32))), .unset, .unset, .unset, .unset, .unset] [(.int (1 : Int32)), (.int (((p5.toUInt32 >>> ((4 : Int32) &&& 31).toUInt32).toInt32) &&& (3 : Int32)))])) t → Steps p.tables e below (s₁.setTop (entryFrame m #[(.int p0), (.int p1), (.int p2), (.int p3), (.int p4), (.int p5)] maxLocals)) t := by
          intro t kt
          refine ck520 _ ?_
          refine XS.iload X519.here hx rfl (hb hby at_264) rfl ?_
          refine XS.ifYes X519.here hx rfl (pc0 := 266) (pc' := 274) rfl (hb hby at_266) rfl ((if0 _ _).trans (feq hc266_526).2) (by decide) (by decide) ?_
          refine XS.iload X519.here hx rfl (hb hby at_274) rfl ?_
          refine XS.iconst X519.here hx rfl (hb hby at_276) ?_
          exact kt
        by_cases hc277_527 : (((p5.toUInt32 >>> ((4 : Int32) &&& 31).toUInt32).toInt32) &&& (3 : Int32)) = (1 : Int32)
        · -- pc 277: yes
          refine ⟨T519, _, C1, X519, e519, N519, hC1, fun t kt => ?_⟩
          refine ck528 _ ?_
          refine XS.icmpNo X519.here hx rfl (hb hby at_277) rfl (teq hc277_527).2 ?_
          refine XS.lload X519.here hx rfl (hb hby at_280) rfl ?_
          refine XS.goto X519.here hx rfl (pc0 := 282) (pc' := 298) rfl (hb hby at_282) (by decide) (by decide) ?_
          exact kt
        · -- pc 277: no
          by_cases hc288_529 : (((p5.toUInt32 >>> ((4 : Int32) &&& 31).toUInt32).toInt32) &&& (3 : Int32)) = (2 : Int32)
          · -- pc 288: yes
            refine ⟨T519, _, C2, X519, e519, N519, hC2, fun t kt => ?_⟩
            refine ck528 _ ?_
            refine XS.icmpYes X519.here hx rfl (pc0 := 277) (pc' := 285) rfl (hb hby at_277) rfl (feq hc277_527).2 (by decide) (by decide) ?_
            refine XS.iload X519.here hx rfl (hb hby at_285) rfl ?_
            refine XS.iconst X519.here hx rfl (hb hby at_287) ?_
            refine XS.icmpNo X519.here hx rfl (hb hby at_288) rfl (teq hc288_529).2 ?_
            refine XS.lload X519.here hx rfl (hb hby at_291) rfl ?_
            refine XS.goto X519.here hx rfl (pc0 := 293) (pc' := 298) rfl (hb hby at_293) (by decide) (by decide) ?_
            exact kt
          · -- pc 288: no
            refine ⟨T519, _, C3, X519, e519, N519, hC3, fun t kt => ?_⟩
            refine ck528 _ ?_
            refine XS.icmpYes X519.here hx rfl (pc0 := 277) (pc' := 285) rfl (hb hby at_277) rfl (feq hc277_527).2 (by decide) (by decide) ?_
            refine XS.iload X519.here hx rfl (hb hby at_285) rfl ?_
            refine XS.iconst X519.here hx rfl (hb hby at_287) ?_
            refine XS.icmpYes X519.here hx rfl (pc0 := 288) (pc' := 296) rfl (hb hby at_288) rfl (feq hc288_529).2 (by decide) (by decide) ?_
            refine XS.lload X519.here hx rfl (hb hby at_296) rfl ?_
            exact kt
    have hpk := hj525_0
    obtain ⟨T533, L533, qq, X533, e533, N533, hj533_0, ck533⟩ : ∃ (TJ : State) (LJ : List Loc) (qq : Int32), Stand p l e room_1 s m #[(.int p0), (.int p1), (.int p2), (.int p3), (.int p4), (.int p5)] below meth c TJ LJ 1 4 ∧ TJ.heap = h519 ∧ Fr n0 LJ ∧ (0 ≤ qq.toInt) ∧ (∀ t, Steps p.tables e below (TJ.setTop (mkF m 345 #[.val (.int p0), .val (.int p1), .val (.int p2), .val (.int p3), .val (.int p4), .val (.int p5), .val (.int n7), .val (.int sm), .val (.long lim), .second, .val (.long C0), .second, .val (.long C1), .second, .val (.long C2), .second, .val (.long C3), .second, .val (.int (4 : Int32)), .val (.ref b511), .val (.int (((p5.toUInt32 >>> ((4 : Int32) &&& 31).toUInt32).toInt32) &&& (3 : Int32))), .val (.long pk), .second, .val (.int qq), .unset, .unset] [])) t → Steps p.tables e below (s₁.setTop (entryFrame m #[(.int p0), (.int p1), (.int p2), (.int p3), (.int p4), (.int p5)] maxLocals)) t) := by
      have ck535 : ∀ t, Steps p.tables e below (T525.setTop (mkF m 305 #[.val (.int p0), .val (.int p1), .val (.int p2), .val (.int p3), .val (.int p4), .val (.int p5), .val (.int n7), .val (.int sm), .val (.long lim), .second, .val (.long C0), .second, .val (.long C1), .second, .val (.long C2), .second, .val (.long C3), .second, .val (.int (4 : Int32)), .val (.ref b511), .val (.int (((p5.toUInt32 >>> ((4 : Int32) &&& 31).toUInt32).toInt32) &&& (3 : Int32))), .val (.long pk), .second, .unset, .unset, .unset] [(.int (p5 &&& (64 : Int32)))])) t → Steps p.tables e below (s₁.setTop (entryFrame m #[(.int p0), (.int p1), (.int p2), (.int p3), (.int p4), (.int p5)] maxLocals)) t := by
        intro t kt
        refine ck525 _ ?_
        refine XS.lstore X525.here hx rfl (hb hby at_298) rfl (l' := #[.val (.int p0), .val (.int p1), .val (.int p2), .val (.int p3), .val (.int p4), .val (.int p5), .val (.int n7), .val (.int sm), .val (.long lim), .second, .val (.long C0), .second, .val (.long C1), .second, .val (.long C2), .second, .val (.long C3), .second, .val (.int (4 : Int32)), .val (.ref b511), .val (.int (((p5.toUInt32 >>> ((4 : Int32) &&& 31).toUInt32).toInt32) &&& (3 : Int32))), .val (.long pk), .second, .unset, .unset, .unset]) rfl ?_
        refine XS.iload X525.here hx rfl (hb hby at_300) rfl ?_
        refine XS.bipush X525.here hx rfl (hb hby at_302) ?_
        refine XS.iand X525.here hx rfl (hb hby at_304) rfl ?_
        exact kt
      by_cases hc305_534 : (p5 &&& (64 : Int32)) = (0 : Int32)
      · -- pc 305: yes
        refine ⟨T525, _, ((((p4.toInt64) &&& (2147483647 : Int64)) % (lim + (1 : Int64))).toInt32), X525, e525, N525, (own_q2 hlim), fun t kt => ?_⟩
        refine ck535 _ ?_
        refine XS.ifYes X525.here hx rfl (pc0 := 305) (pc' := 330) rfl (hb hby at_305) rfl ((if0 _ _).trans (teq hc305_534).1) (by decide) (by decide) ?_
        refine XS.iload X525.here hx rfl (hb hby at_330) rfl ?_
        refine XS.i2l X525.here hx rfl (hb hby at_332) rfl ?_
        refine X525.ldc2Long hx hown (mvT hZ (own_q hw 0 rfl)) (g := (mkF m 333 #[.val (.int p0), .val (.int p1), .val (.int p2), .val (.int p3), .val (.int p4), .val (.int p5), .val (.int n7), .val (.int sm), .val (.long lim), .second, .val (.long C0), .second, .val (.long C1), .second, .val (.long C2), .second, .val (.long C3), .second, .val (.int (4 : Int32)), .val (.ref b511), .val (.int (((p5.toUInt32 >>> ((4 : Int32) &&& 31).toUInt32).toInt32) &&& (3 : Int32))), .val (.long pk), .second, .unset, .unset, .unset] [(.long (p4.toInt64))])) rfl (hb hby at_333) _ ?_
        show Steps p.tables e below (T525.setTop (mkF m 336 #[.val (.int p0), .val (.int p1), .val (.int p2), .val (.int p3), .val (.int p4), .val (.int p5), .val (.int n7), .val (.int sm), .val (.long lim), .second, .val (.long C0), .second, .val (.long C1), .second, .val (.long C2), .second, .val (.long C3), .second, .val (.int (4 : Int32)), .val (.ref b511), .val (.int (((p5.toUInt32 >>> ((4 : Int32) &&& 31).toUInt32).toInt32) &&& (3 : Int32))), .val (.long pk), .second, .unset, .unset, .unset] [(.long (2147483647 : Int64)), (.long (p4.toInt64))])) _
        refine XS.land X525.here hx rfl (hb hby at_336) rfl ?_
        refine XS.lload X525.here hx rfl (hb hby at_337) rfl ?_
        refine XS.lconst X525.here hx rfl (hb hby at_339) ?_
        refine XS.ladd X525.here hx rfl (hb hby at_340) rfl ?_
        refine XS.lrem X525.here hx rfl (hb hby at_341) rfl (own_nz (own_l1 hlim).1) ?_
        show Steps p.tables e below (T525.setTop (mkF m 342 #[.val (.int p0), .val (.int p1), .val (.int p2), .val (.int p3), .val (.int p4), .val (.int p5), .val (.int n7), .val (.int sm), .val (.long lim), .second, .val (.long C0), .second, .val (.long C1), .second, .val (.long C2), .second, .val (.long C3), .second, .val (.int (4 : Int32)), .val (.ref b511), .val (.int (((p5.toUInt32 >>> ((4 : Int32) &&& 31).toUInt32).toInt32) &&& (3 : Int32))), .val (.long pk), .second, .unset, .unset, .unset] [(.long (((p4.toInt64) &&& (2147483647 : Int64)) - (((p4.toInt64) &&& (2147483647 : Int64)) / (lim + (1 : Int64))) * (lim + (1 : Int64))))])) _
        rw [lrem_mod]
        show Steps p.tables e below (T525.setTop (mkF m 342 #[.val (.int p0), .val (.int p1), .val (.int p2), .val (.int p3), .val (.int p4), .val (.int p5), .val (.int n7), .val (.int sm), .val (.long lim), .second, .val (.long C0), .second, .val (.long C1), .second, .val (.long C2), .second, .val (.long C3), .second, .val (.int (4 : Int32)), .val (.ref b511), .val (.int (((p5.toUInt32 >>> ((4 : Int32) &&& 31).toUInt32).toInt32) &&& (3 : Int32))), .val (.long pk), .second, .unset, .unset, .unset] [(.long (((p4.toInt64) &&& (2147483647 : Int64)) % (lim + (1 : Int64))))])) _
        refine XS.l2i X525.here hx rfl (hb hby at_342) rfl ?_
        refine XS.istore X525.here hx rfl (hb hby at_343) rfl (l' := #[.val (.int p0), .val (.int p1), .val (.int p2), .val (.int p3), .val (.int p4), .val (.int p5), .val (.int n7), .val (.int sm), .val (.long lim), .second, .val (.long C0), .second, .val (.long C1), .second, .val (.long C2), .second, .val (.long C3), .second, .val (.int (4 : Int32)), .val (.ref b511), .val (.int (((p5.toUInt32 >>> ((4 : Int32) &&& 31).toUInt32).toInt32) &&& (3 : Int32))), .val (.long pk), .second, .val (.int ((((p4.toInt64) &&& (2147483647 : Int64)) % (lim + (1 : Int64))).toInt32)), .unset, .unset]) rfl ?_
        exact kt
      · -- pc 305: no
        obtain ⟨_, _, ⟨T536, L536, k536, n536⟩, -, X536, ⟨Lc536, hQ536, l536, y536, z536⟩, st536⟩ := Jvm.LawKit.callS X525 hx (y := (⟨"java/lang/Math", "min", "(JJ)J"⟩ : MethodName)) hown (mvT hZ (own_q hw 35 rfl)) (mvT hZ (own_q hw 36 rfl)) (mvT hZ (own_q hw 3 rfl)) (mvT hZ (own_q hw 37 rfl)) (by decide) (backOf (W := 0) (rm_minJ l Z a0 hw [] lim (pk + ((((p5.toUInt32 >>> ((7 : Int32) &&& 31).toUInt32).toInt32) &&& (1 : Int32)).toInt64)) h519 n0 (Nat.le_trans Z0 EX519.1) (if (0 : Int32) < (lcmpW lim (pk + ((((p5.toUInt32 >>> ((7 : Int32) &&& 31).toUInt32).toInt32) &&& (1 : Int32)).toInt64))) then (pk + ((((p5.toUInt32 >>> ((7 : Int32) &&& 31).toUInt32).toInt32) &&& (1 : Int32)).toInt64)) else lim) rfl) hZ (own_q hw 37 rfl) (own_q hw 3 rfl) (by decide) (by decide)) (g := (mkF m 321 #[.val (.int p0), .val (.int p1), .val (.int p2), .val (.int p3), .val (.int p4), .val (.int p5), .val (.int n7), .val (.int sm), .val (.long lim), .second, .val (.long C0), .second, .val (.long C1), .second, .val (.long C2), .second, .val (.long C3), .second, .val (.int (4 : Int32)), .val (.ref b511), .val (.int (((p5.toUInt32 >>> ((4 : Int32) &&& 31).toUInt32).toInt32) &&& (3 : Int32))), .val (.long pk), .second, .unset, .unset, .unset] [(.long (pk + ((((p5.toUInt32 >>> ((7 : Int32) &&& 31).toUInt32).toInt32) &&& (1 : Int32)).toInt64))), (.long lim)])) rfl (by rw [hml]; rfl) (argsL := [(.long lim), (.long (pk + ((((p5.toUInt32 >>> ((7 : Int32) &&& 31).toUInt32).toInt32) &&& (1 : Int32)).toInt64)))]) (rest := []) (lenOf pd_217 rfl) rfl (by show 2 * 0 + _ ≤ _; exact Nat.le_of_eq rfl) (hb hby at_321) (fun _ _ => ⟨rfl, e525, (by decide : 1 + 0 ≤ _), (by decide : 4 + 0 ≤ _)⟩)
        dsimp only [Pt.U, Pt.locs, Pt.cells, Pt.slots] at X536 l536 y536 z536 st536 hQ536
        subst l536 y536 z536
        obtain ⟨rfl, N536q, e536⟩ := hQ536
        have N536 := Fr.app N525 N536q
        refine ⟨T536, _, ((if (0 : Int32) < (lcmpW lim (pk + ((((p5.toUInt32 >>> ((7 : Int32) &&& 31).toUInt32).toInt32) &&& (1 : Int32)).toInt64))) then (pk + ((((p5.toUInt32 >>> ((7 : Int32) &&& 31).toUInt32).toInt32) &&& (1 : Int32)).toInt64)) else lim).toInt32), X536, e536, N536, (own_q1 hlim hpk), fun t kt => ?_⟩
        refine ck535 _ ?_
        refine XS.ifNo X525.here hx rfl (hb hby at_305) rfl ((if0 _ _).trans (feq hc305_534).1) ?_
        refine XS.lload X525.here hx rfl (hb hby at_308) rfl ?_
        refine XS.lload X525.here hx rfl (hb hby at_310) rfl ?_
        refine XS.iload X525.here hx rfl (hb hby at_312) rfl ?_
        refine XS.bipush X525.here hx rfl (hb hby at_314) ?_
        refine XS.iushr X525.here hx rfl (hb hby at_316) rfl ?_
        refine XS.iconst X525.here hx rfl (hb hby at_317) ?_
        refine XS.iand X525.here hx rfl (hb hby at_318) rfl ?_
        refine XS.i2l X525.here hx rfl (hb hby at_319) rfl ?_
        refine XS.ladd X525.here hx rfl (hb hby at_320) rfl ?_
        refine st536 _ ?_
        show Steps p.tables e below (T536.setTop (mkF m 324 #[.val (.int p0), .val (.int p1), .val (.int p2), .val (.int p3), .val (.int p4), .val (.int p5), .val (.int n7), .val (.int sm), .val (.long lim), .second, .val (.long C0), .second, .val (.long C1), .second, .val (.long C2), .second, .val (.long C3), .second, .val (.int (4 : Int32)), .val (.ref b511), .val (.int (((p5.toUInt32 >>> ((4 : Int32) &&& 31).toUInt32).toInt32) &&& (3 : Int32))), .val (.long pk), .second, .unset, .unset, .unset] [(.long (if (0 : Int32) < (lcmpW lim (pk + ((((p5.toUInt32 >>> ((7 : Int32) &&& 31).toUInt32).toInt32) &&& (1 : Int32)).toInt64))) then (pk + ((((p5.toUInt32 >>> ((7 : Int32) &&& 31).toUInt32).toInt32) &&& (1 : Int32)).toInt64)) else lim))])) _
        refine XS.l2i X536.here hx rfl (hb hby at_324) rfl ?_
        refine XS.istore X536.here hx rfl (hb hby at_325) rfl (l' := #[.val (.int p0), .val (.int p1), .val (.int p2), .val (.int p3), .val (.int p4), .val (.int p5), .val (.int n7), .val (.int sm), .val (.long lim), .second, .val (.long C0), .second, .val (.long C1), .second, .val (.long C2), .second, .val (.long C3), .second, .val (.int (4 : Int32)), .val (.ref b511), .val (.int (((p5.toUInt32 >>> ((4 : Int32) &&& 31).toUInt32).toInt32) &&& (3 : Int32))), .val (.long pk), .second, .val (.int ((if (0 : Int32) < (lcmpW lim (pk + ((((p5.toUInt32 >>> ((7 : Int32) &&& 31).toUInt32).toInt32) &&& (1 : Int32)).toInt64))) then (pk + ((((p5.toUInt32 >>> ((7 : Int32) &&& 31).toUInt32).toInt32) &&& (1 : Int32)).toInt64)) else lim).toInt32)), .unset, .unset]) rfl ?_
        refine XS.goto X536.here hx rfl (pc0 := 327) (pc' := 345) rfl (hb hby at_327) (by decide) (by decide) ?_
        exact kt
    have hqq := hj533_0
    have hqL := c_i2l qq
    obtain ⟨_, _, ⟨T537, L537, k537, n537⟩, -, X537, ⟨Lc537, hQ537, l537, y537, z537⟩, st537⟩ := Jvm.LawKit.callS X533 hx (y := (⟨"com/example/cubelet/cubelet/CellStore$Step", "together", "([I)Lcom/example/cubelet/cubelet/CellStore$Step;"⟩ : MethodName)) hown (mvT hZ (own_q hw 6 rfl)) (mvT hZ (own_q hw 7 rfl)) (mvT hZ (own_q hw 8 rfl)) (mvT hZ (own_q hw 9 rfl)) (by decide) (backOf (W := 0) (rm_tog_4 l Z a0 hw [] b511 h519 n0 (Nat.le_trans Z0 EX519.1) k511 ic0 ic1 ic2 ic3 V519 ⟨by omega, by omega, by omega, by omega⟩) hZ (own_q hw 9 rfl) (own_q hw 8 rfl) (by decide) (by decide)) (g := (mkF m 347 #[.val (.int p0), .val (.int p1), .val (.int p2), .val (.int p3), .val (.int p4), .val (.int p5), .val (.int n7), .val (.int sm), .val (.long lim), .second, .val (.long C0), .second, .val (.long C1), .second, .val (.long C2), .second, .val (.long C3), .second, .val (.int (4 : Int32)), .val (.ref b511), .val (.int (((p5.toUInt32 >>> ((4 : Int32) &&& 31).toUInt32).toInt32) &&& (3 : Int32))), .val (.long pk), .second, .val (.int qq), .unset, .unset] [(.ref b511)])) rfl (by rw [hml]; rfl) (argsL := [(.ref b511)]) (rest := []) (lenOf pd_218 rfl) rfl (by show 2 * 0 + _ ≤ _; exact Nat.le_of_eq rfl) (hb hby at_347) (fun _ _ => ⟨rfl, e533, (by decide : 1 + 2 ≤ _), (by decide : 4 + 38 ≤ _)⟩)
    dsimp only [Pt.U, Pt.locs, Pt.cells, Pt.slots] at X537 l537 y537 z537 st537 hQ537
    subst l537 y537 z537
    obtain ⟨aS, rfl, N537q, E537, ES, FcS, hB⟩ := hQ537
    have N537 := Fr.app N533 N537q
    have e537 : T537.heap = T537.heap := rfl
    have EX537 := own_ext_trans EX519 E537
    have KP537 := Keep.ext KP519 E537
    have Fx538 := (V519.ext E537)
    have ck540 : ∀ t, Steps p.tables e below (T537.setTop (mkF m 369 #[.val (.int p0), .val (.int p1), .val (.int p2), .val (.int p3), .val (.int p4), .val (.int p5), .val (.int n7), .val (.int sm), .val (.long lim), .second, .val (.long C0), .second, .val (.long C1), .second, .val (.long C2), .second, .val (.long C3), .second, .val (.int (4 : Int32)), .val (.ref b511), .val (.int (((p5.toUInt32 >>> ((4 : Int32) &&& 31).toUInt32).toInt32) &&& (3 : Int32))), .val (.long pk), .second, .val (.int qq), .val (.ref aS), .unset] [(.int (lcmpW (qq.toInt64) C0))])) t → Steps p.tables e below (s₁.setTop (entryFrame m #[(.int p0), (.int p1), (.int p2), (.int p3), (.int p4), (.int p5)] maxLocals)) t := by
      intro t kt
      refine ck533 _ ?_
      refine XS.aload X533.here hx rfl (hb hby at_345) rfl rfl ?_
      refine st537 _ ?_
      show Steps p.tables e below (T537.setTop (mkF m 350 #[.val (.int p0), .val (.int p1), .val (.int p2), .val (.int p3), .val (.int p4), .val (.int p5), .val (.int n7), .val (.int sm), .val (.long lim), .second, .val (.long C0), .second, .val (.long C1), .second, .val (.long C2), .second, .val (.long C3), .second, .val (.int (4 : Int32)), .val (.ref b511), .val (.int (((p5.toUInt32 >>> ((4 : Int32) &&& 31).toUInt32).toInt32) &&& (3 : Int32))), .val (.long pk), .second, .val (.int qq), .unset, .unset] [(.ref aS)])) _
      refine XS.astore X537.here hx rfl (hb hby at_350) rfl rfl (l' := #[.val (.int p0), .val (.int p1), .val (.int p2), .val (.int p3), .val (.int p4), .val (.int p5), .val (.int n7), .val (.int sm), .val (.long lim), .second, .val (.long C0), .second, .val (.long C1), .second, .val (.long C2), .second, .val (.long C3), .second, .val (.int (4 : Int32)), .val (.ref b511), .val (.int (((p5.toUInt32 >>> ((4 : Int32) &&& 31).toUInt32).toInt32) &&& (3 : Int32))), .val (.long pk), .second, .val (.int qq), .val (.ref aS), .unset]) rfl ?_
      refine XS.iload X537.here hx rfl (hb hby at_352) rfl ?_
      refine XS.ifNo X537.here hx rfl (hb hby at_354) rfl ((if0 _ _).trans (flt (by decide : ¬ ((4 : Int32) < (0 : Int32)))).1) ?_
      refine XS.iload X537.here hx rfl (hb hby at_357) rfl ?_
      refine XS.iconst X537.here hx rfl (hb hby at_359) ?_
      refine XS.icmpNo X537.here hx rfl (hb hby at_360) rfl (flt (by decide : ¬ ((4 : Int32) < (1 : Int32)))).1 ?_
      refine XS.iload X537.here hx rfl (hb hby at_363) rfl ?_
      refine XS.i2l X537.here hx rfl (hb hby at_365) rfl ?_
      refine XS.lload X537.here hx rfl (hb hby at_366) rfl ?_
      refine XS.lcmp X537.here hx rfl (hb hby at_368) rfl ?_
      exact kt
    (try clear E537); (try clear N537q); (try clear st537); (try clear Lc537); (try clear n537); (try clear k537); (try clear L537)
    by_cases hc369_539 : (lcmpW (qq.toInt64) C0) = (0 : Int32)
    · -- pc 369: yes
      have ck541 : ∀ t, Steps p.tables e below (T537.setTop (mkF m 424 #[.val (.int p0), .val (.int p1), .val (.int p2), .val (.int p3), .val (.int p4), .val (.int p5), .val (.int n7), .val (.int sm), .val (.long lim), .second, .val (.long C0), .second, .val (.long C1), .second, .val (.long C2), .second, .val (.long C3), .second, .val (.int (4 : Int32)), .val (.ref b511), .val (.int (((p5.toUInt32 >>> ((4 : Int32) &&& 31).toUInt32).toInt32) &&& (3 : Int32))), .val (.long pk), .second, .val (.int qq), .val (.ref aS), .val (.int (1 : Int32))] [])) t → Steps p.tables e below (s₁.setTop (entryFrame m #[(.int p0), (.int p1), (.int p2), (.int p3), (.int p4), (.int p5)] maxLocals)) t := by
        intro t kt
        refine ck540 _ ?_
        refine XS.ifYes X537.here hx rfl (pc0 := 369) (pc' := 417) rfl (hb hby at_369) rfl ((if0 _ _).trans (teq hc369_539).1) (by decide) (by decide) ?_
        refine XS.iconst X537.here hx rfl (hb hby at_417) ?_
        refine XS.goto X537.here hx rfl (pc0 := 418) (pc' := 422) rfl (hb hby at_418) (by decide) (by decide) ?_
        refine XS.istore X537.here hx rfl (hb hby at_422) rfl (l' := #[.val (.int p0), .val (.int p1), .val (.int p2), .val (.int p3), .val (.int p4), .val (.int p5), .val (.int n7), .val (.int sm), .val (.long lim), .second, .val (.long C0), .second, .val (.long C1), .second, .val (.long C2), .second, .val (.long C3), .second, .val (.int (4 : Int32)), .val (.ref b511), .val (.int (((p5.toUInt32 >>> ((4 : Int32) &&& 31).toUInt32).toInt32) &&& (3 : Int32))), .val (.long pk), .second, .val (.int qq), .val (.ref aS), .val (.int (1 : Int32))]) rfl ?_
        exact kt
      rcases hB with hB | ⟨bb, kb, zb, gb, hB, B_b, hzb, hS⟩
      · -- bits: S
        have d_hc369_539 := own_eq_lc hc369_539
        obtain ⟨cq542, kq542, q542a, q542b, q542c⟩ := isOf hZ e537 (ES)
        obtain ⟨_, _, ⟨T542, L542, k542, n542⟩, -, X542, ⟨Lc542, hQ542, l542, y542, z542⟩, st542⟩ := X537.virtualBack hx (y := (⟨"com/example/cubelet/cubelet/CellStore$Step", "takes", "(I)Z"⟩ : MethodName)) (z := (⟨"com/example/cubelet/cubelet/CellStore$Step", "takes", "(I)Z"⟩ : MethodName)) hown (mvT hZ (own_q hw 29 rfl)) (mvT hZ (own_q hw 30 rfl)) (notFace_of_selects (args := #[]) (mvT hZ (own_q hw 32 rfl))) (mvT hZ (own_q hw 32 rfl)) (mvT hZ (own_q hw 31 rfl)) (by decide) (backOf (W := 0) (rm_tkS_4 l Z a0 hw [] aS qq T537.heap n0 (Nat.le_trans Z0 EX537.1) b511 k511 ic0 ic1 ic2 ic3 Fx538 ⟨by omega, by omega, by omega, by omega⟩ FcS hB (1 : Int32) ⟨fun _ => rfl, fun z => absurd (by omega) z⟩) hZ (own_q hw 33 rfl) (own_q hw 8 rfl) (by decide) (by decide)) q542a q542c (g := (mkF m 428 #[.val (.int p0), .val (.int p1), .val (.int p2), .val (.int p3), .val (.int p4), .val (.int p5), .val (.int n7), .val (.int sm), .val (.long lim), .second, .val (.long C0), .second, .val (.long C1), .second, .val (.long C2), .second, .val (.long C3), .second, .val (.int (4 : Int32)), .val (.ref b511), .val (.int (((p5.toUInt32 >>> ((4 : Int32) &&& 31).toUInt32).toInt32) &&& (3 : Int32))), .val (.long pk), .second, .val (.int qq), .val (.ref aS), .val (.int (1 : Int32))] [(.int qq), (.ref aS)])) rfl (by rw [hml]; rfl) (Steps.refl _) (argsL := [(.int qq)]) (rest := []) (lenOf pd_219 rfl) rfl (by show 2 * 0 + _ ≤ _; exact Nat.le_of_eq rfl) (hb hby at_428) (fun _ _ => ⟨rfl, e537, (by decide : 3 + 0 ≤ _), (by decide : 42 + 0 ≤ _)⟩)
        dsimp only [Pt.U, Pt.locs, Pt.cells, Pt.slots] at X542 l542 y542 z542 st542 hQ542
        subst l542 y542 z542
        obtain ⟨rfl, N542q, e542⟩ := hQ542
        have N542 := Fr.app N537 N542q
        obtain ⟨fs, hr, hrun, hended, hW, hsame⟩ := X542.leave (v := some (.int (1 : Int32))) (fun h => by rw [Bd.returns] at h; cases h)
        refine ⟨_, _, ck541 _ ?_, hrun, hended, _, _, rfl, ?_, ⟨_, rfl⟩, hW, hsame.mono (by decide) (by decide)⟩
        · refine XS.aload X537.here hx rfl (hb hby at_424) rfl rfl ?_
          refine XS.iload X537.here hx rfl (hb hby at_426) rfl ?_
          refine st542.trans ?_
          show Steps p.tables e below (T542.setTop (mkF m 431 #[.val (.int p0), .val (.int p1), .val (.int p2), .val (.int p3), .val (.int p4), .val (.int p5), .val (.int n7), .val (.int sm), .val (.long lim), .second, .val (.long C0), .second, .val (.long C1), .second, .val (.long C2), .second, .val (.long C3), .second, .val (.int (4 : Int32)), .val (.ref b511), .val (.int (((p5.toUInt32 >>> ((4 : Int32) &&& 31).toUInt32).toInt32) &&& (3 : Int32))), .val (.long pk), .second, .val (.int qq), .val (.ref aS), .val (.int (1 : Int32))] [(.int (1 : Int32))])) _
          refine XS.iload X542.here hx rfl (hb hby at_431) rfl ?_
          refine XS.icmpNo X542.here hx rfl (hb hby at_433) rfl (teq (by decide : (1 : Int32) = (1 : Int32))).2 ?_
          refine XS.iconst X542.here hx rfl (hb hby at_436) ?_
          refine XS.goto X542.here hx rfl (pc0 := 437) (pc' := 441) rfl (hb hby at_437) (by decide) (by decide) ?_
          exact retN X542 hx (t := .boolean) Bd.returns (by simp) (hb hby at_441) hr
        · show own_Made (some (.int 1)) n0 _ T542.heap _
          rw [e542]
          exact ⟨rfl, N542, trivial⟩
      · -- bits: B
        have d_hc369_539 := own_eq_lc hc369_539
        obtain ⟨cq543, kq543, q543a, q543b, q543c⟩ := isOf hZ e537 (ES)
        obtain ⟨_, _, ⟨T543, L543, k543, n543⟩, -, X543, ⟨Lc543, hQ543, l543, y543, z543⟩, st543⟩ := X537.virtualBack hx (y := (⟨"com/example/cubelet/cubelet/CellStore$Step", "takes", "(I)Z"⟩ : MethodName)) (z := (⟨"com/example/cubelet/cubelet/CellStore$Step", "takes", "(I)Z"⟩ : MethodName)) hown (mvT hZ (own_q hw 29 rfl)) (mvT hZ (own_q hw 30 rfl)) (notFace_of_selects (args := #[]) (mvT hZ (own_q hw 32 rfl))) (mvT hZ (own_q hw 32 rfl)) (mvT hZ (own_q hw 31 rfl)) (by decide) (backOf (W := 0) (rm_tkB_4 l Z a0 hw [] aS qq T537.heap n0 (Nat.le_trans Z0 EX537.1) b511 k511 ic0 ic1 ic2 ic3 Fx538 ⟨by omega, by omega, by omega, by omega⟩ FcS bb kb zb gb hB B_b (by rw [hzb]) hS hqq (1 : Int32) ⟨fun _ => rfl, fun z => absurd (by omega) z⟩) hZ (own_q hw 33 rfl) (own_q hw 8 rfl) (by decide) (by decide)) q543a q543c (g := (mkF m 428 #[.val (.int p0), .val (.int p1), .val (.int p2), .val (.int p3), .val (.int p4), .val (.int p5), .val (.int n7), .val (.int sm), .val (.long lim), .second, .val (.long C0), .second, .val (.long C1), .second, .val (.long C2), .second, .val (.long C3), .second, .val (.int (4 : Int32)), .val (.ref b511), .val (.int (((p5.toUInt32 >>> ((4 : Int32) &&& 31).toUInt32).toInt32) &&& (3 : Int32))), .val (.long pk), .second, .val (.int qq), .val (.ref aS), .val (.int (1 : Int32))] [(.int qq), (.ref aS)])) rfl (by rw [hml]; rfl) (Steps.refl _) (argsL := [(.int qq)]) (rest := []) (lenOf pd_219 rfl) rfl (by show 2 * 0 + _ ≤ _; exact Nat.le_of_eq rfl) (hb hby at_428) (fun _ _ => ⟨rfl, e537, (by decide : 3 + 0 ≤ _), (by decide : 42 + 0 ≤ _)⟩)
        dsimp only [Pt.U, Pt.locs, Pt.cells, Pt.slots] at X543 l543 y543 z543 st543 hQ543
        subst l543 y543 z543
        obtain ⟨rfl, N543q, e543⟩ := hQ543
        have N543 := Fr.app N537 N543q
        obtain ⟨fs, hr, hrun, hended, hW, hsame⟩ := X543.leave (v := some (.int (1 : Int32))) (fun h => by rw [Bd.returns] at h; cases h)
        refine ⟨_, _, ck541 _ ?_, hrun, hended, _, _, rfl, ?_, ⟨_, rfl⟩, hW, hsame.mono (by decide) (by decide)⟩
        · refine XS.aload X537.here hx rfl (hb hby at_424) rfl rfl ?_
          refine XS.iload X537.here hx rfl (hb hby at_426) rfl ?_
          refine st543.trans ?_
          show Steps p.tables e below (T543.setTop (mkF m 431 #[.val (.int p0), .val (.int p1), .val (.int p2), .val (.int p3), .val (.int p4), .val (.int p5), .val (.int n7), .val (.int sm), .val (.long lim), .second, .val (.long C0), .second, .val (.long C1), .second, .val (.long C2), .second, .val (.long C3), .second, .val (.int (4 : Int32)), .val (.ref b511), .val (.int (((p5.toUInt32 >>> ((4 : Int32) &&& 31).toUInt32).toInt32) &&& (3 : Int32))), .val (.long pk), .second, .val (.int qq), .val (.ref aS), .val (.int (1 : Int32))] [(.int (1 : Int32))])) _
          refine XS.iload X543.here hx rfl (hb hby at_431) rfl ?_
          refine XS.icmpNo X543.here hx rfl (hb hby at_433) rfl (teq (by decide : (1 : Int32) = (1 : Int32))).2 ?_
          refine XS.iconst X543.here hx rfl (hb hby at_436) ?_
          refine XS.goto X543.here hx rfl (pc0 := 437) (pc' := 441) rfl (hb hby at_437) (by decide) (by decide) ?_
          exact retN X543 hx (t := .boolean) Bd.returns (by simp) (hb hby at_441) hr
        · show own_Made (some (.int 1)) n0 _ T543.heap _
          rw [e543]
          exact ⟨rfl, N543, trivial⟩
    · -- pc 369: no
      have ck545 : ∀ t, Steps p.tables e below (T537.setTop (mkF m 384 #[.val (.int p0), .val (.int p1), .val (.int p2), .val (.int p3), .val (.int p4), .val (.int p5), .val (.int n7), .val (.int sm), .val (.long lim), .second, .val (.long C0), .second, .val (.long C1), .second, .val (.long C2), .second, .val (.long C3), .second, .val (.int (4 : Int32)), .val (.ref b511), .val (.int (((p5.toUInt32 >>> ((4 : Int32) &&& 31).toUInt32).toInt32) &&& (3 : Int32))), .val (.long pk), .second, .val (.int qq), .val (.ref aS), .unset] [(.int (lcmpW (qq.toInt64) C1))])) t → Steps p.tables e below (s₁.setTop (entryFrame m #[(.int p0), (.int p1), (.int p2), (.int p3), (.int p4), (.int p5)] maxLocals)) t := by
        intro t kt
        refine ck540 _ ?_
        refine XS.ifNo X537.here hx rfl (hb hby at_369) rfl ((if0 _ _).trans (feq hc369_539).1) ?_
        refine XS.iload X537.here hx rfl (hb hby at_372) rfl ?_
        refine XS.iconst X537.here hx rfl (hb hby at_374) ?_
        refine XS.icmpNo X537.here hx rfl (hb hby at_375) rfl (flt (by decide : ¬ ((4 : Int32) < (2 : Int32)))).1 ?_
        refine XS.iload X537.here hx rfl (hb hby at_378) rfl ?_
        refine XS.i2l X537.here hx rfl (hb hby at_380) rfl ?_
        refine XS.lload X537.here hx rfl (hb hby at_381) rfl ?_
        refine XS.lcmp X537.here hx rfl (hb hby at_383) rfl ?_
        exact kt
      by_cases hc384_544 : (lcmpW (qq.toInt64) C1) = (0 : Int32)
      · -- pc 384: yes
        have ck546 : ∀ t, Steps p.tables e below (T537.setTop (mkF m 424 #[.val (.int p0), .val (.int p1), .val (.int p2), .val (.int p3), .val (.int p4), .val (.int p5), .val (.int n7), .val (.int sm), .val (.long lim), .second, .val (.long C0), .second, .val (.long C1), .second, .val (.long C2), .second, .val (.long C3), .second, .val (.int (4 : Int32)), .val (.ref b511), .val (.int (((p5.toUInt32 >>> ((4 : Int32) &&& 31).toUInt32).toInt32) &&& (3 : Int32))), .val (.long pk), .second, .val (.int qq), .val (.ref aS), .val (.int (1 : Int32))] [])) t → Steps p.tables e below (s₁.setTop (entryFrame m #[(.int p0), (.int p1), (.int p2), (.int p3), (.int p4), (.int p5)] maxLocals)) t := by
          intro t kt
          refine ck545 _ ?_
          refine XS.ifYes X537.here hx rfl (pc0 := 384) (pc' := 417) rfl (hb hby at_384) rfl ((if0 _ _).trans (teq hc384_544).1) (by decide) (by decide) ?_
          refine XS.iconst X537.here hx rfl (hb hby at_417) ?_
          refine XS.goto X537.here hx rfl (pc0 := 418) (pc' := 422) rfl (hb hby at_418) (by decide) (by decide) ?_
          refine XS.istore X537.here hx rfl (hb hby at_422) rfl (l' := #[.val (.int p0), .val (.int p1), .val (.int p2), .val (.int p3), .val (.int p4), .val (.int p5), .val (.int n7), .val (.int sm), .val (.long lim), .second, .val (.long C0), .second, .val (.long C1), .second, .val (.long C2), .second, .val (.long C3), .second, .val (.int (4 : Int32)), .val (.ref b511), .val (.int (((p5.toUInt32 >>> ((4 : Int32) &&& 31).toUInt32).toInt32) &&& (3 : Int32))), .val (.long pk), .second, .val (.int qq), .val (.ref aS), .val (.int (1 : Int32))]) rfl ?_
          exact kt
        rcases hB with hB | ⟨bb, kb, zb, gb, hB, B_b, hzb, hS⟩
        · -- bits: S
          have d_hc369_539 := own_ne_lc hc369_539
          have d_hc384_544 := own_eq_lc hc384_544
          obtain ⟨cq547, kq547, q547a, q547b, q547c⟩ := isOf hZ e537 (ES)
          obtain ⟨_, _, ⟨T547, L547, k547, n547⟩, -, X547, ⟨Lc547, hQ547, l547, y547, z547⟩, st547⟩ := X537.virtualBack hx (y := (⟨"com/example/cubelet/cubelet/CellStore$Step", "takes", "(I)Z"⟩ : MethodName)) (z := (⟨"com/example/cubelet/cubelet/CellStore$Step", "takes", "(I)Z"⟩ : MethodName)) hown (mvT hZ (own_q hw 29 rfl)) (mvT hZ (own_q hw 30 rfl)) (notFace_of_selects (args := #[]) (mvT hZ (own_q hw 32 rfl))) (mvT hZ (own_q hw 32 rfl)) (mvT hZ (own_q hw 31 rfl)) (by decide) (backOf (W := 0) (rm_tkS_4 l Z a0 hw [] aS qq T537.heap n0 (Nat.le_trans Z0 EX537.1) b511 k511 ic0 ic1 ic2 ic3 Fx538 ⟨by omega, by omega, by omega, by omega⟩ FcS hB (1 : Int32) ⟨fun _ => rfl, fun z => absurd (by omega) z⟩) hZ (own_q hw 33 rfl) (own_q hw 8 rfl) (by decide) (by decide)) q547a q547c (g := (mkF m 428 #[.val (.int p0), .val (.int p1), .val (.int p2), .val (.int p3), .val (.int p4), .val (.int p5), .val (.int n7), .val (.int sm), .val (.long lim), .second, .val (.long C0), .second, .val (.long C1), .second, .val (.long C2), .second, .val (.long C3), .second, .val (.int (4 : Int32)), .val (.ref b511), .val (.int (((p5.toUInt32 >>> ((4 : Int32) &&& 31).toUInt32).toInt32) &&& (3 : Int32))), .val (.long pk), .second, .val (.int qq), .val (.ref aS), .val (.int (1 : Int32))] [(.int qq), (.ref aS)])) rfl (by rw [hml]; rfl) (Steps.refl _) (argsL := [(.int qq)]) (rest := []) (lenOf pd_219 rfl) rfl (by show 2 * 0 + _ ≤ _; exact Nat.le_of_eq rfl) (hb hby at_428) (fun _ _ => ⟨rfl, e537, (by decide : 3 + 0 ≤ _), (by decide : 42 + 0 ≤ _)⟩)
          dsimp only [Pt.U, Pt.locs, Pt.cells, Pt.slots] at X547 l547 y547 z547 st547 hQ547
          subst l547 y547 z547
          obtain ⟨rfl, N547q, e547⟩ := hQ547
          have N547 := Fr.app N537 N547q
          obtain ⟨fs, hr, hrun, hended, hW, hsame⟩ := X547.leave (v := some (.int (1 : Int32))) (fun h => by rw [Bd.returns] at h; cases h)
          refine ⟨_, _, ck546 _ ?_, hrun, hended, _, _, rfl, ?_, ⟨_, rfl⟩, hW, hsame.mono (by decide) (by decide)⟩
          · refine XS.aload X537.here hx rfl (hb hby at_424) rfl rfl ?_
            refine XS.iload X537.here hx rfl (hb hby at_426) rfl ?_
            refine st547.trans ?_
            show Steps p.tables e below (T547.setTop (mkF m 431 #[.val (.int p0), .val (.int p1), .val (.int p2), .val (.int p3), .val (.int p4), .val (.int p5), .val (.int n7), .val (.int sm), .val (.long lim), .second, .val (.long C0), .second, .val (.long C1), .second, .val (.long C2), .second, .val (.long C3), .second, .val (.int (4 : Int32)), .val (.ref b511), .val (.int (((p5.toUInt32 >>> ((4 : Int32) &&& 31).toUInt32).toInt32) &&& (3 : Int32))), .val (.long pk), .second, .val (.int qq), .val (.ref aS), .val (.int (1 : Int32))] [(.int (1 : Int32))])) _
            refine XS.iload X547.here hx rfl (hb hby at_431) rfl ?_
            refine XS.icmpNo X547.here hx rfl (hb hby at_433) rfl (teq (by decide : (1 : Int32) = (1 : Int32))).2 ?_
            refine XS.iconst X547.here hx rfl (hb hby at_436) ?_
            refine XS.goto X547.here hx rfl (pc0 := 437) (pc' := 441) rfl (hb hby at_437) (by decide) (by decide) ?_
            exact retN X547 hx (t := .boolean) Bd.returns (by simp) (hb hby at_441) hr
          · show own_Made (some (.int 1)) n0 _ T547.heap _
            rw [e547]
            exact ⟨rfl, N547, trivial⟩
        · -- bits: B
          have d_hc369_539 := own_ne_lc hc369_539
          have d_hc384_544 := own_eq_lc hc384_544
          obtain ⟨cq548, kq548, q548a, q548b, q548c⟩ := isOf hZ e537 (ES)
          obtain ⟨_, _, ⟨T548, L548, k548, n548⟩, -, X548, ⟨Lc548, hQ548, l548, y548, z548⟩, st548⟩ := X537.virtualBack hx (y := (⟨"com/example/cubelet/cubelet/CellStore$Step", "takes", "(I)Z"⟩ : MethodName)) (z := (⟨"com/example/cubelet/cubelet/CellStore$Step", "takes", "(I)Z"⟩ : MethodName)) hown (mvT hZ (own_q hw 29 rfl)) (mvT hZ (own_q hw 30 rfl)) (notFace_of_selects (args := #[]) (mvT hZ (own_q hw 32 rfl))) (mvT hZ (own_q hw 32 rfl)) (mvT hZ (own_q hw 31 rfl)) (by decide) (backOf (W := 0) (rm_tkB_4 l Z a0 hw [] aS qq T537.heap n0 (Nat.le_trans Z0 EX537.1) b511 k511 ic0 ic1 ic2 ic3 Fx538 ⟨by omega, by omega, by omega, by omega⟩ FcS bb kb zb gb hB B_b (by rw [hzb]) hS hqq (1 : Int32) ⟨fun _ => rfl, fun z => absurd (by omega) z⟩) hZ (own_q hw 33 rfl) (own_q hw 8 rfl) (by decide) (by decide)) q548a q548c (g := (mkF m 428 #[.val (.int p0), .val (.int p1), .val (.int p2), .val (.int p3), .val (.int p4), .val (.int p5), .val (.int n7), .val (.int sm), .val (.long lim), .second, .val (.long C0), .second, .val (.long C1), .second, .val (.long C2), .second, .val (.long C3), .second, .val (.int (4 : Int32)), .val (.ref b511), .val (.int (((p5.toUInt32 >>> ((4 : Int32) &&& 31).toUInt32).toInt32) &&& (3 : Int32))), .val (.long pk), .second, .val (.int qq), .val (.ref aS), .val (.int (1 : Int32))] [(.int qq), (.ref aS)])) rfl (by rw [hml]; rfl) (Steps.refl _) (argsL := [(.int qq)]) (rest := []) (lenOf pd_219 rfl) rfl (by show 2 * 0 + _ ≤ _; exact Nat.le_of_eq rfl) (hb hby at_428) (fun _ _ => ⟨rfl, e537, (by decide : 3 + 0 ≤ _), (by decide : 42 + 0 ≤ _)⟩)
          dsimp only [Pt.U, Pt.locs, Pt.cells, Pt.slots] at X548 l548 y548 z548 st548 hQ548
          subst l548 y548 z548
          obtain ⟨rfl, N548q, e548⟩ := hQ548
          have N548 := Fr.app N537 N548q
          obtain ⟨fs, hr, hrun, hended, hW, hsame⟩ := X548.leave (v := some (.int (1 : Int32))) (fun h => by rw [Bd.returns] at h; cases h)
          refine ⟨_, _, ck546 _ ?_, hrun, hended, _, _, rfl, ?_, ⟨_, rfl⟩, hW, hsame.mono (by decide) (by decide)⟩
          · refine XS.aload X537.here hx rfl (hb hby at_424) rfl rfl ?_
            refine XS.iload X537.here hx rfl (hb hby at_426) rfl ?_
            refine st548.trans ?_
            show Steps p.tables e below (T548.setTop (mkF m 431 #[.val (.int p0), .val (.int p1), .val (.int p2), .val (.int p3), .val (.int p4), .val (.int p5), .val (.int n7), .val (.int sm), .val (.long lim), .second, .val (.long C0), .second, .val (.long C1), .second, .val (.long C2), .second, .val (.long C3), .second, .val (.int (4 : Int32)), .val (.ref b511), .val (.int (((p5.toUInt32 >>> ((4 : Int32) &&& 31).toUInt32).toInt32) &&& (3 : Int32))), .val (.long pk), .second, .val (.int qq), .val (.ref aS), .val (.int (1 : Int32))] [(.int (1 : Int32))])) _
            refine XS.iload X548.here hx rfl (hb hby at_431) rfl ?_
            refine XS.icmpNo X548.here hx rfl (hb hby at_433) rfl (teq (by decide : (1 : Int32) = (1 : Int32))).2 ?_
            refine XS.iconst X548.here hx rfl (hb hby at_436) ?_
            refine XS.goto X548.here hx rfl (pc0 := 437) (pc' := 441) rfl (hb hby at_437) (by decide) (by decide) ?_
            exact retN X548 hx (t := .boolean) Bd.returns (by simp) (hb hby at_441) hr
          · show own_Made (some (.int 1)) n0 _ T548.heap _
            rw [e548]
            exact ⟨rfl, N548, trivial⟩
      · -- pc 384: no
        have ck550 : ∀ t, Steps p.tables e below (T537.setTop (mkF m 399 #[.val (.int p0), .val (.int p1), .val (.int p2), .val (.int p3), .val (.int p4), .val (.int p5), .val (.int n7), .val (.int sm), .val (.long lim), .second, .val (.long C0), .second, .val (.long C1), .second, .val (.long C2), .second, .val (.long C3), .second, .val (.int (4 : Int32)), .val (.ref b511), .val (.int (((p5.toUInt32 >>> ((4 : Int32) &&& 31).toUInt32).toInt32) &&& (3 : Int32))), .val (.long pk), .second, .val (.int qq), .val (.ref aS), .unset] [(.int (lcmpW (qq.toInt64) C2))])) t → Steps p.tables e below (s₁.setTop (entryFrame m #[(.int p0), (.int p1), (.int p2), (.int p3), (.int p4), (.int p5)] maxLocals)) t := by
          intro t kt
          refine ck545 _ ?_
          refine XS.ifNo X537.here hx rfl (hb hby at_384) rfl ((if0 _ _).trans (feq hc384_544).1) ?_
          refine XS.iload X537.here hx rfl (hb hby at_387) rfl ?_
          refine XS.iconst X537.here hx rfl (hb hby at_389) ?_
          refine XS.icmpNo X537.here hx rfl (hb hby at_390) rfl (flt (by decide : ¬ ((4 : Int32) < (3 : Int32)))).1 ?_
          refine XS.iload X537.here hx rfl (hb hby at_393) rfl ?_
          refine XS.i2l X537.here hx rfl (hb hby at_395) rfl ?_
          refine XS.lload X537.here hx rfl (hb hby at_396) rfl ?_
          refine XS.lcmp X537.here hx rfl (hb hby at_398) rfl ?_
          exact kt
        by_cases hc399_549 : (lcmpW (qq.toInt64) C2) = (0 : Int32)
        · -- pc 399: yes
          have ck551 : ∀ t, Steps p.tables e below (T537.setTop (mkF m 424 #[.val (.int p0), .val (.int p1), .val (.int p2), .val (.int p3), .val (.int p4), .val (.int p5), .val (.int n7), .val (.int sm), .val (.long lim), .second, .val (.long C0), .second, .val (.long C1), .second, .val (.long C2), .second, .val (.long C3), .second, .val (.int (4 : Int32)), .val (.ref b511), .val (.int (((p5.toUInt32 >>> ((4 : Int32) &&& 31).toUInt32).toInt32) &&& (3 : Int32))), .val (.long pk), .second, .val (.int qq), .val (.ref aS), .val (.int (1 : Int32))] [])) t → Steps p.tables e below (s₁.setTop (entryFrame m #[(.int p0), (.int p1), (.int p2), (.int p3), (.int p4), (.int p5)] maxLocals)) t := by
            intro t kt
            refine ck550 _ ?_
            refine XS.ifYes X537.here hx rfl (pc0 := 399) (pc' := 417) rfl (hb hby at_399) rfl ((if0 _ _).trans (teq hc399_549).1) (by decide) (by decide) ?_
            refine XS.iconst X537.here hx rfl (hb hby at_417) ?_
            refine XS.goto X537.here hx rfl (pc0 := 418) (pc' := 422) rfl (hb hby at_418) (by decide) (by decide) ?_
            refine XS.istore X537.here hx rfl (hb hby at_422) rfl (l' := #[.val (.int p0), .val (.int p1), .val (.int p2), .val (.int p3), .val (.int p4), .val (.int p5), .val (.int n7), .val (.int sm), .val (.long lim), .second, .val (.long C0), .second, .val (.long C1), .second, .val (.long C2), .second, .val (.long C3), .second, .val (.int (4 : Int32)), .val (.ref b511), .val (.int (((p5.toUInt32 >>> ((4 : Int32) &&& 31).toUInt32).toInt32) &&& (3 : Int32))), .val (.long pk), .second, .val (.int qq), .val (.ref aS), .val (.int (1 : Int32))]) rfl ?_
            exact kt
          rcases hB with hB | ⟨bb, kb, zb, gb, hB, B_b, hzb, hS⟩
          · -- bits: S
            have d_hc369_539 := own_ne_lc hc369_539
            have d_hc384_544 := own_ne_lc hc384_544
            have d_hc399_549 := own_eq_lc hc399_549
            obtain ⟨cq552, kq552, q552a, q552b, q552c⟩ := isOf hZ e537 (ES)
            obtain ⟨_, _, ⟨T552, L552, k552, n552⟩, -, X552, ⟨Lc552, hQ552, l552, y552, z552⟩, st552⟩ := X537.virtualBack hx (y := (⟨"com/example/cubelet/cubelet/CellStore$Step", "takes", "(I)Z"⟩ : MethodName)) (z := (⟨"com/example/cubelet/cubelet/CellStore$Step", "takes", "(I)Z"⟩ : MethodName)) hown (mvT hZ (own_q hw 29 rfl)) (mvT hZ (own_q hw 30 rfl)) (notFace_of_selects (args := #[]) (mvT hZ (own_q hw 32 rfl))) (mvT hZ (own_q hw 32 rfl)) (mvT hZ (own_q hw 31 rfl)) (by decide) (backOf (W := 0) (rm_tkS_4 l Z a0 hw [] aS qq T537.heap n0 (Nat.le_trans Z0 EX537.1) b511 k511 ic0 ic1 ic2 ic3 Fx538 ⟨by omega, by omega, by omega, by omega⟩ FcS hB (1 : Int32) ⟨fun _ => rfl, fun z => absurd (by omega) z⟩) hZ (own_q hw 33 rfl) (own_q hw 8 rfl) (by decide) (by decide)) q552a q552c (g := (mkF m 428 #[.val (.int p0), .val (.int p1), .val (.int p2), .val (.int p3), .val (.int p4), .val (.int p5), .val (.int n7), .val (.int sm), .val (.long lim), .second, .val (.long C0), .second, .val (.long C1), .second, .val (.long C2), .second, .val (.long C3), .second, .val (.int (4 : Int32)), .val (.ref b511), .val (.int (((p5.toUInt32 >>> ((4 : Int32) &&& 31).toUInt32).toInt32) &&& (3 : Int32))), .val (.long pk), .second, .val (.int qq), .val (.ref aS), .val (.int (1 : Int32))] [(.int qq), (.ref aS)])) rfl (by rw [hml]; rfl) (Steps.refl _) (argsL := [(.int qq)]) (rest := []) (lenOf pd_219 rfl) rfl (by show 2 * 0 + _ ≤ _; exact Nat.le_of_eq rfl) (hb hby at_428) (fun _ _ => ⟨rfl, e537, (by decide : 3 + 0 ≤ _), (by decide : 42 + 0 ≤ _)⟩)
            dsimp only [Pt.U, Pt.locs, Pt.cells, Pt.slots] at X552 l552 y552 z552 st552 hQ552
            subst l552 y552 z552
            obtain ⟨rfl, N552q, e552⟩ := hQ552
            have N552 := Fr.app N537 N552q
            obtain ⟨fs, hr, hrun, hended, hW, hsame⟩ := X552.leave (v := some (.int (1 : Int32))) (fun h => by rw [Bd.returns] at h; cases h)
            refine ⟨_, _, ck551 _ ?_, hrun, hended, _, _, rfl, ?_, ⟨_, rfl⟩, hW, hsame.mono (by decide) (by decide)⟩
            · refine XS.aload X537.here hx rfl (hb hby at_424) rfl rfl ?_
              refine XS.iload X537.here hx rfl (hb hby at_426) rfl ?_
              refine st552.trans ?_
              show Steps p.tables e below (T552.setTop (mkF m 431 #[.val (.int p0), .val (.int p1), .val (.int p2), .val (.int p3), .val (.int p4), .val (.int p5), .val (.int n7), .val (.int sm), .val (.long lim), .second, .val (.long C0), .second, .val (.long C1), .second, .val (.long C2), .second, .val (.long C3), .second, .val (.int (4 : Int32)), .val (.ref b511), .val (.int (((p5.toUInt32 >>> ((4 : Int32) &&& 31).toUInt32).toInt32) &&& (3 : Int32))), .val (.long pk), .second, .val (.int qq), .val (.ref aS), .val (.int (1 : Int32))] [(.int (1 : Int32))])) _
              refine XS.iload X552.here hx rfl (hb hby at_431) rfl ?_
              refine XS.icmpNo X552.here hx rfl (hb hby at_433) rfl (teq (by decide : (1 : Int32) = (1 : Int32))).2 ?_
              refine XS.iconst X552.here hx rfl (hb hby at_436) ?_
              refine XS.goto X552.here hx rfl (pc0 := 437) (pc' := 441) rfl (hb hby at_437) (by decide) (by decide) ?_
              exact retN X552 hx (t := .boolean) Bd.returns (by simp) (hb hby at_441) hr
            · show own_Made (some (.int 1)) n0 _ T552.heap _
              rw [e552]
              exact ⟨rfl, N552, trivial⟩
          · -- bits: B
            have d_hc369_539 := own_ne_lc hc369_539
            have d_hc384_544 := own_ne_lc hc384_544
            have d_hc399_549 := own_eq_lc hc399_549
            obtain ⟨cq553, kq553, q553a, q553b, q553c⟩ := isOf hZ e537 (ES)
            obtain ⟨_, _, ⟨T553, L553, k553, n553⟩, -, X553, ⟨Lc553, hQ553, l553, y553, z553⟩, st553⟩ := X537.virtualBack hx (y := (⟨"com/example/cubelet/cubelet/CellStore$Step", "takes", "(I)Z"⟩ : MethodName)) (z := (⟨"com/example/cubelet/cubelet/CellStore$Step", "takes", "(I)Z"⟩ : MethodName)) hown (mvT hZ (own_q hw 29 rfl)) (mvT hZ (own_q hw 30 rfl)) (notFace_of_selects (args := #[]) (mvT hZ (own_q hw 32 rfl))) (mvT hZ (own_q hw 32 rfl)) (mvT hZ (own_q hw 31 rfl)) (by decide) (backOf (W := 0) (rm_tkB_4 l Z a0 hw [] aS qq T537.heap n0 (Nat.le_trans Z0 EX537.1) b511 k511 ic0 ic1 ic2 ic3 Fx538 ⟨by omega, by omega, by omega, by omega⟩ FcS bb kb zb gb hB B_b (by rw [hzb]) hS hqq (1 : Int32) ⟨fun _ => rfl, fun z => absurd (by omega) z⟩) hZ (own_q hw 33 rfl) (own_q hw 8 rfl) (by decide) (by decide)) q553a q553c (g := (mkF m 428 #[.val (.int p0), .val (.int p1), .val (.int p2), .val (.int p3), .val (.int p4), .val (.int p5), .val (.int n7), .val (.int sm), .val (.long lim), .second, .val (.long C0), .second, .val (.long C1), .second, .val (.long C2), .second, .val (.long C3), .second, .val (.int (4 : Int32)), .val (.ref b511), .val (.int (((p5.toUInt32 >>> ((4 : Int32) &&& 31).toUInt32).toInt32) &&& (3 : Int32))), .val (.long pk), .second, .val (.int qq), .val (.ref aS), .val (.int (1 : Int32))] [(.int qq), (.ref aS)])) rfl (by rw [hml]; rfl) (Steps.refl _) (argsL := [(.int qq)]) (rest := []) (lenOf pd_219 rfl) rfl (by show 2 * 0 + _ ≤ _; exact Nat.le_of_eq rfl) (hb hby at_428) (fun _ _ => ⟨rfl, e537, (by decide : 3 + 0 ≤ _), (by decide : 42 + 0 ≤ _)⟩)
            dsimp only [Pt.U, Pt.locs, Pt.cells, Pt.slots] at X553 l553 y553 z553 st553 hQ553
            subst l553 y553 z553
            obtain ⟨rfl, N553q, e553⟩ := hQ553
            have N553 := Fr.app N537 N553q
            obtain ⟨fs, hr, hrun, hended, hW, hsame⟩ := X553.leave (v := some (.int (1 : Int32))) (fun h => by rw [Bd.returns] at h; cases h)
            refine ⟨_, _, ck551 _ ?_, hrun, hended, _, _, rfl, ?_, ⟨_, rfl⟩, hW, hsame.mono (by decide) (by decide)⟩
            · refine XS.aload X537.here hx rfl (hb hby at_424) rfl rfl ?_
              refine XS.iload X537.here hx rfl (hb hby at_426) rfl ?_
              refine st553.trans ?_
              show Steps p.tables e below (T553.setTop (mkF m 431 #[.val (.int p0), .val (.int p1), .val (.int p2), .val (.int p3), .val (.int p4), .val (.int p5), .val (.int n7), .val (.int sm), .val (.long lim), .second, .val (.long C0), .second, .val (.long C1), .second, .val (.long C2), .second, .val (.long C3), .second, .val (.int (4 : Int32)), .val (.ref b511), .val (.int (((p5.toUInt32 >>> ((4 : Int32) &&& 31).toUInt32).toInt32) &&& (3 : Int32))), .val (.long pk), .second, .val (.int qq), .val (.ref aS), .val (.int (1 : Int32))] [(.int (1 : Int32))])) _
              refine XS.iload X553.here hx rfl (hb hby at_431) rfl ?_
              refine XS.icmpNo X553.here hx rfl (hb hby at_433) rfl (teq (by decide : (1 : Int32) = (1 : Int32))).2 ?_
              refine XS.iconst X553.here hx rfl (hb hby at_436) ?_
              refine XS.goto X553.here hx rfl (pc0 := 437) (pc' := 441) rfl (hb hby at_437) (by decide) (by decide) ?_
              exact retN X553 hx (t := .boolean) Bd.returns (by simp) (hb hby at_441) hr
            · show own_Made (some (.int 1)) n0 _ T553.heap _
              rw [e553]
              exact ⟨rfl, N553, trivial⟩
        · -- pc 399: no
          have ck555 : ∀ t, Steps p.tables e below (T537.setTop (mkF m 414 #[.val (.int p0), .val (.int p1), .val (.int p2), .val (.int p3), .val (.int p4), .val (.int p5), .val (.int n7), .val (.int sm), .val (.long lim), .second, .val (.long C0), .second, .val (.long C1), .second, .val (.long C2), .second, .val (.long C3), .second, .val (.int (4 : Int32)), .val (.ref b511), .val (.int (((p5.toUInt32 >>> ((4 : Int32) &&& 31).toUInt32).toInt32) &&& (3 : Int32))), .val (.long pk), .second, .val (.int qq), .val (.ref aS), .unset] [(.int (lcmpW (qq.toInt64) C3))])) t → Steps p.tables e below (s₁.setTop (entryFrame m #[(.int p0), (.int p1), (.int p2), (.int p3), (.int p4), (.int p5)] maxLocals)) t := by
            intro t kt
            refine ck550 _ ?_
            refine XS.ifNo X537.here hx rfl (hb hby at_399) rfl ((if0 _ _).trans (feq hc399_549).1) ?_
            refine XS.iload X537.here hx rfl (hb hby at_402) rfl ?_
            refine XS.iconst X537.here hx rfl (hb hby at_404) ?_
            refine XS.icmpNo X537.here hx rfl (hb hby at_405) rfl (flt (by decide : ¬ ((4 : Int32) < (4 : Int32)))).1 ?_
            refine XS.iload X537.here hx rfl (hb hby at_408) rfl ?_
            refine XS.i2l X537.here hx rfl (hb hby at_410) rfl ?_
            refine XS.lload X537.here hx rfl (hb hby at_411) rfl ?_
            refine XS.lcmp X537.here hx rfl (hb hby at_413) rfl ?_
            exact kt
          by_cases hc414_554 : (lcmpW (qq.toInt64) C3) = (0 : Int32)
          · -- pc 414: yes
            have ck556 : ∀ t, Steps p.tables e below (T537.setTop (mkF m 424 #[.val (.int p0), .val (.int p1), .val (.int p2), .val (.int p3), .val (.int p4), .val (.int p5), .val (.int n7), .val (.int sm), .val (.long lim), .second, .val (.long C0), .second, .val (.long C1), .second, .val (.long C2), .second, .val (.long C3), .second, .val (.int (4 : Int32)), .val (.ref b511), .val (.int (((p5.toUInt32 >>> ((4 : Int32) &&& 31).toUInt32).toInt32) &&& (3 : Int32))), .val (.long pk), .second, .val (.int qq), .val (.ref aS), .val (.int (1 : Int32))] [])) t → Steps p.tables e below (s₁.setTop (entryFrame m #[(.int p0), (.int p1), (.int p2), (.int p3), (.int p4), (.int p5)] maxLocals)) t := by
              intro t kt
              refine ck555 _ ?_
              refine XS.ifNo X537.here hx rfl (hb hby at_414) rfl ((if0 _ _).trans (teq hc414_554).2) ?_
              refine XS.iconst X537.here hx rfl (hb hby at_417) ?_
              refine XS.goto X537.here hx rfl (pc0 := 418) (pc' := 422) rfl (hb hby at_418) (by decide) (by decide) ?_
              refine XS.istore X537.here hx rfl (hb hby at_422) rfl (l' := #[.val (.int p0), .val (.int p1), .val (.int p2), .val (.int p3), .val (.int p4), .val (.int p5), .val (.int n7), .val (.int sm), .val (.long lim), .second, .val (.long C0), .second, .val (.long C1), .second, .val (.long C2), .second, .val (.long C3), .second, .val (.int (4 : Int32)), .val (.ref b511), .val (.int (((p5.toUInt32 >>> ((4 : Int32) &&& 31).toUInt32).toInt32) &&& (3 : Int32))), .val (.long pk), .second, .val (.int qq), .val (.ref aS), .val (.int (1 : Int32))]) rfl ?_
              exact kt
            rcases hB with hB | ⟨bb, kb, zb, gb, hB, B_b, hzb, hS⟩
            · -- bits: S
              have d_hc369_539 := own_ne_lc hc369_539
              have d_hc384_544 := own_ne_lc hc384_544
              have d_hc399_549 := own_ne_lc hc399_549
              have d_hc414_554 := own_eq_lc hc414_554
              obtain ⟨cq557, kq557, q557a, q557b, q557c⟩ := isOf hZ e537 (ES)
              obtain ⟨_, _, ⟨T557, L557, k557, n557⟩, -, X557, ⟨Lc557, hQ557, l557, y557, z557⟩, st557⟩ := X537.virtualBack hx (y := (⟨"com/example/cubelet/cubelet/CellStore$Step", "takes", "(I)Z"⟩ : MethodName)) (z := (⟨"com/example/cubelet/cubelet/CellStore$Step", "takes", "(I)Z"⟩ : MethodName)) hown (mvT hZ (own_q hw 29 rfl)) (mvT hZ (own_q hw 30 rfl)) (notFace_of_selects (args := #[]) (mvT hZ (own_q hw 32 rfl))) (mvT hZ (own_q hw 32 rfl)) (mvT hZ (own_q hw 31 rfl)) (by decide) (backOf (W := 0) (rm_tkS_4 l Z a0 hw [] aS qq T537.heap n0 (Nat.le_trans Z0 EX537.1) b511 k511 ic0 ic1 ic2 ic3 Fx538 ⟨by omega, by omega, by omega, by omega⟩ FcS hB (1 : Int32) ⟨fun _ => rfl, fun z => absurd (by omega) z⟩) hZ (own_q hw 33 rfl) (own_q hw 8 rfl) (by decide) (by decide)) q557a q557c (g := (mkF m 428 #[.val (.int p0), .val (.int p1), .val (.int p2), .val (.int p3), .val (.int p4), .val (.int p5), .val (.int n7), .val (.int sm), .val (.long lim), .second, .val (.long C0), .second, .val (.long C1), .second, .val (.long C2), .second, .val (.long C3), .second, .val (.int (4 : Int32)), .val (.ref b511), .val (.int (((p5.toUInt32 >>> ((4 : Int32) &&& 31).toUInt32).toInt32) &&& (3 : Int32))), .val (.long pk), .second, .val (.int qq), .val (.ref aS), .val (.int (1 : Int32))] [(.int qq), (.ref aS)])) rfl (by rw [hml]; rfl) (Steps.refl _) (argsL := [(.int qq)]) (rest := []) (lenOf pd_219 rfl) rfl (by show 2 * 0 + _ ≤ _; exact Nat.le_of_eq rfl) (hb hby at_428) (fun _ _ => ⟨rfl, e537, (by decide : 3 + 0 ≤ _), (by decide : 42 + 0 ≤ _)⟩)
              dsimp only [Pt.U, Pt.locs, Pt.cells, Pt.slots] at X557 l557 y557 z557 st557 hQ557
              subst l557 y557 z557
              obtain ⟨rfl, N557q, e557⟩ := hQ557
              have N557 := Fr.app N537 N557q
              obtain ⟨fs, hr, hrun, hended, hW, hsame⟩ := X557.leave (v := some (.int (1 : Int32))) (fun h => by rw [Bd.returns] at h; cases h)
              refine ⟨_, _, ck556 _ ?_, hrun, hended, _, _, rfl, ?_, ⟨_, rfl⟩, hW, hsame.mono (by decide) (by decide)⟩
              · refine XS.aload X537.here hx rfl (hb hby at_424) rfl rfl ?_
                refine XS.iload X537.here hx rfl (hb hby at_426) rfl ?_
                refine st557.trans ?_
                show Steps p.tables e below (T557.setTop (mkF m 431 #[.val (.int p0), .val (.int p1), .val (.int p2), .val (.int p3), .val (.int p4), .val (.int p5), .val (.int n7), .val (.int sm), .val (.long lim), .second, .val (.long C0), .second, .val (.long C1), .second, .val (.long C2), .second, .val (.long C3), .second, .val (.int (4 : Int32)), .val (.ref b511), .val (.int (((p5.toUInt32 >>> ((4 : Int32) &&& 31).toUInt32).toInt32) &&& (3 : Int32))), .val (.long pk), .second, .val (.int qq), .val (.ref aS), .val (.int (1 : Int32))] [(.int (1 : Int32))])) _
                refine XS.iload X557.here hx rfl (hb hby at_431) rfl ?_
                refine XS.icmpNo X557.here hx rfl (hb hby at_433) rfl (teq (by decide : (1 : Int32) = (1 : Int32))).2 ?_
                refine XS.iconst X557.here hx rfl (hb hby at_436) ?_
                refine XS.goto X557.here hx rfl (pc0 := 437) (pc' := 441) rfl (hb hby at_437) (by decide) (by decide) ?_
                exact retN X557 hx (t := .boolean) Bd.returns (by simp) (hb hby at_441) hr
              · show own_Made (some (.int 1)) n0 _ T557.heap _
                rw [e557]
                exact ⟨rfl, N557, trivial⟩
            · -- bits: B
              have d_hc369_539 := own_ne_lc hc369_539
              have d_hc384_544 := own_ne_lc hc384_544
              have d_hc399_549 := own_ne_lc hc399_549
              have d_hc414_554 := own_eq_lc hc414_554
              obtain ⟨cq558, kq558, q558a, q558b, q558c⟩ := isOf hZ e537 (ES)
              obtain ⟨_, _, ⟨T558, L558, k558, n558⟩, -, X558, ⟨Lc558, hQ558, l558, y558, z558⟩, st558⟩ := X537.virtualBack hx (y := (⟨"com/example/cubelet/cubelet/CellStore$Step", "takes", "(I)Z"⟩ : MethodName)) (z := (⟨"com/example/cubelet/cubelet/CellStore$Step", "takes", "(I)Z"⟩ : MethodName)) hown (mvT hZ (own_q hw 29 rfl)) (mvT hZ (own_q hw 30 rfl)) (notFace_of_selects (args := #[]) (mvT hZ (own_q hw 32 rfl))) (mvT hZ (own_q hw 32 rfl)) (mvT hZ (own_q hw 31 rfl)) (by decide) (backOf (W := 0) (rm_tkB_4 l Z a0 hw [] aS qq T537.heap n0 (Nat.le_trans Z0 EX537.1) b511 k511 ic0 ic1 ic2 ic3 Fx538 ⟨by omega, by omega, by omega, by omega⟩ FcS bb kb zb gb hB B_b (by rw [hzb]) hS hqq (1 : Int32) ⟨fun _ => rfl, fun z => absurd (by omega) z⟩) hZ (own_q hw 33 rfl) (own_q hw 8 rfl) (by decide) (by decide)) q558a q558c (g := (mkF m 428 #[.val (.int p0), .val (.int p1), .val (.int p2), .val (.int p3), .val (.int p4), .val (.int p5), .val (.int n7), .val (.int sm), .val (.long lim), .second, .val (.long C0), .second, .val (.long C1), .second, .val (.long C2), .second, .val (.long C3), .second, .val (.int (4 : Int32)), .val (.ref b511), .val (.int (((p5.toUInt32 >>> ((4 : Int32) &&& 31).toUInt32).toInt32) &&& (3 : Int32))), .val (.long pk), .second, .val (.int qq), .val (.ref aS), .val (.int (1 : Int32))] [(.int qq), (.ref aS)])) rfl (by rw [hml]; rfl) (Steps.refl _) (argsL := [(.int qq)]) (rest := []) (lenOf pd_219 rfl) rfl (by show 2 * 0 + _ ≤ _; exact Nat.le_of_eq rfl) (hb hby at_428) (fun _ _ => ⟨rfl, e537, (by decide : 3 + 0 ≤ _), (by decide : 42 + 0 ≤ _)⟩)
              dsimp only [Pt.U, Pt.locs, Pt.cells, Pt.slots] at X558 l558 y558 z558 st558 hQ558
              subst l558 y558 z558
              obtain ⟨rfl, N558q, e558⟩ := hQ558
              have N558 := Fr.app N537 N558q
              obtain ⟨fs, hr, hrun, hended, hW, hsame⟩ := X558.leave (v := some (.int (1 : Int32))) (fun h => by rw [Bd.returns] at h; cases h)
              refine ⟨_, _, ck556 _ ?_, hrun, hended, _, _, rfl, ?_, ⟨_, rfl⟩, hW, hsame.mono (by decide) (by decide)⟩
              · refine XS.aload X537.here hx rfl (hb hby at_424) rfl rfl ?_
                refine XS.iload X537.here hx rfl (hb hby at_426) rfl ?_
                refine st558.trans ?_
                show Steps p.tables e below (T558.setTop (mkF m 431 #[.val (.int p0), .val (.int p1), .val (.int p2), .val (.int p3), .val (.int p4), .val (.int p5), .val (.int n7), .val (.int sm), .val (.long lim), .second, .val (.long C0), .second, .val (.long C1), .second, .val (.long C2), .second, .val (.long C3), .second, .val (.int (4 : Int32)), .val (.ref b511), .val (.int (((p5.toUInt32 >>> ((4 : Int32) &&& 31).toUInt32).toInt32) &&& (3 : Int32))), .val (.long pk), .second, .val (.int qq), .val (.ref aS), .val (.int (1 : Int32))] [(.int (1 : Int32))])) _
                refine XS.iload X558.here hx rfl (hb hby at_431) rfl ?_
                refine XS.icmpNo X558.here hx rfl (hb hby at_433) rfl (teq (by decide : (1 : Int32) = (1 : Int32))).2 ?_
                refine XS.iconst X558.here hx rfl (hb hby at_436) ?_
                refine XS.goto X558.here hx rfl (pc0 := 437) (pc' := 441) rfl (hb hby at_437) (by decide) (by decide) ?_
                exact retN X558 hx (t := .boolean) Bd.returns (by simp) (hb hby at_441) hr
              · show own_Made (some (.int 1)) n0 _ T558.heap _
                rw [e558]
                exact ⟨rfl, N558, trivial⟩
          · -- pc 414: no
            rcases hB with hB | ⟨bb, kb, zb, gb, hB, B_b, hzb, hS⟩
            · -- bits: S
              have d_hc369_539 := own_ne_lc hc369_539
              have d_hc384_544 := own_ne_lc hc384_544
              have d_hc399_549 := own_ne_lc hc399_549
              have d_hc414_554 := own_ne_lc hc414_554
              obtain ⟨cq559, kq559, q559a, q559b, q559c⟩ := isOf hZ e537 (ES)
              obtain ⟨_, _, ⟨T559, L559, k559, n559⟩, -, X559, ⟨Lc559, hQ559, l559, y559, z559⟩, st559⟩ := X537.virtualBack hx (y := (⟨"com/example/cubelet/cubelet/CellStore$Step", "takes", "(I)Z"⟩ : MethodName)) (z := (⟨"com/example/cubelet/cubelet/CellStore$Step", "takes", "(I)Z"⟩ : MethodName)) hown (mvT hZ (own_q hw 29 rfl)) (mvT hZ (own_q hw 30 rfl)) (notFace_of_selects (args := #[]) (mvT hZ (own_q hw 32 rfl))) (mvT hZ (own_q hw 32 rfl)) (mvT hZ (own_q hw 31 rfl)) (by decide) (backOf (W := 0) (rm_tkS_4 l Z a0 hw [] aS qq T537.heap n0 (Nat.le_trans Z0 EX537.1) b511 k511 ic0 ic1 ic2 ic3 Fx538 ⟨by omega, by omega, by omega, by omega⟩ FcS hB (0 : Int32) ⟨fun z => absurd z (by omega), fun _ => rfl⟩) hZ (own_q hw 33 rfl) (own_q hw 8 rfl) (by decide) (by decide)) q559a q559c (g := (mkF m 428 #[.val (.int p0), .val (.int p1), .val (.int p2), .val (.int p3), .val (.int p4), .val (.int p5), .val (.int n7), .val (.int sm), .val (.long lim), .second, .val (.long C0), .second, .val (.long C1), .second, .val (.long C2), .second, .val (.long C3), .second, .val (.int (4 : Int32)), .val (.ref b511), .val (.int (((p5.toUInt32 >>> ((4 : Int32) &&& 31).toUInt32).toInt32) &&& (3 : Int32))), .val (.long pk), .second, .val (.int qq), .val (.ref aS), .val (.int (0 : Int32))] [(.int qq), (.ref aS)])) rfl (by rw [hml]; rfl) (Steps.refl _) (argsL := [(.int qq)]) (rest := []) (lenOf pd_219 rfl) rfl (by show 2 * 0 + _ ≤ _; exact Nat.le_of_eq rfl) (hb hby at_428) (fun _ _ => ⟨rfl, e537, (by decide : 3 + 0 ≤ _), (by decide : 42 + 0 ≤ _)⟩)
              dsimp only [Pt.U, Pt.locs, Pt.cells, Pt.slots] at X559 l559 y559 z559 st559 hQ559
              subst l559 y559 z559
              obtain ⟨rfl, N559q, e559⟩ := hQ559
              have N559 := Fr.app N537 N559q
              obtain ⟨fs, hr, hrun, hended, hW, hsame⟩ := X559.leave (v := some (.int (1 : Int32))) (fun h => by rw [Bd.returns] at h; cases h)
              refine ⟨_, _, ck555 _ ?_, hrun, hended, _, _, rfl, ?_, ⟨_, rfl⟩, hW, hsame.mono (by decide) (by decide)⟩
              · refine XS.ifYes X537.here hx rfl (pc0 := 414) (pc' := 421) rfl (hb hby at_414) rfl ((if0 _ _).trans (feq hc414_554).2) (by decide) (by decide) ?_
                refine XS.iconst X537.here hx rfl (hb hby at_421) ?_
                refine XS.istore X537.here hx rfl (hb hby at_422) rfl (l' := #[.val (.int p0), .val (.int p1), .val (.int p2), .val (.int p3), .val (.int p4), .val (.int p5), .val (.int n7), .val (.int sm), .val (.long lim), .second, .val (.long C0), .second, .val (.long C1), .second, .val (.long C2), .second, .val (.long C3), .second, .val (.int (4 : Int32)), .val (.ref b511), .val (.int (((p5.toUInt32 >>> ((4 : Int32) &&& 31).toUInt32).toInt32) &&& (3 : Int32))), .val (.long pk), .second, .val (.int qq), .val (.ref aS), .val (.int (0 : Int32))]) rfl ?_
                refine XS.aload X537.here hx rfl (hb hby at_424) rfl rfl ?_
                refine XS.iload X537.here hx rfl (hb hby at_426) rfl ?_
                refine st559.trans ?_
                show Steps p.tables e below (T559.setTop (mkF m 431 #[.val (.int p0), .val (.int p1), .val (.int p2), .val (.int p3), .val (.int p4), .val (.int p5), .val (.int n7), .val (.int sm), .val (.long lim), .second, .val (.long C0), .second, .val (.long C1), .second, .val (.long C2), .second, .val (.long C3), .second, .val (.int (4 : Int32)), .val (.ref b511), .val (.int (((p5.toUInt32 >>> ((4 : Int32) &&& 31).toUInt32).toInt32) &&& (3 : Int32))), .val (.long pk), .second, .val (.int qq), .val (.ref aS), .val (.int (0 : Int32))] [(.int (0 : Int32))])) _
                refine XS.iload X559.here hx rfl (hb hby at_431) rfl ?_
                refine XS.icmpNo X559.here hx rfl (hb hby at_433) rfl (teq (by decide : (0 : Int32) = (0 : Int32))).2 ?_
                refine XS.iconst X559.here hx rfl (hb hby at_436) ?_
                refine XS.goto X559.here hx rfl (pc0 := 437) (pc' := 441) rfl (hb hby at_437) (by decide) (by decide) ?_
                exact retN X559 hx (t := .boolean) Bd.returns (by simp) (hb hby at_441) hr
              · show own_Made (some (.int 1)) n0 _ T559.heap _
                rw [e559]
                exact ⟨rfl, N559, trivial⟩
            · -- bits: B
              have d_hc369_539 := own_ne_lc hc369_539
              have d_hc384_544 := own_ne_lc hc384_544
              have d_hc399_549 := own_ne_lc hc399_549
              have d_hc414_554 := own_ne_lc hc414_554
              obtain ⟨cq560, kq560, q560a, q560b, q560c⟩ := isOf hZ e537 (ES)
              obtain ⟨_, _, ⟨T560, L560, k560, n560⟩, -, X560, ⟨Lc560, hQ560, l560, y560, z560⟩, st560⟩ := X537.virtualBack hx (y := (⟨"com/example/cubelet/cubelet/CellStore$Step", "takes", "(I)Z"⟩ : MethodName)) (z := (⟨"com/example/cubelet/cubelet/CellStore$Step", "takes", "(I)Z"⟩ : MethodName)) hown (mvT hZ (own_q hw 29 rfl)) (mvT hZ (own_q hw 30 rfl)) (notFace_of_selects (args := #[]) (mvT hZ (own_q hw 32 rfl))) (mvT hZ (own_q hw 32 rfl)) (mvT hZ (own_q hw 31 rfl)) (by decide) (backOf (W := 0) (rm_tkB_4 l Z a0 hw [] aS qq T537.heap n0 (Nat.le_trans Z0 EX537.1) b511 k511 ic0 ic1 ic2 ic3 Fx538 ⟨by omega, by omega, by omega, by omega⟩ FcS bb kb zb gb hB B_b (by rw [hzb]) hS hqq (0 : Int32) ⟨fun z => absurd z (by omega), fun _ => rfl⟩) hZ (own_q hw 33 rfl) (own_q hw 8 rfl) (by decide) (by decide)) q560a q560c (g := (mkF m 428 #[.val (.int p0), .val (.int p1), .val (.int p2), .val (.int p3), .val (.int p4), .val (.int p5), .val (.int n7), .val (.int sm), .val (.long lim), .second, .val (.long C0), .second, .val (.long C1), .second, .val (.long C2), .second, .val (.long C3), .second, .val (.int (4 : Int32)), .val (.ref b511), .val (.int (((p5.toUInt32 >>> ((4 : Int32) &&& 31).toUInt32).toInt32) &&& (3 : Int32))), .val (.long pk), .second, .val (.int qq), .val (.ref aS), .val (.int (0 : Int32))] [(.int qq), (.ref aS)])) rfl (by rw [hml]; rfl) (Steps.refl _) (argsL := [(.int qq)]) (rest := []) (lenOf pd_219 rfl) rfl (by show 2 * 0 + _ ≤ _; exact Nat.le_of_eq rfl) (hb hby at_428) (fun _ _ => ⟨rfl, e537, (by decide : 3 + 0 ≤ _), (by decide : 42 + 0 ≤ _)⟩)
              dsimp only [Pt.U, Pt.locs, Pt.cells, Pt.slots] at X560 l560 y560 z560 st560 hQ560
              subst l560 y560 z560
              obtain ⟨rfl, N560q, e560⟩ := hQ560
              have N560 := Fr.app N537 N560q
              obtain ⟨fs, hr, hrun, hended, hW, hsame⟩ := X560.leave (v := some (.int (1 : Int32))) (fun h => by rw [Bd.returns] at h; cases h)
              refine ⟨_, _, ck555 _ ?_, hrun, hended, _, _, rfl, ?_, ⟨_, rfl⟩, hW, hsame.mono (by decide) (by decide)⟩
              · refine XS.ifYes X537.here hx rfl (pc0 := 414) (pc' := 421) rfl (hb hby at_414) rfl ((if0 _ _).trans (feq hc414_554).2) (by decide) (by decide) ?_
                refine XS.iconst X537.here hx rfl (hb hby at_421) ?_
                refine XS.istore X537.here hx rfl (hb hby at_422) rfl (l' := #[.val (.int p0), .val (.int p1), .val (.int p2), .val (.int p3), .val (.int p4), .val (.int p5), .val (.int n7), .val (.int sm), .val (.long lim), .second, .val (.long C0), .second, .val (.long C1), .second, .val (.long C2), .second, .val (.long C3), .second, .val (.int (4 : Int32)), .val (.ref b511), .val (.int (((p5.toUInt32 >>> ((4 : Int32) &&& 31).toUInt32).toInt32) &&& (3 : Int32))), .val (.long pk), .second, .val (.int qq), .val (.ref aS), .val (.int (0 : Int32))]) rfl ?_
                refine XS.aload X537.here hx rfl (hb hby at_424) rfl rfl ?_
                refine XS.iload X537.here hx rfl (hb hby at_426) rfl ?_
                refine st560.trans ?_
                show Steps p.tables e below (T560.setTop (mkF m 431 #[.val (.int p0), .val (.int p1), .val (.int p2), .val (.int p3), .val (.int p4), .val (.int p5), .val (.int n7), .val (.int sm), .val (.long lim), .second, .val (.long C0), .second, .val (.long C1), .second, .val (.long C2), .second, .val (.long C3), .second, .val (.int (4 : Int32)), .val (.ref b511), .val (.int (((p5.toUInt32 >>> ((4 : Int32) &&& 31).toUInt32).toInt32) &&& (3 : Int32))), .val (.long pk), .second, .val (.int qq), .val (.ref aS), .val (.int (0 : Int32))] [(.int (0 : Int32))])) _
                refine XS.iload X560.here hx rfl (hb hby at_431) rfl ?_
                refine XS.icmpNo X560.here hx rfl (hb hby at_433) rfl (teq (by decide : (0 : Int32) = (0 : Int32))).2 ?_
                refine XS.iconst X560.here hx rfl (hb hby at_436) ?_
                refine XS.goto X560.here hx rfl (pc0 := 437) (pc' := 441) rfl (hb hby at_437) (by decide) (by decide) ?_
                exact retN X560 hx (t := .boolean) Bd.returns (by simp) (hb hby at_441) hr
              · show own_Made (some (.int 1)) n0 _ T560.heap _
                rw [e560]
                exact ⟨rfl, N560, trivial⟩
set_option maxRecDepth 65536 in
set_option maxHeartbeats 40000000 in
theorem comes_1 {Post : Tables → Env → Array Value → State → Outcome → State → Prop} (hpost : ∀ tb e args s v u, (limb_1_1.after args s (.returned v) u = true ∧ limb_1_2.after args s (.returned v) u = true ∧ True) → FrameEnd s (.returned v) u (Jvm.fieldLocs frame_1_writes args s ++ Jvm.arrayLocs frame_1_arrays args s ++ Jvm.staticLocs frame_1_statics s) 16 128 → Post tb e args s (.returned v) u) :
    ArmFor flags0 classFile x code maxLocals ret World_1 tables_1 room_1 Calls_1 rest_1 Pre_1 Post := by
  intro l hfl _ _ p e ha hc hk s m args below hf hA hF happ hP
  obtain ⟨hcalls, hrest, hpre⟩ := hP
  obtain ⟨-, -, -, hnamed, -, -, -, hat⟩ := (Spec.applies_iff hf).mp happ
  obtain ⟨hg, hn⟩ := and_e (Cond.before_iff.mp (show (Jvm.Cond.and given_1 narrow_1).before args s = true from hpre))
  obtain ⟨gg0, hh0⟩ := and_e hg
  obtain ⟨gg1, hh1⟩ := and_e hh0
  obtain ⟨gg2, hh2⟩ := and_e hh1
  obtain ⟨gg3, hh3⟩ := and_e hh2
  obtain ⟨gg4, hh4⟩ := and_e hh3
  obtain ⟨gg5, hh5⟩ := and_e hh4
  obtain ⟨w0, w1, w2, w3, w4, w5, rfl⟩ : ∃ w0 w1 w2 w3 w4 w5 : Value, args = #[w0, w1, w2, w3, w4, w5] := by
    have hs : args.size = 6 := by simpa [Cond.value, given_1] using gg0
    obtain ⟨L⟩ := args
    match L, hs with
    | [w0, w1, w2, w3, w4, w5], _ => exact ⟨w0, w1, w2, w3, w4, w5, rfl⟩
  have hw := fun d (hd : d ∈ tables_1) => atoms_spec (ws := Jvm.Cond.code x code maxLocals ret :: tables_1) hat d (List.mem_cons_of_mem _ hd)
  have hfit : Fit s := fun {y c} hc i hi => by
    obtain ⟨ha, rfl⟩ := Array.getElem?_eq_some_iff.mp hc
    have q := List.all_eq_true.mp ((Array.all_eq_true_iff_forall_mem.mp hF) _ (Array.getElem_mem ha)) i (List.mem_range.mpr hi)
    simpa [Array.getElem?_eq_getElem hi] using q
  obtain ⟨i0, ei0⟩ := is_v gg1
  obtain rfl : w0 = (.int i0) := Option.some.inj ei0
  obtain ⟨i1, ei1⟩ := is_v gg2
  obtain rfl : w1 = (.int i1) := Option.some.inj ei1
  obtain ⟨i2, ei2⟩ := is_v gg3
  obtain rfl : w2 = (.int i2) := Option.some.inj ei2
  obtain ⟨i3, ei3⟩ := is_v gg4
  obtain rfl : w3 = (.int i3) := Option.some.inj ei3
  obtain ⟨i4, ei4⟩ := is_v gg5
  obtain rfl : w4 = (.int i4) := Option.some.inj ei4
  obtain ⟨i5, ei5⟩ := is_v hh5
  obtain rfl : w5 = (.int i5) := Option.some.inj ei5
  obtain ⟨n, o, h1, h2, h3, _, L, rfl, hQ0, hq⟩ := rm_law l s _ hw tables_1 i0 i1 i2 i3 i4 i5 s.heap s.heap.size (Nat.le_refl _)  p e ha hc hk s m _ below hf ((Spec.applies_iff_loose hf).mp happ).1 ⟨rfl, State.Warmed39.refl s, rfl⟩ trivial
  have N := hQ0.2.1
  obtain rfl := hQ0.1
  refine ⟨n, _, h1, h2, h3, hpost _ _ _ _ _ _ ⟨Cond.after_iff.mpr rfl, Cond.after_iff.mpr (eq_i res_at (Term.int_eval (1)) rfl), trivial⟩ ⟨hq.1, hq.2.1, (hq.2.2.sift fun y hy => Or.inr (N y hy)).mono (by decide) (by decide)⟩⟩
theorem main_1_1 : Claimed_1_1 := comes_1 fun _ _ _ _ _ _ h hF => ⟨h.1, hF⟩
theorem main_1_2 : Claimed_1_2 := comes_1 fun _ _ _ _ _ _ h hF => ⟨h.2.1, hF⟩
end Jvm.Pilot.@@N@@
namespace Jvm.Pilot.@@N@@
open Jvm Jvm.ClassFile Sem Op Lib Jvm.Free Jvm.Stand Jvm.Pilot.@@N@@.Jvm.D
/-! MADE BY PROGRAM (witnessworld.py) out of the Statement's table words and the real class files: 13 classes; the members and pool entries that the words name. The judged class is class 1, her method 1. -/
namespace start1
open Jvm.ClassFile
def u (s : String) : CpInfo := .utf8 (stringToUtf16 s)
/-- a pool by its gaps: so many unusable entries, then the entry; so many at the end -/
def gap : Nat → List CpInfo → List CpInfo
  | 0, r => r
  | n + 1, r => .unusable :: gap n r
def poolList (es : List (Nat × CpInfo)) (last : Nat) : List CpInfo := es.foldr (fun e r => gap e.1 (e.2 :: r)) (gap last [])
def pool (es : List (Nat × CpInfo)) (last : Nat) : Array CpInfo := ⟨poolList es last⟩
def fileOf (pool : Array CpInfo) (this : Nat) (attrs : Array Attribute := #[]) (ms : Array MethodInfo := #[]) (fl : Nat := 33) (sup : Nat := 0) (ifs : Array Nat := #[]) (fds : Array FieldInfo := #[]) : ClassFile where
  minorVersion := 0
  majorVersion := 65
  constantPool := pool
  accessFlags := fl
  thisClass := this
  superClass := sup
  interfaces := ifs
  fields := fds
  methods := ms
  attributes := attrs
def plain (name : String) (sup : Option ClassId) : Class where
  name := name
  kind := .ordinary
  loader := none
  accessFlags := 33
  super := sup
  interfaces := #[]
  cf := none
  fields := #[]
  methods := #[]
  instanceTypes := #[]
  staticTypes := #[]
  resolved := #[]
  callSites := []
  init := .initialized
  statics := none
  mirror := none

def pool0 : Array CpInfo := pool [(5, u "<init>"), (0, u "()V"), (1, .class_ 10), (1, u "java/lang/Object")] 113

def k0c0 : Code := { maxStack := 0, maxLocals := 1, code := object_method_1_code, exceptionTable := #[], attributes := #[] }
def k0m0 : Method := { name := "<init>", desc := "()V", sig := { parameters := [], returnType := none }, accessFlags := 1, code := some k0c0 }
/-- java/lang/Object -/
def k0 : Class := { plain "java/lang/Object" none with
  accessFlags := 33
  interfaces := #[]
  cf := some (fileOf pool0 8 #[] #[{ accessFlags := 1, nameIndex := 5, descriptorIndex := 6, attributes := #[] }] 33 0 #[] #[])
  fields := #[]
  methods := #[k0m0]
  instanceTypes := #[]
  staticTypes := #[]
  resolved := Array.replicate 124 none
  statics := none }

def pool1 : Array CpInfo := pool [(2, .class_ 4), (1, u "java/lang/Object"), (0, u "<init>"), (0, u "()V"), (0, .long 1023), (1, .long 2147483647), (1, .methodref 12 13), (0, .class_ 14), (0, .nameAndType 15 16), (0, u "java/lang/Math"), (0, u "min"), (0, u "(II)I"), (0, .methodref 12 18), (0, .nameAndType 15 19), (0, u "(JJ)J"), (0, .methodref 21 22), (0, .class_ 23), (0, .nameAndType 24 25), (0, u "com/example/cubelet/cubelet/CellStore$Step"), (0, u "together"), (0, u "([I)Lcom/example/cubelet/cubelet/CellStore$Step;"), (0, .methodref 21 27), (0, .nameAndType 28 29), (0, u "takes"), (0, u "(I)Z"), (0, .class_ 31), (0, u "com/example/cubelet/cubelet/StepTogetherPinLaw"), (2, u "law"), (0, u "(IIIIII)Z")] 9

def k1m0 : Method := { name := "<init>", desc := "()V", sig := { parameters := [], returnType := none }, accessFlags := 1, code := none }
def k1c1 : Code := { maxStack := 8, maxLocals := 26, code := code, exceptionTable := #[], attributes := #[] }
def k1m1 : Method := { name := "law", desc := "(IIIIII)Z", sig := { parameters := [.int, .int, .int, .int, .int, .int], returnType := some .boolean }, accessFlags := 9, code := some k1c1 }
/-- com/example/cubelet/cubelet/StepTogetherPinLaw -/
def k1 : Class := { plain "com/example/cubelet/cubelet/StepTogetherPinLaw" (some 0) with
  accessFlags := 49
  interfaces := #[]
  cf := some (fileOf pool1 30 #[] #[{ accessFlags := 1, nameIndex := 5, descriptorIndex := 6, attributes := #[] }, { accessFlags := 9, nameIndex := 34, descriptorIndex := 35, attributes := #[] }] 49 2 #[] #[])
  fields := #[]
  methods := #[k1m0, k1m1]
  instanceTypes := #[]
  staticTypes := #[]
  resolved := Array.replicate 45 none
  statics := none }

def pool2 : Array CpInfo := pool [(1, .class_ 2), (0, u "java/lang/Math"), (1, .class_ 6), (1, u "java/lang/Object"), (0, u "<init>"), (0, u "()V"), (89, .class_ 100), (1, u "java/lang/Math$RandomNumberGeneratorHolder"), (20, u "(JJ)J"), (50, u "negativeZeroFloatBits"), (0, u "J"), (2, u "negativeZeroDoubleBits"), (24, u "min"), (43, u "$assertionsDisabled"), (0, u "Z"), (88, u "(II)I"), (2, u "twoToTheDoubleScaleDown"), (0, u "D"), (4, u "twoToTheDoubleScaleUp"), (9, u "E"), (3, u "PI"), (2, u "TAU"), (2, u "DEGREES_TO_RADIANS"), (0, u "RADIANS_TO_DEGREES")] 94

def k2m0 : Method := { name := "<init>", desc := "()V", sig := { parameters := [], returnType := none }, accessFlags := 2, code := none }
def k2c1 : Code := { maxStack := 2, maxLocals := 2, code := jdk_29_method_69_code, exceptionTable := #[], attributes := #[] }
def k2m1 : Method := { name := "min", desc := "(II)I", sig := { parameters := [.int, .int], returnType := some .int }, accessFlags := 9, code := some k2c1 }
def k2c2 : Code := { maxStack := 4, maxLocals := 4, code := jdk_29_method_70_code, exceptionTable := #[], attributes := #[] }
def k2m2 : Method := { name := "min", desc := "(JJ)J", sig := { parameters := [.long, .long], returnType := some .long }, accessFlags := 9, code := some k2c2 }
/-- java/lang/Math -/
def k2 : Class := { plain "java/lang/Math" (some 0) with
  accessFlags := 49
  interfaces := #[]
  cf := some (fileOf pool2 1 #[.nestMembers #[98]] #[{ accessFlags := 2, nameIndex := 7, descriptorIndex := 8, attributes := #[] }, { accessFlags := 9, nameIndex := 201, descriptorIndex := 335, attributes := #[] }, { accessFlags := 9, nameIndex := 201, descriptorIndex := 121, attributes := #[] }] 49 4 #[] #[{ accessFlags := 25, nameIndex := 354, descriptorIndex := 339, attributes := #[] }, { accessFlags := 25, nameIndex := 358, descriptorIndex := 339, attributes := #[] }, { accessFlags := 25, nameIndex := 361, descriptorIndex := 339, attributes := #[] }, { accessFlags := 26, nameIndex := 364, descriptorIndex := 339, attributes := #[] }, { accessFlags := 26, nameIndex := 365, descriptorIndex := 339, attributes := #[] }, { accessFlags := 26, nameIndex := 172, descriptorIndex := 173, attributes := #[] }, { accessFlags := 26, nameIndex := 176, descriptorIndex := 173, attributes := #[] }, { accessFlags := 8, nameIndex := 344, descriptorIndex := 339, attributes := #[] }, { accessFlags := 8, nameIndex := 338, descriptorIndex := 339, attributes := #[] }, { accessFlags := 4120, nameIndex := 245, descriptorIndex := 246, attributes := #[] }])
  fields := #[{ name := "E", type := .double, accessFlags := 25, slot := 0, constantValue := 0 }, { name := "PI", type := .double, accessFlags := 25, slot := 1, constantValue := 0 }, { name := "TAU", type := .double, accessFlags := 25, slot := 2, constantValue := 0 }, { name := "DEGREES_TO_RADIANS", type := .double, accessFlags := 26, slot := 3, constantValue := 0 }, { name := "RADIANS_TO_DEGREES", type := .double, accessFlags := 26, slot := 4, constantValue := 0 }, { name := "negativeZeroFloatBits", type := .long, accessFlags := 26, slot := 5, constantValue := 0 }, { name := "negativeZeroDoubleBits", type := .long, accessFlags := 26, slot := 6, constantValue := 0 }, { name := "twoToTheDoubleScaleUp", type := .double, accessFlags := 8, slot := 7, constantValue := 0 }, { name := "twoToTheDoubleScaleDown", type := .double, accessFlags := 8, slot := 8, constantValue := 0 }, { name := "$assertionsDisabled", type := .boolean, accessFlags := 4120, slot := 9, constantValue := 0 }]
  methods := #[k2m0, k2m1, k2m2]
  instanceTypes := #[]
  staticTypes := #[.double, .double, .double, .double, .double, .long, .long, .double, .double, .boolean]
  resolved := Array.replicate 460 none
  statics := none }

def pool3 : Array CpInfo := pool [(1, .methodref 2 3), (0, .class_ 4), (0, .nameAndType 5 6), (0, u "java/lang/Object"), (0, u "<init>"), (0, u "()V"), (0, .fieldref 8 9), (0, .class_ 10), (0, .nameAndType 11 12), (0, u "com/example/cubelet/cubelet/CellStore$Step"), (0, u "takesValues"), (0, u "Z"), (0, .fieldref 8 14), (0, .nameAndType 15 16), (0, u "codes"), (0, u "[I"), (0, .fieldref 8 18), (0, .nameAndType 19 12), (0, u "takesAll"), (0, .fieldref 8 21), (0, .nameAndType 22 12), (0, u "apart"), (4, .fieldref 8 28), (0, .nameAndType 29 30), (0, u "bits"), (0, u "[J"), (0, .methodref 8 32), (0, .nameAndType 5 33), (0, u "(Z[IZZ)V"), (0, .methodref 35 36), (0, .class_ 37), (0, .nameAndType 38 39), (0, u "java/util/Arrays"), (0, u "binarySearch"), (0, u "([II)I"), (2, u "ALL"), (0, u "Lcom/example/cubelet/cubelet/CellStore$Step;"), (2, u "EVERY"), (0, u "MOST_BITS_PER_CODE"), (0, u "I"), (7, u "([I)Lcom/example/cubelet/cubelet/CellStore$Step;"), (0, u "together"), (0, u "takes"), (0, u "(I)Z"), (6, .class_ 67), (0, u "com/example/cubelet/cubelet/CellStore")] 2

def k3c0 : Code := { maxStack := 7, maxLocals := 10, code := prog_13_method_1_code, exceptionTable := #[], attributes := #[] }
def k3m0 : Method := { name := "<init>", desc := "(Z[IZZ)V", sig := { parameters := [.boolean, (.array .int), .boolean, .boolean], returnType := none }, accessFlags := 2, code := some k3c0 }
def k3c1 : Code := { maxStack := 6, maxLocals := 1, code := prog_13_method_3_code, exceptionTable := #[], attributes := #[] }
def k3m1 : Method := { name := "together", desc := "([I)Lcom/example/cubelet/cubelet/CellStore$Step;", sig := { parameters := [(.array .int)], returnType := some (.object "com/example/cubelet/cubelet/CellStore$Step") }, accessFlags := 8, code := some k3c1 }
def k3c2 : Code := { maxStack := 5, maxLocals := 2, code := prog_13_method_4_code, exceptionTable := #[], attributes := #[] }
def k3m2 : Method := { name := "takes", desc := "(I)Z", sig := { parameters := [.int], returnType := some .boolean }, accessFlags := 0, code := some k3c2 }
/-- com/example/cubelet/cubelet/CellStore$Step -/
def k3 : Class := { plain "com/example/cubelet/cubelet/CellStore$Step" (some 0) with
  accessFlags := 48
  interfaces := #[]
  cf := some (fileOf pool3 8 #[.nestHost 66] #[{ accessFlags := 2, nameIndex := 5, descriptorIndex := 33, attributes := #[] }, { accessFlags := 8, nameIndex := 57, descriptorIndex := 56, attributes := #[] }, { accessFlags := 0, nameIndex := 58, descriptorIndex := 59, attributes := #[] }] 48 2 #[] #[{ accessFlags := 24, nameIndex := 42, descriptorIndex := 43, attributes := #[] }, { accessFlags := 24, nameIndex := 46, descriptorIndex := 43, attributes := #[] }, { accessFlags := 26, nameIndex := 47, descriptorIndex := 48, attributes := #[] }, { accessFlags := 18, nameIndex := 11, descriptorIndex := 12, attributes := #[] }, { accessFlags := 18, nameIndex := 15, descriptorIndex := 16, attributes := #[] }, { accessFlags := 18, nameIndex := 29, descriptorIndex := 30, attributes := #[] }, { accessFlags := 18, nameIndex := 19, descriptorIndex := 12, attributes := #[] }, { accessFlags := 18, nameIndex := 22, descriptorIndex := 12, attributes := #[] }])
  fields := #[{ name := "ALL", type := (.object "com/example/cubelet/cubelet/CellStore$Step"), accessFlags := 24, slot := 0, constantValue := 0 }, { name := "EVERY", type := (.object "com/example/cubelet/cubelet/CellStore$Step"), accessFlags := 24, slot := 1, constantValue := 0 }, { name := "MOST_BITS_PER_CODE", type := .int, accessFlags := 26, slot := 2, constantValue := 0 }, { name := "takesValues", type := .boolean, accessFlags := 18, slot := 0, constantValue := 0 }, { name := "codes", type := (.array .int), accessFlags := 18, slot := 1, constantValue := 0 }, { name := "bits", type := (.array .long), accessFlags := 18, slot := 2, constantValue := 0 }, { name := "takesAll", type := .boolean, accessFlags := 18, slot := 3, constantValue := 0 }, { name := "apart", type := .boolean, accessFlags := 18, slot := 4, constantValue := 0 }]
  methods := #[k3m0, k3m1, k3m2]
  instanceTypes := #[.boolean, (.array .int), (.array .long), .boolean, .boolean]
  staticTypes := #[(.object "com/example/cubelet/cubelet/CellStore$Step"), (.object "com/example/cubelet/cubelet/CellStore$Step"), .int]
  resolved := Array.replicate 70 none
  statics := none }

def pool4 : Array CpInfo := pool [(2, .class_ 4), (1, u "java/lang/Object"), (0, u "<init>"), (0, u "()V"), (7, .class_ 16), (1, u "java/util/Arrays"), (57, .class_ 76), (1, u "java/util/Arrays$NaturalOrder"), (36, .class_ 115), (1, u "java/util/Arrays$LegacyMergeSort"), (1, u "Z"), (89, u "binarySearch0"), (1, .methodref 14 210), (0, .nameAndType 207 211), (0, u "([IIII)I"), (163, .class_ 376), (0, u "java/util/Arrays$ArrayList"), (68, u "$assertionsDisabled"), (269, u "MIN_ARRAY_SORT_GRAN"), (0, u "I"), (2, u "INSERTIONSORT_THRESHOLD"), (74, u "binarySearch"), (4, u "([II)I"), (175, .class_ 976), (0, u "java/util/Arrays$ArrayItr")] 52

def k4m0 : Method := { name := "<init>", desc := "()V", sig := { parameters := [], returnType := none }, accessFlags := 2, code := none }
def k4c1 : Code := { maxStack := 4, maxLocals := 2, code := jdk_65_method_57_code, exceptionTable := #[], attributes := #[] }
def k4m1 : Method := { name := "binarySearch", desc := "([II)I", sig := { parameters := [(.array .int), .int], returnType := some .int }, accessFlags := 9, code := some k4c1 }
def k4c2 : Code := { maxStack := 2, maxLocals := 8, code := jdk_65_method_59_code, exceptionTable := #[], attributes := #[] }
def k4m2 : Method := { name := "binarySearch0", desc := "([IIII)I", sig := { parameters := [(.array .int), .int, .int, .int], returnType := some .int }, accessFlags := 10, code := some k4c2 }
/-- java/util/Arrays -/
def k4 : Class := { plain "java/util/Arrays" (some 0) with
  accessFlags := 49
  interfaces := #[]
  cf := some (fileOf pool4 14 #[.nestMembers #[975, 375, 113, 74]] #[{ accessFlags := 2, nameIndex := 5, descriptorIndex := 6, attributes := #[] }, { accessFlags := 9, nameIndex := 794, descriptorIndex := 799, attributes := #[] }, { accessFlags := 10, nameIndex := 207, descriptorIndex := 211, attributes := #[] }] 49 2 #[] #[{ accessFlags := 26, nameIndex := 715, descriptorIndex := 716, attributes := #[] }, { accessFlags := 26, nameIndex := 719, descriptorIndex := 716, attributes := #[] }, { accessFlags := 4120, nameIndex := 445, descriptorIndex := 117, attributes := #[] }])
  fields := #[{ name := "MIN_ARRAY_SORT_GRAN", type := .int, accessFlags := 26, slot := 0, constantValue := 0 }, { name := "INSERTIONSORT_THRESHOLD", type := .int, accessFlags := 26, slot := 1, constantValue := 0 }, { name := "$assertionsDisabled", type := .boolean, accessFlags := 4120, slot := 2, constantValue := 0 }]
  methods := #[k4m0, k4m1, k4m2]
  instanceTypes := #[]
  staticTypes := #[.int, .int, .boolean]
  resolved := Array.replicate 1029 none
  statics := none }

def pool5 : Array CpInfo := pool [(1, u "java/lang/Cloneable"), (0, .class_ 1), (0, u "java/lang/Object"), (0, .class_ 3)] 3

/-- java/lang/Cloneable -/
def k5 : Class := { plain "java/lang/Cloneable" (some 0) with
  accessFlags := 1537
  interfaces := #[]
  cf := some (fileOf pool5 2 #[] #[] 1537 4 #[] #[])
  fields := #[]
  methods := #[]
  instanceTypes := #[]
  staticTypes := #[]
  resolved := Array.replicate 8 none
  statics := none }

def pool6 : Array CpInfo := pool [(1, u "java/io/Serializable"), (0, .class_ 1), (0, u "java/lang/Object"), (0, .class_ 3)] 3

/-- java/io/Serializable -/
def k6 : Class := { plain "java/io/Serializable" (some 0) with
  accessFlags := 1537
  interfaces := #[]
  cf := some (fileOf pool6 2 #[] #[] 1537 4 #[] #[])
  fields := #[]
  methods := #[]
  instanceTypes := #[]
  staticTypes := #[]
  resolved := Array.replicate 8 none
  statics := none }

/-- the primitive byte -/
def k7 : Class := { plain "byte" none with kind := .primitive 'B', accessFlags := 0x411 }
/-- [B -/
def k8 : Class := { plain "[B" (some 0) with kind := .array 7 .byte, interfaces := #[5, 6], accessFlags := 1041 }

/-- the primitive int -/
def k9 : Class := { plain "int" none with kind := .primitive 'I', accessFlags := 0x411 }
/-- [I -/
def k10 : Class := { plain "[I" (some 0) with kind := .array 9 .int, interfaces := #[5, 6], accessFlags := 1041 }

/-- the primitive long -/
def k11 : Class := { plain "long" none with kind := .primitive 'J', accessFlags := 0x411 }
/-- [J -/
def k12 : Class := { plain "[J" (some 0) with kind := .array 11 .long, interfaces := #[5, 6], accessFlags := 1041 }

def heap : Heap := #[]
def classes : Array Class := #[k0, k1, k2, k3, k4, k5, k6, k7, k8, k9, k10, k11, k12]
def interned : List (Array UInt16 × Addr) := []
def slotsUsed : Nat := 0
def theMethod : MethodId := ⟨1, 1⟩
def args0 : Array Value := #[.int 5, .int 7, .int 9, .int 11, .int 3, .int 6]
def aboutOver (below : List Frame) : State where
  vm := { classes := classes, interned := interned.toArray }
  heap := heap
  slotsUsed := slotsUsed
  threads := #[{ frames := .invoking theMethod args0 :: below }]
def below0 : List Frame := [.native { method := ⟨0, 0⟩, args := #[] }]
def about1 : State := aboutOver below0
def p0 : Program := .bare "" "" ""
def e0 : Env := launch0.env 0 0 0
theorem w_frames : about1.frames = Frame.invoking theMethod args0 :: below0 := rfl
set_option maxRecDepth 65536 in
theorem w_args : argsFit about1.vm theMethod args0 = true := by decide +kernel
set_option maxRecDepth 65536 in
theorem w_heap : heapFits about1 = true := by decide +kernel
set_option maxRecDepth 65536 in
theorem w_runnable : about1.curStatus? = some .runnable := by decide +kernel
set_option maxRecDepth 65536 in
theorem w_alone : about1.alone = true := by decide +kernel
set_option maxRecDepth 65536 in
theorem w_named : about1.methodNamed? x = some theMethod := by decide +kernel
set_option maxRecDepth 65536 in
theorem w_hears : about1.hears theMethod below0 = true := by decide +kernel
set_option maxRecDepth 65536 in
theorem w_ripe : about1.ripe theMethod args0 below0 = true := by decide +kernel
theorem w_running : about1.status = .running := rfl
set_option maxRecDepth 65536 in
theorem w_room : about1.hasRoom e0.platform room_1 = true :=
  launch0.hasRoom_least _ room_1 (by decide +kernel) (by decide +kernel) (by decide +kernel) (by decide +kernel) (by decide +kernel) (by decide +kernel)
theorem allAtoms_all (ts : List Jvm.Cond) (a : Array Jvm.Value) (st : Jvm.State) : (allAtoms ts).before a st = ts.all (fun c => c.before a st) := by
  induction ts with
  | nil => rfl
  | cons c t ih =>
    show (Jvm.Cond.and c (allAtoms t)).before a st = _
    rw [Jvm.Cond.before_and, ih, List.all_cons]
def words1 : List Jvm.Cond := Jvm.Cond.code x code maxLocals ret :: tables_1
/-- a 'code' word, met by the world's own term for the bytes: nothing is compared byte by byte -/
theorem code_word {y : MethodName} {bytes : ByteArray} {mx : Nat} {rt : Option FieldType} {a : Array Value} {s : State} {m : MethodId} {meth : Method} {c : Code} (h1 : s.methodNamed? y = some m) (h2 : s.vm.method? m = some meth) (h3 : meth.code = some c) (h4 : c.code = bytes)
    (h5 : (c.maxLocals == mx && c.exceptionTable.isEmpty && decide (c.maxStack ≤ mostOperands) && decide (meth.sig.returnType = rt) && !meth.locks && decide (parseMethodDescriptor y.desc = some meth.sig)) = true) : (Jvm.Cond.code y bytes mx rt).before a s = true := by
  simp only [Bool.and_eq_true, beq_iff_eq, Bool.not_eq_true', decide_eq_true_eq] at h5
  obtain ⟨⟨⟨⟨⟨g1, g2⟩, g3⟩, g4⟩, g5⟩, g6⟩ := h5
  simp [Cond.before, Cond.holds, Cond.value, h1, h2, h3, h4, g1, g2, g3, g4, g5, g6]
def isCode : Jvm.Cond → Bool
  | .code _ _ _ _ => true
  | _ => false
theorem all_split {L : List Jvm.Cond} {P : Jvm.Cond → Bool} (h1 : L.all (fun c => isCode c || P c) = true) (h2 : ∀ c ∈ L.filter isCode, P c = true) : L.all P = true := by
  refine List.all_eq_true.mpr fun c hc => ?_
  have h := List.all_eq_true.mp h1 c hc
  rcases Bool.eq_false_or_eq_true (isCode c) with hi | hi
  · exact h2 c (List.mem_filter.mpr ⟨hc, hi⟩)
  · simpa [hi] using h
set_option maxRecDepth 65536 in
theorem w_c0 : (Jvm.Cond.code x code maxLocals ret).before args0 about1 = true := code_word (m := ⟨1, 1⟩) (meth := k1m1) (c := k1c1) (by decide +kernel) rfl rfl rfl (by decide +kernel)
set_option maxRecDepth 65536 in
theorem w_c1 : (Jvm.Cond.code ({ cls := "java/lang/Math", name := "min", desc := "(II)I" } : Jvm.MethodName) jdk_29_method_69_code (2 : Nat) (Option.some Jvm.ClassFile.FieldType.int)).before args0 about1 = true := code_word (m := ⟨2, 1⟩) (meth := k2m1) (c := k2c1) (by decide +kernel) rfl rfl rfl (by decide +kernel)
set_option maxRecDepth 65536 in
theorem w_c2 : (Jvm.Cond.code ({ cls := "com/example/cubelet/cubelet/CellStore$Step", name := "together", desc := "([I)Lcom/example/cubelet/cubelet/CellStore$Step;" } : Jvm.MethodName) prog_13_method_3_code (1 : Nat) (Option.some (Jvm.ClassFile.FieldType.object "com/example/cubelet/cubelet/CellStore$Step"))).before args0 about1 = true := code_word (m := ⟨3, 1⟩) (meth := k3m1) (c := k3c1) (by decide +kernel) rfl rfl rfl (by decide +kernel)
set_option maxRecDepth 65536 in
theorem w_c3 : (Jvm.Cond.code ({ cls := "com/example/cubelet/cubelet/CellStore$Step", name := "<init>", desc := "(Z[IZZ)V" } : Jvm.MethodName) prog_13_method_1_code (10 : Nat) (Option.none : Option Jvm.ClassFile.FieldType)).before args0 about1 = true := code_word (m := ⟨3, 0⟩) (meth := k3m0) (c := k3c0) (by decide +kernel) rfl rfl rfl (by decide +kernel)
set_option maxRecDepth 65536 in
theorem w_c4 : (Jvm.Cond.code ({ cls := "java/lang/Object", name := "<init>", desc := "()V" } : Jvm.MethodName) object_method_1_code (1 : Nat) (Option.none : Option Jvm.ClassFile.FieldType)).before args0 about1 = true := code_word (m := ⟨0, 0⟩) (meth := k0m0) (c := k0c0) (by decide +kernel) rfl rfl rfl (by decide +kernel)
set_option maxRecDepth 65536 in
theorem w_c5 : (Jvm.Cond.code ({ cls := "com/example/cubelet/cubelet/CellStore$Step", name := "takes", desc := "(I)Z" } : Jvm.MethodName) prog_13_method_4_code (2 : Nat) (Option.some Jvm.ClassFile.FieldType.boolean)).before args0 about1 = true := code_word (m := ⟨3, 2⟩) (meth := k3m2) (c := k3c2) (by decide +kernel) rfl rfl rfl (by decide +kernel)
set_option maxRecDepth 65536 in
theorem w_c6 : (Jvm.Cond.code ({ cls := "java/lang/Math", name := "min", desc := "(JJ)J" } : Jvm.MethodName) jdk_29_method_70_code (4 : Nat) (Option.some Jvm.ClassFile.FieldType.long)).before args0 about1 = true := code_word (m := ⟨2, 2⟩) (meth := k2m2) (c := k2c2) (by decide +kernel) rfl rfl rfl (by decide +kernel)
set_option maxRecDepth 65536 in
theorem w_c7 : (Jvm.Cond.code ({ cls := "java/util/Arrays", name := "binarySearch", desc := "([II)I" } : Jvm.MethodName) jdk_65_method_57_code (2 : Nat) (Option.some Jvm.ClassFile.FieldType.int)).before args0 about1 = true := code_word (m := ⟨4, 1⟩) (meth := k4m1) (c := k4c1) (by decide +kernel) rfl rfl rfl (by decide +kernel)
set_option maxRecDepth 65536 in
theorem w_c8 : (Jvm.Cond.code ({ cls := "java/util/Arrays", name := "binarySearch0", desc := "([IIII)I" } : Jvm.MethodName) jdk_65_method_59_code (8 : Nat) (Option.some Jvm.ClassFile.FieldType.int)).before args0 about1 = true := code_word (m := ⟨4, 2⟩) (meth := k4m2) (c := k4c2) (by decide +kernel) rfl rfl rfl (by decide +kernel)
def codes1 : List Jvm.Cond := [Jvm.Cond.code x code maxLocals ret, Jvm.Cond.code ({ cls := "java/lang/Math", name := "min", desc := "(II)I" } : Jvm.MethodName) jdk_29_method_69_code (2 : Nat) (Option.some Jvm.ClassFile.FieldType.int), Jvm.Cond.code ({ cls := "com/example/cubelet/cubelet/CellStore$Step", name := "together", desc := "([I)Lcom/example/cubelet/cubelet/CellStore$Step;" } : Jvm.MethodName) prog_13_method_3_code (1 : Nat) (Option.some (Jvm.ClassFile.FieldType.object "com/example/cubelet/cubelet/CellStore$Step")), Jvm.Cond.code ({ cls := "com/example/cubelet/cubelet/CellStore$Step", name := "<init>", desc := "(Z[IZZ)V" } : Jvm.MethodName) prog_13_method_1_code (10 : Nat) (Option.none : Option Jvm.ClassFile.FieldType), Jvm.Cond.code ({ cls := "java/lang/Object", name := "<init>", desc := "()V" } : Jvm.MethodName) object_method_1_code (1 : Nat) (Option.none : Option Jvm.ClassFile.FieldType), Jvm.Cond.code ({ cls := "com/example/cubelet/cubelet/CellStore$Step", name := "takes", desc := "(I)Z" } : Jvm.MethodName) prog_13_method_4_code (2 : Nat) (Option.some Jvm.ClassFile.FieldType.boolean), Jvm.Cond.code ({ cls := "java/lang/Math", name := "min", desc := "(JJ)J" } : Jvm.MethodName) jdk_29_method_70_code (4 : Nat) (Option.some Jvm.ClassFile.FieldType.long), Jvm.Cond.code ({ cls := "java/util/Arrays", name := "binarySearch", desc := "([II)I" } : Jvm.MethodName) jdk_65_method_57_code (2 : Nat) (Option.some Jvm.ClassFile.FieldType.int), Jvm.Cond.code ({ cls := "java/util/Arrays", name := "binarySearch0", desc := "([IIII)I" } : Jvm.MethodName) jdk_65_method_59_code (8 : Nat) (Option.some Jvm.ClassFile.FieldType.int)]
set_option maxRecDepth 65536 in
theorem codes_eq : words1.filter isCode = codes1 := rfl
theorem w_codes : ∀ c ∈ words1.filter isCode, c.before args0 about1 = true := by
  rw [codes_eq]
  intro c hc
  simp only [codes1, List.mem_cons, List.not_mem_nil, or_false] at hc
  rcases hc with rfl | rfl | rfl | rfl | rfl | rfl | rfl | rfl | rfl
  · exact w_c0
  · exact w_c1
  · exact w_c2
  · exact w_c3
  · exact w_c4
  · exact w_c5
  · exact w_c6
  · exact w_c7
  · exact w_c8
set_option maxRecDepth 65536 in
theorem w_t1 : (words1.take 24).all (fun c => isCode c || c.before args0 about1) = true := by decide +kernel
set_option maxRecDepth 65536 in
theorem w_t2 : (words1.drop 24).all (fun c => isCode c || c.before args0 about1) = true := by decide +kernel
theorem w_tables : (allAtoms (Jvm.Cond.code x code maxLocals ret :: tables_1)).before args0 about1 = true := by
  rw [allAtoms_all]
  show words1.all (fun c => c.before args0 about1) = true
  refine all_split ?_ w_codes
  rw [← List.take_append_drop 24 words1, List.all_append, w_t1, w_t2]
  rfl
set_option maxRecDepth 65536 in
theorem w_case : (Jvm.Cond.and given_1 narrow_1).before args0 about1 = true := by decide +kernel
theorem w_applies : (headSpec (Jvm.Cond.code x code maxLocals ret :: tables_1) room_1).applies x e0.platform about1 = true :=
  (Spec.applies_iff w_frames).mpr ⟨w_running, w_runnable, w_alone, w_named, w_hears, w_ripe, w_room, w_tables⟩
theorem atStart : AtStart classFile x code maxLocals ret World_1 tables_1 room_1 Calls_1 rest_1 Pre_1 launch0 p0 e0 about1 theMethod args0 below0 :=
  ⟨lists_1, trivial, launch0.admits_env _ _ _, launch0.least_env, fairChoices_fair.cas, fairChoices_fair.clock, w_frames, w_args, w_heap, w_applies, trivial, trivial, w_case⟩
end start1
theorem witness_1 : WitnessClaimed_1 := ⟨start1.p0, start1.e0, start1.about1, start1.theMethod, start1.args0, start1.below0, start1.atStart⟩
end Jvm.Pilot.@@N@@
