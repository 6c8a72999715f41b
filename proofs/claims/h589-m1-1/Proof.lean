import JvmDerived
import JvmDerived.Pilot.@@N@@Statement
import JvmDerived.Pilot.@@N@@Code
set_option linter.unusedVariables false
set_option linter.unusedSimpArgs false

namespace Jvm.Pilot.@@N@@
open Jvm Jvm.ClassFile Sem Op Lib Jvm.Free Jvm.Stand Jvm.LawKit Jvm.RoadKit Bundle Jvm.Pilot.@@N@@.Jvm.D
/-- a body that writes nothing and returns r -/
def own_Pure (r : Option Value) (h0 : Heap) (n0 : Nat) (v : Option Value) (h : Heap) (L : List Loc) : Prop := v = r ∧ Fr n0 L ∧ h = h0
theorem own_ext_refl (h : Heap) : Ext h h := ⟨Nat.le_refl _, fun _ _ q => q⟩
theorem own_ext_trans {h0 h h' : Heap} (A : Ext h0 h) (B : Ext h h') : Ext h0 h' := ⟨Nat.le_trans A.1 B.1, fun a c q => B.2 a c (A.2 a c q)⟩
theorem own_ext_keep {h0 h h' : Heap} {ws : List Addr} (A : Ext h0 h) (K : Keep h h' ws) (q : ∀ x ∈ ws, h0.size ≤ x) : Ext h0 h' :=
  ⟨Nat.le_trans A.1 K.1, fun a c r => K.2.1 a c (A.2 a c r) fun z => Nat.lt_irrefl _ (Nat.lt_of_lt_of_le (Array.getElem?_eq_some_iff.mp r).1 (q a z))⟩
theorem own_ext_wr {h0 h h' : Heap} {a : Addr} {sl : Nat} {v : Value} (A : Ext h0 h) (W : Wr h h' a sl v) (q : h0.size ≤ a) : Ext h0 h' := own_ext_keep A (Keep.of_wr W) (allS q all0)
/-- a law that may make cells -/
def own_Made (r : Option Value) (n0 : Nat) (v : Option Value) (h : Heap) (L : List Loc) : Prop := v = r ∧ Fr n0 L ∧ True
theorem own_lc_ge {x y : Int64} (h : y.toInt ≤ x.toInt) : ¬ ((lcmpW x y) < (0 : Int32)) := by
  rw [lw_lt, Int64.lt_iff_toInt_lt]; omega
theorem own_lc_lt {x y : Int64} (h : x.toInt < y.toInt) : (lcmpW x y) < (0 : Int32) := by
  rw [lw_lt, Int64.lt_iff_toInt_lt]; omega
theorem own_lc_le {x y : Int64} (h : x.toInt ≤ y.toInt) : ¬ ((0 : Int32) < (lcmpW x y)) := by
  rw [lw_gt, Int64.lt_iff_toInt_lt]; omega
theorem own_lc_gt {x y : Int64} (h : y.toInt < x.toInt) : (0 : Int32) < (lcmpW x y) := by
  rw [lw_gt, Int64.lt_iff_toInt_lt]; omega
theorem own_lc_eq {x y : Int64} (h : x.toInt = y.toInt) : (lcmpW x y) = (0 : Int32) := by
  rw [lw_eq]; exact Int64.toInt_inj.mp h
theorem own_lc_ne {x y : Int64} (h : x.toInt ≠ y.toInt) : ¬ ((lcmpW x y) = (0 : Int32)) := by
  rw [lw_eq]; intro q; exact h (congrArg Int64.toInt q)
theorem own_lt_lc {x y : Int64} (h : (lcmpW x y) < (0 : Int32)) : x.toInt < y.toInt := by
  rw [lw_lt, Int64.lt_iff_toInt_lt] at h; exact h
theorem own_ge_lc {x y : Int64} (h : ¬ ((lcmpW x y) < (0 : Int32))) : y.toInt ≤ x.toInt := by
  rw [lw_lt, Int64.lt_iff_toInt_lt] at h; omega
theorem own_gt_lc {x y : Int64} (h : (0 : Int32) < (lcmpW x y)) : y.toInt < x.toInt := by
  rw [lw_gt, Int64.lt_iff_toInt_lt] at h; exact h
theorem own_le_lc {x y : Int64} (h : ¬ ((0 : Int32) < (lcmpW x y))) : x.toInt ≤ y.toInt := by
  rw [lw_gt, Int64.lt_iff_toInt_lt] at h; omega
theorem own_eq_lc {x y : Int64} (h : (lcmpW x y) = (0 : Int32)) : x.toInt = y.toInt := by
  rw [lw_eq] at h; rw [h]
theorem own_ne_lc {x y : Int64} (h : ¬ ((lcmpW x y) = (0 : Int32))) : x.toInt ≠ y.toInt := by
  rw [lw_eq] at h; exact fun q => h (Int64.toInt_inj.mp q)
theorem own_lrem {x y : Int64} (hx : 0 ≤ x.toInt) (hy : 0 < y.toInt) : 0 ≤ (x % y).toInt ∧ (x % y).toInt < y.toInt := by
  rw [Int64.toInt_mod]; exact ⟨Int.tmod_nonneg _ hx, Int.tmod_lt_of_pos _ hy⟩
theorem own_nz {x : Int64} (h : 1 ≤ x.toInt) : x ≠ 0 := fun q => by
  rw [q] at h; exact absurd h (by decide)
/-- an array of length z whose i-th component is g i -/
def own_FA (Z : State) (h : Heap) (a : Addr) (k : ClassId) (ty : FieldType) (z : Int32) (g : Nat → Value) : Prop :=
  ∃ c : Cell, Arr Z h a c ty ∧ c.cls = k ∧ c.slots.size = z.toNatClampNeg ∧ ¬ z < 0 ∧ (∀ i, i < c.slots.size → c.slots[i]? = some (g i)) ∧ ∀ i, i < c.slots.size → fits ty (g i) = true
section FA
variable {Z : State} {h h' : Heap} {a b : Addr} {k : ClassId} {ty : FieldType} {z j : Int32} {g g' : Nat → Value} {sl : Nat} {v w : Value} {ws : List Addr}
theorem own_FA.lt (F : own_FA Z h a k ty z g) : a < h.size := by obtain ⟨c, A, -⟩ := F; exact A.lt
theorem own_FA.ext (F : own_FA Z h a k ty z g) (E : Ext h h') : own_FA Z h' a k ty z g := by obtain ⟨c, A, r⟩ := F; exact ⟨c, A.ext E, r⟩
theorem own_FA.other (F : own_FA Z h b k ty z g) (W : Wr h h' a sl v) (q : b ≠ a) : own_FA Z h' b k ty z g := by obtain ⟨c, A, r⟩ := F; exact ⟨c, A.other W q, r⟩
theorem own_FA.keep (F : own_FA Z h a k ty z g) (K : Keep h h' ws) (q : a ∉ ws) : own_FA Z h' a k ty z g := by obtain ⟨c, A, r⟩ := F; exact ⟨c, ⟨K.2.1 a c A.1 q, A.2⟩, r⟩
theorem own_FA.ofArv {vs : List Value} {dv : Value} (F : Arv Z h a k ty z vs dv) : own_FA Z h a k ty z (fun i => vs.getD i dv) := F
theorem own_FA.congr (F : own_FA Z h a k ty z g) (q : ∀ i, i < z.toNatClampNeg → g i = g' i) : own_FA Z h a k ty z g' := by
  obtain ⟨c, A, r1, r2, r3, r4, r5⟩ := F
  exact ⟨c, A, r1, r2, r3, fun i hi => by rw [← q i (r2 ▸ hi)]; exact r4 i hi, fun i hi => by rw [← q i (r2 ▸ hi)]; exact r5 i hi⟩
theorem own_getD_range (g : Nat → Value) (n : Nat) (dv : Value) (i : Nat) (hi : i < n) : ((List.range n).map g).getD i dv = g i := by
  simp [List.getD_eq_getElem?_getD, hi]
theorem own_FA.arv (F : own_FA Z h a k ty z g) (dv : Value) : Arv Z h a k ty z ((List.range z.toNatClampNeg).map g) dv := by
  obtain ⟨c, A, r1, r2, r3, r4, r5⟩ := F
  exact ⟨c, A, r1, r2, r3, fun i hi => by rw [own_getD_range g _ dv i (r2 ▸ hi)]; exact r4 i hi, fun i hi => by rw [own_getD_range g _ dv i (r2 ▸ hi)]; exact r5 i hi⟩
theorem own_FA.new (A : Arr Z h a (newA k ty z) ty) (q : ¬ z < 0) (hd : fits ty (defaultValue ty) = true) : own_FA Z h a k ty z (fun _ => defaultValue ty) :=
  own_FA.congr (own_FA.ofArv (Arv.new A q)) (fun i _ => by simp)
theorem own_FA.set {c : Cell} (A : Arr Z h a c ty) (q1 : c.cls = k) (S : c.slots.size = z.toNatClampNeg) (q3 : ¬ z < 0) (H : ∀ i, i < c.slots.size → c.slots[i]? = some (g i)) (G : ∀ i, i < c.slots.size → fits ty (g i) = true) (hv : fits ty v = true) (W : Wr h h' a sl v) : own_FA Z h' a k ty z (fun i => if i = sl then v else g i) := by
  refine ⟨c.setSlot sl v, Arr.same W A, q1, ?_, q3, fun i hi => ?_, fun i hi => ?_⟩
  · simpa [Cell.setSlot] using S
  · obtain ⟨cell, w1, w2, w3, w4⟩ := W
    cases A.1.symm.trans w1
    have hi' : i < c.slots.size := by simpa [Cell.setSlot] using hi
    by_cases e : i = sl
    · subst e; simp [Cell.setSlot, w3]
    · simp only [if_neg e, Cell.setSlot]; rw [Array.getElem?_setIfInBounds_ne (Ne.symm e)]; exact H i hi'
  · have hi' : i < c.slots.size := by simpa [Cell.setSlot] using hi
    by_cases e : i = sl
    · simp [e, hv]
    · simp only [if_neg e]; exact G i hi'
/-- what a copy of n components leaves at the aim -/
theorem own_FA.copied {vd us : List Value} {dd : Value} {dp nn : Nat} {gs gd : Nat → Value} (F : Arv Z h b k ty z (vd.take dp ++ us ++ vd.drop (dp + nn)) dd) (hvd : vd = (List.range z.toNatClampNeg).map gd) (hus : us = (List.range nn).map gs) (hl : dp + nn ≤ z.toNatClampNeg) :
    own_FA Z h b k ty z (fun i => if i < dp then gd i else if i < dp + nn then gs (i - dp) else gd i) := by
  refine (own_FA.ofArv F).congr fun i hi => ?_
  have l1 : (vd.take dp).length = dp := by rw [List.length_take, hvd]; simp; omega
  have l2 : us.length = nn := by rw [hus]; simp
  simp only [List.getD_eq_getElem?_getD]
  by_cases c1 : i < dp
  · rw [if_pos c1, List.append_assoc, List.getElem?_append_left (by omega), List.getElem?_take_of_lt c1, hvd]; simp [hi]
  · rw [if_neg c1]
    by_cases c2 : i < dp + nn
    · rw [if_pos c2, List.getElem?_append_left (by rw [List.length_append]; omega), List.getElem?_append_right (by omega), l1, hus]; simp [show i - dp < nn by omega]
    · rw [if_neg c2, List.getElem?_append_right (by rw [List.length_append]; omega), List.length_append, l1, l2, List.getElem?_drop, show dp + nn + (i - (dp + nn)) = i by omega, hvd]; simp [hi]
end FA
/-- a byte array of length z whose i-th component is f i -/
abbrev own_FB (Z : State) (h : Heap) (a : Addr) (k : ClassId) (z : Int32) (f : Nat → Int32) : Prop := own_FA Z h a k .byte z (fun i => .int (f i))
section FB
variable {p : Program} {l : Launch} {e : Env} {R : Room} {s : State} {m : MethodId} {args : Array Value} {below : List Frame} {meth : Method} {c : Code} {T : State} {locs : List Loc} {cells slots : Nat} {Z : State} {a0 : Array Value} {h h' : Heap} {a b : Addr} {k k' : ClassId} {z z' : Int32} {f f' fs fd : Nat → Int32}
theorem own_FB.congr (F : own_FB Z h a k z f) (q : ∀ i, i < z.toNatClampNeg → f i = f' i) : own_FB Z h a k z f' := own_FA.congr F (fun i hi => by rw [q i hi])
theorem own_FB.new (A : Arr Z h a (newA k .byte z) .byte) (q : ¬ z < 0) : own_FB Z h a k z (fun _ => 0) := own_FA.new A q rfl
theorem own_FB.set {cl : Cell} {sl : Nat} {v : Int32} (A : Arr Z h a cl .byte) (q1 : cl.cls = k) (S : cl.slots.size = z.toNatClampNeg) (q3 : ¬ z < 0) (H : ∀ i, i < cl.slots.size → cl.slots[i]? = some (.int (f i))) (G : ∀ i, i < cl.slots.size → fits .byte (.int (f i)) = true) (hv : fits .byte (.int v) = true) (W : Wr h h' a sl (.int v)) : own_FB Z h' a k z (fun i => if i = sl then v else f i) :=
  own_FA.congr (own_FA.set A q1 S q3 H G hv W) (fun i _ => by by_cases e : i = sl <;> simp [e])
theorem own_FB.at {cl : Cell} {j : Int32} (H : ∀ i, i < cl.slots.size → cl.slots[i]? = some (.int (f i))) (hin : ¬ (j < 0 ∨ cl.slots.size ≤ j.toNatClampNeg)) : cl.slots[j.toNatClampNeg]? = some (.int (f j.toNatClampNeg)) := H _ (Nat.lt_of_not_le fun q => hin (Or.inr q))
theorem own_nat {x : Int32} (q : ¬ x < 0) : x.toInt = (x.toNatClampNeg : Int) := nat_of q
theorem own_cp (X : Stand p l e R s m args below meth c T locs cells slots) (hx : p.tables.exec = Jvm.exec) (hZ : Z.Warmed39 s.vm) {own : String} {index : Nat} (hown : s.vm.findClass own = some m.cls)
    (w1 : (Cond.methodLink own index Jvm.Stand.acN).before a0 Z = true) (w2 : (Cond.native Jvm.Stand.acN).before a0 Z = true) (w3 : (Cond.static Jvm.Stand.acN).before a0 Z = true) (w4 : (Cond.initialized "java/lang/System").before a0 Z = true) (eT : T.heap = h)
    {nn : Int32} (A : own_FB Z h a k z fs) (B : own_FB Z h b k' z' fd) (h3 : ¬ nn < 0) (h4 : nn.toInt ≤ z.toInt) (h5 : nn.toInt ≤ z'.toInt) {n0 : Nat} (N : Fr n0 locs) (ge : n0 ≤ b)
    {g : JFrame} (hg : g.method = m) (hsize : g.locals.size = c.maxLocals) {rest : List Value} (hs : g.stack = .int nn :: .int (0 : Int32) :: .ref b :: .int (0 : Int32) :: .ref a :: rest) (hd : decode c.code g.pc = .ok (.invokestatic index, 3))
    (hf : 1 ≤ R.frames) {W : Nat} (hW : 2 * g.monitorRoom + (rest.map fun v => v.category).sum ≤ W) (hlo : W + 18 ≤ R.locals) :
    ∃ T' h' L, Stand p l e R s m args below meth c T' L cells slots ∧ T'.heap = h' ∧ Fr n0 L ∧ Keep h h' [b] ∧ own_FB Z h' b k' z' (fun i => if i < nn.toNatClampNeg then fs i else fd i) ∧
      ∀ target, Steps p.tables e below (T'.setTop { g with pc := g.pc + 3, stack := rest }) target → Steps p.tables e below (T.setTop g) target := by
  have qz : ¬ z < 0 := by obtain ⟨_, _, _, _, q, _⟩ := A; exact q
  have qz' : ¬ z' < 0 := by obtain ⟨_, _, _, _, q, _⟩ := B; exact q
  have e1 := own_nat qz
  have e2 := own_nat qz'
  have e3 := own_nat h3
  have e0 : (0 : Int32).toNatClampNeg = 0 := by decide
  obtain ⟨T', h', L, X', eh, N', K, F, st⟩ := cpA X hx hZ hown w1 w2 w3 w4 eT (sp := 0) (dp := 0) (nn := nn) (own_FA.arv A (.int 0)) (own_FA.arv B (.int 0)) (Or.inl ⟨rfl, rfl⟩) (by decide) (by decide) h3 (by rw [e0]; omega) (by rw [e0]; omega) rfl (by rw [e0]; simp; omega) N ge hg hsize hs hd hf hW hlo
  refine ⟨T', h', L, X', eh, N', K, ?_, st⟩
  have F2 := own_FA.copied (gd := fun i => Value.int (fd i)) (gs := fun i => Value.int (fs i)) F rfl (List.map_congr_left fun i hi => by
    have hi' := List.mem_range.mp hi
    rw [e0, Nat.zero_add, own_getD_range _ _ _ _ (by omega)]) (by rw [e0]; omega)
  refine own_FA.congr F2 fun i hi => ?_
  rw [e0]
  by_cases c2 : i < nn.toNatClampNeg <;> simp [c2]
end FB

/-- copyOf's answer: a fresh byte array -/
def own_Copy (Z : State) (z n : Int32) (f : Nat → Int32) (h0 : Heap) (n0 : Nat) (v : Option Value) (h : Heap) (L : List Loc) : Prop :=
  ∃ (b : Addr) (k : ClassId), v = some (.ref b) ∧ Fr n0 L ∧ Ext h0 h ∧ h0.size ≤ b ∧ own_FB Z h b k n (fun i => if i < z.toNatClampNeg then f i else (0 : Int32)) ∧ Exa Z h b "[B"
/-- the constructor's end -/
def own_Init (Z : State) (a : Addr) (h0 : Heap) (n0 : Nat) (v : Option Value) (h : Heap) (L : List Loc) : Prop :=
  v = none ∧ Fr n0 L ∧ Keep h0 h [a] ∧ ∃ (b1 b2 : Addr) (k1 k2 : ClassId) (z : Int32), h0.size ≤ b1 ∧ h0.size ≤ b2 ∧ b1 ≠ b2 ∧ Exa Z h a "com/example/cubelet/cubelet/Chunks" ∧ Fld Z h a "com/example/cubelet/cubelet/Chunks" "chunks" "[[B" (.ref b1) ∧ Fld Z h a "com/example/cubelet/cubelet/Chunks" "length" "J" (.long (0 : Int64)) ∧
    Arv Z h b1 k1 (.array .byte) (1 : Int32) [(.ref b2)] .null ∧ OvrA Z k1 .byte "[B" ∧ own_FB Z h b2 k2 z (fun _ => (0 : Int32)) ∧ 4096 ≤ z.toInt ∧ z.toInt ≤ 16383
/-- room's end: the last array may be another one, longer, with the same bytes -/
def own_Room (Z : State) (b1 b2 : Addr) (k1 : ClassId) (need : Int) (z : Int32) (f : Nat → Int32) (h0 : Heap) (n0 : Nat) (v : Option Value) (h : Heap) (L : List Loc) : Prop :=
  v = none ∧ Fr n0 L ∧ Keep h0 h [b1] ∧ ∃ (b : Addr) (k : ClassId) (z' : Int32) (f' : Nat → Int32), Arv Z h b1 k1 (.array .byte) (1 : Int32) [(.ref b)] .null ∧ own_FB Z h b k z' f' ∧ (b = b2 ∨ h0.size ≤ b) ∧ need ≤ z'.toInt ∧ z'.toInt ≤ 16384 ∧ z.toInt ≤ z'.toInt ∧ ∀ i, i < z.toNatClampNeg → f' i = f i
/-- write's end -/
def own_Wrote (Z : State) (a b1 b2 : Addr) (k1 : ClassId) (len : Int) (P : (Nat → Int32) → Prop) (h0 : Heap) (n0 : Nat) (v : Option Value) (h : Heap) (L : List Loc) : Prop :=
  v = none ∧ Fr n0 L ∧ Keep h0 h [a, b1, b2] ∧ ∃ (b : Addr) (k : ClassId) (z' : Int32) (f' : Nat → Int32) (ln : Int64), Exa Z h a "com/example/cubelet/cubelet/Chunks" ∧ Fld Z h a "com/example/cubelet/cubelet/Chunks" "chunks" "[[B" (.ref b1) ∧ Fld Z h a "com/example/cubelet/cubelet/Chunks" "length" "J" (.long ln) ∧
    Arv Z h b1 k1 (.array .byte) (1 : Int32) [(.ref b)] .null ∧ own_FB Z h b k z' f' ∧ (b = b2 ∨ h0.size ≤ b) ∧ ln.toInt = len ∧ len ≤ z'.toInt ∧ z'.toInt ≤ 16384 ∧ P f'
theorem own_nn {x : Int32} (h : 0 ≤ x.toInt) : ¬ x < 0 := by
  rw [Int32.lt_iff_toInt_lt]; have : (0 : Int32).toInt = 0 := by decide
  omega
theorem own_cap {x : Int32} {n : Nat} (q : ¬ x < 0) (h : x.toInt ≤ (n : Int)) : x.toNatClampNeg ≤ n := by
  have := nat_of q; omega
theorem own_zz {x : Int64} (h : x.toInt ≤ 16383) : 4096 ≤ ((if (0 : Int32) < (lcmpW (134217728 : Int64) (if (lcmpW x (4096 : Int64)) < (0 : Int32) then (4096 : Int64) else x)) then (if (lcmpW x (4096 : Int64)) < (0 : Int32) then (4096 : Int64) else x) else (134217728 : Int64)).toInt32).toInt ∧ ((if (0 : Int32) < (lcmpW (134217728 : Int64) (if (lcmpW x (4096 : Int64)) < (0 : Int32) then (4096 : Int64) else x)) then (if (lcmpW x (4096 : Int64)) < (0 : Int32) then (4096 : Int64) else x) else (134217728 : Int64)).toInt32).toInt ≤ 16383 := by
  have e1 : (4096 : Int64).toInt = 4096 := by decide
  have e2 : (134217728 : Int64).toInt = 134217728 := by decide
  have hm : 4096 ≤ (if (lcmpW x (4096 : Int64)) < (0 : Int32) then (4096 : Int64) else x).toInt ∧ (if (lcmpW x (4096 : Int64)) < (0 : Int32) then (4096 : Int64) else x).toInt ≤ 16383 := by
    split
    · omega
    · rename_i q; have := own_ge_lc q; omega
  generalize (if (lcmpW x (4096 : Int64)) < (0 : Int32) then (4096 : Int64) else x) = y at hm ⊢
  rw [if_pos (own_lc_gt (by omega))]
  have h1 := c_l2i y
  have h2 := rng32 y.toInt32
  omega
theorem own_us {x : Int64} (h : 0 ≤ x.toInt ∧ x.toInt ≤ 8192) : ((x - (0 : Int64)).toInt32).toInt = x.toInt := by
  have h1 := c_lsub x (0 : Int64)
  have e : (0 : Int64).toInt = 0 := by decide
  have h2 := rng64 (x - (0 : Int64))
  have h3 := c_l2i (x - (0 : Int64))
  have h4 := rng32 (x - (0 : Int64)).toInt32
  omega
theorem own_fr {z us : Int32} {len : Int64} (h : us.toInt = len.toInt) (hu : 0 ≤ len.toInt ∧ len.toInt ≤ 8192) (hz : 1 ≤ z.toInt ∧ z.toInt ≤ 16384) : (z - us).toInt = z.toInt - len.toInt := by
  have h1 := c_isub z us
  have h2 := rng32 (z - us)
  omega
theorem own_mn {us w : Int32} {len : Int64} (h : us.toInt = len.toInt) (hu : 0 ≤ len.toInt ∧ len.toInt ≤ 8192) (hw : 1 ≤ w.toInt ∧ w.toInt ≤ 8192) : (if ((134217728 : Int32) - us) < w then ((134217728 : Int32) - us) else w).toInt = w.toInt := by
  have h1 := c_isub (134217728 : Int32) us
  have e : (134217728 : Int32).toInt = 134217728 := by decide
  have h2 := rng32 ((134217728 : Int32) - us)
  rw [if_neg]
  rw [Int32.lt_iff_toInt_lt]; omega
theorem own_nc {us : Int32} {len : Int64} (h : us.toInt = len.toInt) (hu : 0 ≤ len.toInt ∧ len.toInt ≤ 8192) : ¬ (us = (134217728 : Int32)) := fun q => by
  have e : (134217728 : Int32).toInt = 134217728 := by decide
  rw [q] at h; omega
theorem own_nz2 {us w z : Int32} {len : Int64} (h : us.toInt = len.toInt) (hu : 0 ≤ len.toInt ∧ len.toInt ≤ 8192) (hw : 1 ≤ w.toInt ∧ w.toInt ≤ 8192) (hz : 1 ≤ z.toInt ∧ z.toInt ≤ 16384) (g1 : len.toInt + w.toInt ≤ 2 * z.toInt) (g2 : 2 * z.toInt ≤ 16384) :
    ((if (0 : Int32) < (lcmpW (134217728 : Int64) (if (lcmpW ((us.toInt64) + (w.toInt64)) ((2 : Int64) * (z.toInt64))) < (0 : Int32) then ((2 : Int64) * (z.toInt64)) else ((us.toInt64) + (w.toInt64)))) then (if (lcmpW ((us.toInt64) + (w.toInt64)) ((2 : Int64) * (z.toInt64))) < (0 : Int32) then ((2 : Int64) * (z.toInt64)) else ((us.toInt64) + (w.toInt64))) else (134217728 : Int64)).toInt32).toInt = 2 * z.toInt := by
  have e2 : (134217728 : Int64).toInt = 134217728 := by decide
  have a1 := c_i2l us
  have a2 := c_i2l w
  have a3 := c_i2l z
  have a4 : ((us.toInt64) + (w.toInt64)).toInt = us.toInt64.toInt + w.toInt64.toInt := by have c_ := c_ladd us.toInt64 w.toInt64; have r_ := rng64 ((us.toInt64) + (w.toInt64)); omega
  have a5 : ((2 : Int64) * (z.toInt64)).toInt = 2 * z.toInt64.toInt := by have c_ : (((2 : Int64) * z.toInt64).toInt - (2 * z.toInt64.toInt)) % 18446744073709551616 = 0 := c_lmul (2 : Int64) z.toInt64; have r_ := rng64 ((2 : Int64) * (z.toInt64)); omega
  have hm : (if (lcmpW ((us.toInt64) + (w.toInt64)) ((2 : Int64) * (z.toInt64))) < (0 : Int32) then ((2 : Int64) * (z.toInt64)) else ((us.toInt64) + (w.toInt64))).toInt = 2 * z.toInt := by
    split
    · omega
    · rename_i q; have := own_ge_lc q; omega
  generalize (if (lcmpW ((us.toInt64) + (w.toInt64)) ((2 : Int64) * (z.toInt64))) < (0 : Int32) then ((2 : Int64) * (z.toInt64)) else ((us.toInt64) + (w.toInt64))) = y at hm ⊢
  rw [if_pos (own_lc_gt (by omega))]
  have h1 := c_l2i y
  have h2 := rng32 y.toInt32
  omega
theorem own_c1 {nz z : Int32} (h : nz.toInt = 2 * z.toInt) (hz : 1 ≤ z.toInt ∧ z.toInt ≤ 16384) : ¬ (nz = z) := fun q => by rw [q] at h; omega
theorem own_c2 {nz z : Int32} (h : nz.toInt = 2 * z.toInt) (hz : 1 ≤ z.toInt ∧ z.toInt ≤ 16384) : ¬ (nz < z) := by rw [Int32.lt_iff_toInt_lt]; omega
theorem own_ne_or {x b b2 : Addr} {n : Nat} (hb : b = b2 ∨ n ≤ b) (h : x ≠ b2) (hl : x < n) : x ≠ b := by
  rcases hb with rfl | q
  · exact h
  · exact Nat.ne_of_lt (Nat.lt_of_lt_of_le hl q)
theorem own_ge_or {b b2 : Addr} {n n0 : Nat} (hb : b = b2 ∨ n ≤ b) (h : n0 ≤ b2) (hl : n0 ≤ n) : n0 ≤ b := by
  rcases hb with rfl | q
  · exact h
  · exact Nat.le_trans hl q
theorem own_me_or {b b2 x y : Addr} {n : Nat} (hb : b = b2 ∨ n ≤ b) : b ∈ [x, y, b2] ∨ n ≤ b := by
  rcases hb with rfl | q
  · exact Or.inl (by simp)
  · exact Or.inr q
theorem own_sub0 (n : Int32) : (n - (0 : Int32)) = n := by simp
theorem own_add0 (n : Int32) : ((0 : Int32) + n) = n := by simp
theorem own_ln (n : Int32) : ((0 : Int64) + (n.toInt64)).toInt = n.toInt := by
  have h1 := c_ladd (0 : Int64) n.toInt64
  have h2 := c_i2l n
  have h3 := rng32 n
  have e : (0 : Int64).toInt = 0 := by decide
  have h4 := rng64 ((0 : Int64) + n.toInt64)
  omega
theorem own_hi {x : Int64} (h : 0 ≤ x.toInt ∧ x.toInt ≤ 16384) : (((x.toUInt64 >>> ((27 : Int32) &&& 0x3f).toInt64.toUInt64).toInt64).toInt32) = (0 : Int32) := by
  have h1 := c_lushr x (27 : Int32) 27 (by decide) (by decide)
  apply Int32.toInt_inj.mp
  have h2 := c_l2i ((x.toUInt64 >>> ((27 : Int32) &&& 0x3f).toInt64.toUInt64).toInt64)
  have h3 := rng32 (((x.toUInt64 >>> ((27 : Int32) &&& 0x3f).toInt64.toUInt64).toInt64).toInt32)
  have e : (0 : Int32).toInt = 0 := by decide
  omega
theorem own_lo {x : Int64} (h : 0 ≤ x.toInt ∧ x.toInt ≤ 16384) : ((x.toInt32) &&& (134217727 : Int32)).toInt = x.toInt := by
  have h1 := c_l2i x
  have h2 := rng32 x.toInt32
  have h3 : ((x.toInt32) &&& (134217727 : Int32)).toInt = x.toInt32.toInt % 134217728 := c_mask x.toInt32 134217727 27 (by decide) (by decide)
  omega
theorem own_idx {ix : Int32} {x : Int64} (h : ix.toInt = x.toInt) : ix.toNatClampNeg = x.toInt.toNat := by
  show ix.toInt.toNat = _
  rw [h]
theorem own_lt32 {a b : Int32} (h : a.toInt < b.toInt) : a < b := Int32.lt_iff_toInt_lt.mpr h
theorem own_ln1 {x : Int64} (h : 0 ≤ x.toInt ∧ x.toInt ≤ 8192) : (x + (1 : Int64)).toInt = x.toInt + 1 := by
  have h1 := c_ladd x (1 : Int64)
  have e : (1 : Int64).toInt = 1 := by decide
  have h4 := rng64 (x + (1 : Int64))
  omega
theorem own_nar (x : Int32) : nar .byte (nar .byte (x.toInt8.toInt32)) = (x.toInt8.toInt32) := by
  show x.toInt8.toInt32.toInt8.toInt32.toInt8.toInt32 = _
  simp
theorem own_nar0 : nar .byte (0 : Int32) = (0 : Int32) := by decide
theorem own_i64 {i : Int32} : (i.toInt64).toInt.toNat = i.toNatClampNeg := by rw [c_i2l]; rfl
theorem own_00 : (0 : Int64).toInt = 0 := by decide
theorem own_8192 : (8192 : Int32).toInt = 8192 := by decide
theorem own_01 : (1 : Int32).toInt = 1 := by decide
theorem own_lz {i : Nat} {len : Int64} {z : Int32} (h : (i : Int) < len.toInt) (hl : len.toInt ≤ z.toInt) : i < z.toNatClampNeg := by
  show i < z.toInt.toNat
  omega
theorem own_q (x : Int64) : (x % (16384 : Int64)).toInt ≤ 16383 := by
  rw [Int64.toInt_mod]
  have e : (16384 : Int64).toInt = 16384 := by decide
  have := Int.tmod_lt_of_pos x.toInt (b := (16384 : Int64).toInt) (by omega)
  omega
theorem own_n (x : Int32) : 1 ≤ ((x &&& (8191 : Int32)) + (1 : Int32)).toInt ∧ ((x &&& (8191 : Int32)) + (1 : Int32)).toInt ≤ 8192 := by
  have h1 : (x &&& (8191 : Int32)).toInt = x.toInt % 8192 := c_mask x 8191 13 (by decide) (by decide)
  have h2 := c_iadd (x &&& (8191 : Int32)) (1 : Int32)
  have e := own_01
  have h3 := rng32 ((x &&& (8191 : Int32)) + (1 : Int32))
  omega
theorem own_im (x n : Int32) (h : 1 ≤ n.toInt) : 0 ≤ ((x &&& (2147483647 : Int32)) % n).toInt ∧ ((x &&& (2147483647 : Int32)) % n).toInt < n.toInt := by
  have h1 : (x &&& (2147483647 : Int32)).toInt = x.toInt % 2147483648 := c_mask x 2147483647 31 (by decide) (by decide)
  have h2 := (c_iremV (x &&& (2147483647 : Int32)) n).1 (by omega) (by omega)
  exact ⟨h2.1, h2.2.1⟩
theorem own_ne0 {n : Int32} (h : 1 ≤ n.toInt) : n ≠ 0 := fun q => by rw [q] at h; exact absurd h (by decide)
theorem own_z32 : (0 : Int32).toInt = 0 := by decide
theorem own_cn {i : Int32} : (i.toNatClampNeg : Int) = max i.toInt 0 := by show ((i.toInt.toNat : Nat) : Int) = _; omega
theorem own_ki {i n : Int32} (h : 0 ≤ i.toInt ∧ i.toInt < n.toInt) : (i.toNatClampNeg : Int) < n.toInt := by have := own_cn (i := i); omega
theorem own_kn {k : Nat} {n : Int32} (h : (k : Int) < n.toInt) : k < n.toNatClampNeg := by have := own_cn (i := n); omega
theorem own_ij {i j n : Int32} (hi : 0 ≤ i.toInt ∧ i.toInt < n.toInt) (hj : 0 ≤ j.toInt ∧ j.toInt < n.toInt) (h : ¬ i = j) : ¬ i.toNatClampNeg = j.toNatClampNeg := fun q => h (Int32.toInt_inj.mp (by have := own_cn (i := i); have := own_cn (i := j); omega))
theorem own_0j {j n : Int32} (hj : 0 ≤ j.toInt ∧ j.toInt < n.toInt) (h : ¬ (0 : Int32) = j) : ¬ (0 : Nat) = j.toNatClampNeg := fun q => h (Int32.toInt_inj.mp (by have := own_cn (i := j); have := own_z32; omega))
theorem own_0jt {j : Int32} (h : (0 : Int32) = j) : (0 : Nat) = j.toNatClampNeg := by rw [← h]; decide
theorem own_ln2 {n : Int32} {ln : Int64} (h : ln.toInt = n.toInt) : (n.toInt64).toInt.toNat = ln.toInt.toNat := by rw [c_i2l, h]
theorem d4_0 : decode jdk_29_method_66_code 0 = .ok (.lload_n 0, 1) := by decide +kernel
theorem d4_1 : decode jdk_29_method_66_code 1 = .ok (.lload_n 2, 1) := by decide +kernel
theorem d4_2 : decode jdk_29_method_66_code 2 = .ok (.lcmp, 1) := by decide +kernel
theorem d4_3 : decode jdk_29_method_66_code 3 = .ok (.ifCond .lt 7, 3) := by decide +kernel
theorem d4_10 : decode jdk_29_method_66_code 10 = .ok (.lload_n 2, 1) := by decide +kernel
theorem d4_11 : decode jdk_29_method_66_code 11 = .ok (.lreturn, 1) := by decide +kernel
theorem d4_6 : decode jdk_29_method_66_code 6 = .ok (.lload_n 0, 1) := by decide +kernel
theorem d4_7 : decode jdk_29_method_66_code 7 = .ok (.goto 4, 3) := by decide +kernel
theorem ef_rm_maxJ (m : MethodId) (x0 : Int64) (x1 : Int64) : entryFrame m #[(.long x0), (.long x1)] 4 = mkF m 0 #[.val (.long x0), .second, .val (.long x1), .second] [] := by first | (simp [entryFrame, mkF, argsToLocals, Value.category]; done) | rfl
set_option maxRecDepth 65536 in
set_option maxHeartbeats 40000000 in
theorem rm_maxJ (l : Launch) (Z : State) (a0 : Array Value) (hw : ∀ d ∈ tables_1, d.before a0 Z = true) (ws : List Jvm.Cond) (a : Int64) (b : Int64) (h0 : Heap) (n0 : Nat) (Z0 : n0 ≤ h0.size) (r : Int64) (hres : (if (lcmpW a b) < (0 : Int32) then b else a) = r) :
    MetFree l (⟨"java/lang/Math", "max", "(JJ)J"⟩ : MethodName) (head1 (Jvm.Cond.code (⟨"java/lang/Math", "max", "(JJ)J"⟩ : MethodName) jdk_29_method_66_code 4 (some .long) :: ws) ({ frames := 0, cells := 0, slots := 0, locals := 0 } : Room)) (fun aQ UQ => aQ = #[(.long a), (.long b)] ∧ Z.Warmed39 UQ.vm ∧ UQ.heap = h0) (fun _ _ _ _ _ => True) (fun _ UQ oQ UR => ∃ vQ LQ, oQ = .returned vQ ∧ own_Pure (some (.long r)) h0 n0 vQ UR.heap LQ ∧ FrameEnd UQ oQ UR LQ ({ frames := 0, cells := 0, slots := 0, locals := 0 } : Room).cells ({ frames := 0, cells := 0, slots := 0, locals := 0 } : Room).slots) := by
  refine MetFree.of_bodySF (Jvm.Free.JP.mathPlain rfl (by decide +kernel)) hisR ?_
  intro p e s m args below meth c s₁ Bd hml0 hP hK
  obtain ⟨rfl, hZ, hh⟩ := hP
  have hx := Bd.exec
  have hby := Bd.bytes
  have hml : c.maxLocals = 4 := hml0
  have hown : s.vm.findClass "java/lang/Math" = some m.cls := findClass_of_methodNamed Bd.named
  have hnm := (name_of_methodNamed Bd.named Bd.method).1
  have X0 : Stand p l e ({ frames := 0, cells := 0, slots := 0, locals := 0 } : Room) s m #[(.long a), (.long b)] below meth c s₁ [] 0 0 := Stand.of_body Bd
  have e0 : s₁.heap = h0 := by rw [← hh, Bd.state]; rfl
  have N0 := Fr.nil n0
  have pre0 : ∀ t, Steps p.tables e below (s₁.setTop (mkF m 0 #[.val (.long a), .second, .val (.long b), .second] [])) t → Steps p.tables e below (s₁.setTop (entryFrame m #[(.long a), (.long b)] 4)) t := fun t kq => castTop (ef_rm_maxJ m a b) kq
  by_cases hc3_1 : (lcmpW a b) < (0 : Int32)
  · -- pc 3: (lcmpW a b) < (0 : Int32)
    obtain ⟨fs, hr, hrun, hended, hW, hsame⟩ := X0.leave (v := some (.long b)) (fun h => by rw [Bd.returns] at h; cases h)
    refine ⟨_, _, pre0 _ ?_, hrun, hended, _, _, rfl, ?_, ⟨_, rfl⟩, hW, hsame.mono (by decide) (by decide)⟩
    · show Steps p.tables e below (s₁.setTop (mkF m 0 #[.val (.long a), .second, .val (.long b), .second] [])) _
      refine XS.lloadN X0.here hx rfl (hb hby d4_0) rfl ?_
      show Steps p.tables e below (s₁.setTop (mkF m 1 #[.val (.long a), .second, .val (.long b), .second] [(.long a)])) _
      refine XS.lloadN X0.here hx rfl (hb hby d4_1) rfl ?_
      show Steps p.tables e below (s₁.setTop (mkF m 2 #[.val (.long a), .second, .val (.long b), .second] [(.long b), (.long a)])) _
      refine XS.lcmp X0.here hx rfl (hb hby d4_2) rfl ?_
      show Steps p.tables e below (s₁.setTop (mkF m 3 #[.val (.long a), .second, .val (.long b), .second] [(.int (lcmpW a b))])) _
      refine XS.ifYes X0.here hx rfl (pc0 := 3) (pc' := 10) rfl (hb hby d4_3) rfl ((if0 _ _).trans (tlt hc3_1).1) (by decide) (by decide) ?_
      show Steps p.tables e below (s₁.setTop (mkF m 10 #[.val (.long a), .second, .val (.long b), .second] [])) _
      refine XS.lloadN X0.here hx rfl (hb hby d4_10) rfl ?_
      show Steps p.tables e below (s₁.setTop (mkF m 11 #[.val (.long a), .second, .val (.long b), .second] [(.long b)])) _
      exact retOut X0 hx Bd.returns rfl (Or.inr (Or.inl ⟨rfl, rfl, _, rfl⟩)) (hb hby d4_11) hr
    · show own_Pure (some (.long r)) h0 n0 _ s₁.heap _
      rw [e0]
      exact ⟨by rw [← hres]; simp only [if_pos hc3_1], N0, rfl⟩
  · -- pc 3: not (lcmpW a b) < (0 : Int32)
    obtain ⟨fs, hr, hrun, hended, hW, hsame⟩ := X0.leave (v := some (.long a)) (fun h => by rw [Bd.returns] at h; cases h)
    refine ⟨_, _, pre0 _ ?_, hrun, hended, _, _, rfl, ?_, ⟨_, rfl⟩, hW, hsame.mono (by decide) (by decide)⟩
    · show Steps p.tables e below (s₁.setTop (mkF m 0 #[.val (.long a), .second, .val (.long b), .second] [])) _
      refine XS.lloadN X0.here hx rfl (hb hby d4_0) rfl ?_
      show Steps p.tables e below (s₁.setTop (mkF m 1 #[.val (.long a), .second, .val (.long b), .second] [(.long a)])) _
      refine XS.lloadN X0.here hx rfl (hb hby d4_1) rfl ?_
      show Steps p.tables e below (s₁.setTop (mkF m 2 #[.val (.long a), .second, .val (.long b), .second] [(.long b), (.long a)])) _
      refine XS.lcmp X0.here hx rfl (hb hby d4_2) rfl ?_
      show Steps p.tables e below (s₁.setTop (mkF m 3 #[.val (.long a), .second, .val (.long b), .second] [(.int (lcmpW a b))])) _
      refine XS.ifNo X0.here hx rfl (hb hby d4_3) rfl ((if0 _ _).trans (flt hc3_1).1) ?_
      show Steps p.tables e below (s₁.setTop (mkF m 6 #[.val (.long a), .second, .val (.long b), .second] [])) _
      refine XS.lloadN X0.here hx rfl (hb hby d4_6) rfl ?_
      show Steps p.tables e below (s₁.setTop (mkF m 7 #[.val (.long a), .second, .val (.long b), .second] [(.long a)])) _
      refine XS.goto X0.here hx rfl (pc0 := 7) (pc' := 11) rfl (hb hby d4_7) (by decide) (by decide) ?_
      show Steps p.tables e below (s₁.setTop (mkF m 11 #[.val (.long a), .second, .val (.long b), .second] [(.long a)])) _
      exact retOut X0 hx Bd.returns rfl (Or.inr (Or.inl ⟨rfl, rfl, _, rfl⟩)) (hb hby d4_11) hr
    · show own_Pure (some (.long r)) h0 n0 _ s₁.heap _
      rw [e0]
      exact ⟨by rw [← hres]; simp only [if_neg hc3_1], N0, rfl⟩
theorem d5_0 : decode jdk_29_method_70_code 0 = .ok (.lload_n 0, 1) := by decide +kernel
theorem d5_1 : decode jdk_29_method_70_code 1 = .ok (.lload_n 2, 1) := by decide +kernel
theorem d5_2 : decode jdk_29_method_70_code 2 = .ok (.lcmp, 1) := by decide +kernel
theorem d5_3 : decode jdk_29_method_70_code 3 = .ok (.ifCond .gt 7, 3) := by decide +kernel
theorem d5_10 : decode jdk_29_method_70_code 10 = .ok (.lload_n 2, 1) := by decide +kernel
theorem d5_11 : decode jdk_29_method_70_code 11 = .ok (.lreturn, 1) := by decide +kernel
theorem d5_6 : decode jdk_29_method_70_code 6 = .ok (.lload_n 0, 1) := by decide +kernel
theorem d5_7 : decode jdk_29_method_70_code 7 = .ok (.goto 4, 3) := by decide +kernel
theorem ef_rm_minJ (m : MethodId) (x0 : Int64) (x1 : Int64) : entryFrame m #[(.long x0), (.long x1)] 4 = mkF m 0 #[.val (.long x0), .second, .val (.long x1), .second] [] := by first | (simp [entryFrame, mkF, argsToLocals, Value.category]; done) | rfl
set_option maxRecDepth 65536 in
set_option maxHeartbeats 40000000 in
theorem rm_minJ (l : Launch) (Z : State) (a0 : Array Value) (hw : ∀ d ∈ tables_1, d.before a0 Z = true) (ws : List Jvm.Cond) (a : Int64) (b : Int64) (h0 : Heap) (n0 : Nat) (Z0 : n0 ≤ h0.size) (r : Int64) (hres : (if (0 : Int32) < (lcmpW a b) then b else a) = r) :
    MetFree l (⟨"java/lang/Math", "min", "(JJ)J"⟩ : MethodName) (head1 (Jvm.Cond.code (⟨"java/lang/Math", "min", "(JJ)J"⟩ : MethodName) jdk_29_method_70_code 4 (some .long) :: ws) ({ frames := 0, cells := 0, slots := 0, locals := 0 } : Room)) (fun aQ UQ => aQ = #[(.long a), (.long b)] ∧ Z.Warmed39 UQ.vm ∧ UQ.heap = h0) (fun _ _ _ _ _ => True) (fun _ UQ oQ UR => ∃ vQ LQ, oQ = .returned vQ ∧ own_Pure (some (.long r)) h0 n0 vQ UR.heap LQ ∧ FrameEnd UQ oQ UR LQ ({ frames := 0, cells := 0, slots := 0, locals := 0 } : Room).cells ({ frames := 0, cells := 0, slots := 0, locals := 0 } : Room).slots) := by
  refine MetFree.of_bodySF (Jvm.Free.JP.mathPlain rfl (by decide +kernel)) hisR ?_
  intro p e s m args below meth c s₁ Bd hml0 hP hK
  obtain ⟨rfl, hZ, hh⟩ := hP
  have hx := Bd.exec
  have hby := Bd.bytes
  have hml : c.maxLocals = 4 := hml0
  have hown : s.vm.findClass "java/lang/Math" = some m.cls := findClass_of_methodNamed Bd.named
  have hnm := (name_of_methodNamed Bd.named Bd.method).1
  have X0 : Stand p l e ({ frames := 0, cells := 0, slots := 0, locals := 0 } : Room) s m #[(.long a), (.long b)] below meth c s₁ [] 0 0 := Stand.of_body Bd
  have e0 : s₁.heap = h0 := by rw [← hh, Bd.state]; rfl
  have N0 := Fr.nil n0
  have pre0 : ∀ t, Steps p.tables e below (s₁.setTop (mkF m 0 #[.val (.long a), .second, .val (.long b), .second] [])) t → Steps p.tables e below (s₁.setTop (entryFrame m #[(.long a), (.long b)] 4)) t := fun t kq => castTop (ef_rm_minJ m a b) kq
  by_cases hc3_2 : (0 : Int32) < (lcmpW a b)
  · -- pc 3: (0 : Int32) < (lcmpW a b)
    obtain ⟨fs, hr, hrun, hended, hW, hsame⟩ := X0.leave (v := some (.long b)) (fun h => by rw [Bd.returns] at h; cases h)
    refine ⟨_, _, pre0 _ ?_, hrun, hended, _, _, rfl, ?_, ⟨_, rfl⟩, hW, hsame.mono (by decide) (by decide)⟩
    · show Steps p.tables e below (s₁.setTop (mkF m 0 #[.val (.long a), .second, .val (.long b), .second] [])) _
      refine XS.lloadN X0.here hx rfl (hb hby d5_0) rfl ?_
      show Steps p.tables e below (s₁.setTop (mkF m 1 #[.val (.long a), .second, .val (.long b), .second] [(.long a)])) _
      refine XS.lloadN X0.here hx rfl (hb hby d5_1) rfl ?_
      show Steps p.tables e below (s₁.setTop (mkF m 2 #[.val (.long a), .second, .val (.long b), .second] [(.long b), (.long a)])) _
      refine XS.lcmp X0.here hx rfl (hb hby d5_2) rfl ?_
      show Steps p.tables e below (s₁.setTop (mkF m 3 #[.val (.long a), .second, .val (.long b), .second] [(.int (lcmpW a b))])) _
      refine XS.ifYes X0.here hx rfl (pc0 := 3) (pc' := 10) rfl (hb hby d5_3) rfl ((if0 _ _).trans (tlt hc3_2).2.2.1) (by decide) (by decide) ?_
      show Steps p.tables e below (s₁.setTop (mkF m 10 #[.val (.long a), .second, .val (.long b), .second] [])) _
      refine XS.lloadN X0.here hx rfl (hb hby d5_10) rfl ?_
      show Steps p.tables e below (s₁.setTop (mkF m 11 #[.val (.long a), .second, .val (.long b), .second] [(.long b)])) _
      exact retOut X0 hx Bd.returns rfl (Or.inr (Or.inl ⟨rfl, rfl, _, rfl⟩)) (hb hby d5_11) hr
    · show own_Pure (some (.long r)) h0 n0 _ s₁.heap _
      rw [e0]
      exact ⟨by rw [← hres]; simp only [if_pos hc3_2], N0, rfl⟩
  · -- pc 3: not (0 : Int32) < (lcmpW a b)
    obtain ⟨fs, hr, hrun, hended, hW, hsame⟩ := X0.leave (v := some (.long a)) (fun h => by rw [Bd.returns] at h; cases h)
    refine ⟨_, _, pre0 _ ?_, hrun, hended, _, _, rfl, ?_, ⟨_, rfl⟩, hW, hsame.mono (by decide) (by decide)⟩
    · show Steps p.tables e below (s₁.setTop (mkF m 0 #[.val (.long a), .second, .val (.long b), .second] [])) _
      refine XS.lloadN X0.here hx rfl (hb hby d5_0) rfl ?_
      show Steps p.tables e below (s₁.setTop (mkF m 1 #[.val (.long a), .second, .val (.long b), .second] [(.long a)])) _
      refine XS.lloadN X0.here hx rfl (hb hby d5_1) rfl ?_
      show Steps p.tables e below (s₁.setTop (mkF m 2 #[.val (.long a), .second, .val (.long b), .second] [(.long b), (.long a)])) _
      refine XS.lcmp X0.here hx rfl (hb hby d5_2) rfl ?_
      show Steps p.tables e below (s₁.setTop (mkF m 3 #[.val (.long a), .second, .val (.long b), .second] [(.int (lcmpW a b))])) _
      refine XS.ifNo X0.here hx rfl (hb hby d5_3) rfl ((if0 _ _).trans (flt hc3_2).2.2.1) ?_
      show Steps p.tables e below (s₁.setTop (mkF m 6 #[.val (.long a), .second, .val (.long b), .second] [])) _
      refine XS.lloadN X0.here hx rfl (hb hby d5_6) rfl ?_
      show Steps p.tables e below (s₁.setTop (mkF m 7 #[.val (.long a), .second, .val (.long b), .second] [(.long a)])) _
      refine XS.goto X0.here hx rfl (pc0 := 7) (pc' := 11) rfl (hb hby d5_7) (by decide) (by decide) ?_
      show Steps p.tables e below (s₁.setTop (mkF m 11 #[.val (.long a), .second, .val (.long b), .second] [(.long a)])) _
      exact retOut X0 hx Bd.returns rfl (Or.inr (Or.inl ⟨rfl, rfl, _, rfl⟩)) (hb hby d5_11) hr
    · show own_Pure (some (.long r)) h0 n0 _ s₁.heap _
      rw [e0]
      exact ⟨by rw [← hres]; simp only [if_neg hc3_2], N0, rfl⟩
theorem d8_0 : decode jdk_29_method_69_code 0 = .ok (.iload_n 0, 1) := by decide +kernel
theorem d8_1 : decode jdk_29_method_69_code 1 = .ok (.iload_n 1, 1) := by decide +kernel
theorem d8_2 : decode jdk_29_method_69_code 2 = .ok (.if_icmp .gt 7, 3) := by decide +kernel
theorem d8_9 : decode jdk_29_method_69_code 9 = .ok (.iload_n 1, 1) := by decide +kernel
theorem d8_10 : decode jdk_29_method_69_code 10 = .ok (.ireturn, 1) := by decide +kernel
theorem d8_5 : decode jdk_29_method_69_code 5 = .ok (.iload_n 0, 1) := by decide +kernel
theorem d8_6 : decode jdk_29_method_69_code 6 = .ok (.goto 4, 3) := by decide +kernel
theorem ef_rm_minI (m : MethodId) (x0 : Int32) (x1 : Int32) : entryFrame m #[(.int x0), (.int x1)] 2 = mkF m 0 #[.val (.int x0), .val (.int x1)] [] := by first | (simp [entryFrame, mkF, argsToLocals, Value.category]; done) | rfl
set_option maxRecDepth 65536 in
set_option maxHeartbeats 40000000 in
theorem rm_minI (l : Launch) (Z : State) (a0 : Array Value) (hw : ∀ d ∈ tables_1, d.before a0 Z = true) (ws : List Jvm.Cond) (a : Int32) (b : Int32) (h0 : Heap) (n0 : Nat) (Z0 : n0 ≤ h0.size) (r : Int32) (hres : (if b < a then b else a) = r) :
    MetFree l (⟨"java/lang/Math", "min", "(II)I"⟩ : MethodName) (head1 (Jvm.Cond.code (⟨"java/lang/Math", "min", "(II)I"⟩ : MethodName) jdk_29_method_69_code 2 (some .int) :: ws) ({ frames := 0, cells := 0, slots := 0, locals := 0 } : Room)) (fun aQ UQ => aQ = #[(.int a), (.int b)] ∧ Z.Warmed39 UQ.vm ∧ UQ.heap = h0) (fun _ _ _ _ _ => True) (fun _ UQ oQ UR => ∃ vQ LQ, oQ = .returned vQ ∧ own_Pure (some (.int r)) h0 n0 vQ UR.heap LQ ∧ FrameEnd UQ oQ UR LQ ({ frames := 0, cells := 0, slots := 0, locals := 0 } : Room).cells ({ frames := 0, cells := 0, slots := 0, locals := 0 } : Room).slots) := by
  refine MetFree.of_bodySF (Jvm.Free.JP.mathPlain rfl (by decide +kernel)) hisR ?_
  intro p e s m args below meth c s₁ Bd hml0 hP hK
  obtain ⟨rfl, hZ, hh⟩ := hP
  have hx := Bd.exec
  have hby := Bd.bytes
  have hml : c.maxLocals = 2 := hml0
  have hown : s.vm.findClass "java/lang/Math" = some m.cls := findClass_of_methodNamed Bd.named
  have hnm := (name_of_methodNamed Bd.named Bd.method).1
  have X0 : Stand p l e ({ frames := 0, cells := 0, slots := 0, locals := 0 } : Room) s m #[(.int a), (.int b)] below meth c s₁ [] 0 0 := Stand.of_body Bd
  have e0 : s₁.heap = h0 := by rw [← hh, Bd.state]; rfl
  have N0 := Fr.nil n0
  have pre0 : ∀ t, Steps p.tables e below (s₁.setTop (mkF m 0 #[.val (.int a), .val (.int b)] [])) t → Steps p.tables e below (s₁.setTop (entryFrame m #[(.int a), (.int b)] 2)) t := fun t kq => castTop (ef_rm_minI m a b) kq
  by_cases hc2_3 : b < a
  · -- pc 2: b < a
    obtain ⟨fs, hr, hrun, hended, hW, hsame⟩ := X0.leave (v := some (.int b)) (fun h => by rw [Bd.returns] at h; cases h)
    refine ⟨_, _, pre0 _ ?_, hrun, hended, _, _, rfl, ?_, ⟨_, rfl⟩, hW, hsame.mono (by decide) (by decide)⟩
    · show Steps p.tables e below (s₁.setTop (mkF m 0 #[.val (.int a), .val (.int b)] [])) _
      refine XS.iloadN X0.here hx rfl (hb hby d8_0) rfl ?_
      show Steps p.tables e below (s₁.setTop (mkF m 1 #[.val (.int a), .val (.int b)] [(.int a)])) _
      refine XS.iloadN X0.here hx rfl (hb hby d8_1) rfl ?_
      show Steps p.tables e below (s₁.setTop (mkF m 2 #[.val (.int a), .val (.int b)] [(.int b), (.int a)])) _
      refine XS.icmpYes X0.here hx rfl (pc0 := 2) (pc' := 9) rfl (hb hby d8_2) rfl (tlt hc2_3).2.2.1 (by decide) (by decide) ?_
      show Steps p.tables e below (s₁.setTop (mkF m 9 #[.val (.int a), .val (.int b)] [])) _
      refine XS.iloadN X0.here hx rfl (hb hby d8_9) rfl ?_
      show Steps p.tables e below (s₁.setTop (mkF m 10 #[.val (.int a), .val (.int b)] [(.int b)])) _
      exact retOut X0 hx Bd.returns rfl (Or.inl ⟨rfl, Or.inl rfl, _, rfl⟩) (hb hby d8_10) hr
    · show own_Pure (some (.int r)) h0 n0 _ s₁.heap _
      rw [e0]
      exact ⟨by rw [← hres]; simp only [if_pos hc2_3], N0, rfl⟩
  · -- pc 2: not b < a
    obtain ⟨fs, hr, hrun, hended, hW, hsame⟩ := X0.leave (v := some (.int a)) (fun h => by rw [Bd.returns] at h; cases h)
    refine ⟨_, _, pre0 _ ?_, hrun, hended, _, _, rfl, ?_, ⟨_, rfl⟩, hW, hsame.mono (by decide) (by decide)⟩
    · show Steps p.tables e below (s₁.setTop (mkF m 0 #[.val (.int a), .val (.int b)] [])) _
      refine XS.iloadN X0.here hx rfl (hb hby d8_0) rfl ?_
      show Steps p.tables e below (s₁.setTop (mkF m 1 #[.val (.int a), .val (.int b)] [(.int a)])) _
      refine XS.iloadN X0.here hx rfl (hb hby d8_1) rfl ?_
      show Steps p.tables e below (s₁.setTop (mkF m 2 #[.val (.int a), .val (.int b)] [(.int b), (.int a)])) _
      refine XS.icmpNo X0.here hx rfl (hb hby d8_2) rfl (flt hc2_3).2.2.1 ?_
      show Steps p.tables e below (s₁.setTop (mkF m 5 #[.val (.int a), .val (.int b)] [])) _
      refine XS.iloadN X0.here hx rfl (hb hby d8_5) rfl ?_
      show Steps p.tables e below (s₁.setTop (mkF m 6 #[.val (.int a), .val (.int b)] [(.int a)])) _
      refine XS.goto X0.here hx rfl (pc0 := 6) (pc' := 10) rfl (hb hby d8_6) (by decide) (by decide) ?_
      show Steps p.tables e below (s₁.setTop (mkF m 10 #[.val (.int a), .val (.int b)] [(.int a)])) _
      exact retOut X0 hx Bd.returns rfl (Or.inl ⟨rfl, Or.inl rfl, _, rfl⟩) (hb hby d8_10) hr
    · show own_Pure (some (.int r)) h0 n0 _ s₁.heap _
      rw [e0]
      exact ⟨by rw [← hres]; simp only [if_neg hc2_3], N0, rfl⟩
theorem d2_0 : decode jdk_2038_method_1_code 0 = .ok (.aload_n 0, 1) := by decide +kernel
theorem d2_1 : decode jdk_2038_method_1_code 1 = .ok (.invokespecial 1, 3) := by decide +kernel
theorem d2_4 : decode jdk_2038_method_1_code 4 = .ok (.return_, 1) := by decide +kernel
theorem pn_26 : plainName "java/io/OutputStream" = true := by first | (simp [plainName, overriddenIn]; done) | decide +kernel
theorem ef_rm_os (m : MethodId) (x0 : Addr) : entryFrame m #[(.ref x0)] 1 = mkF m 0 #[.val (.ref x0)] [] := by first | (simp [entryFrame, mkF, argsToLocals, Value.category]; done) | rfl
set_option maxRecDepth 65536 in
set_option maxHeartbeats 40000000 in
theorem rm_os (l : Launch) (Z : State) (a0 : Array Value) (hw : ∀ d ∈ tables_1, d.before a0 Z = true) (ws : List Jvm.Cond) (a1 : Addr) (h0 : Heap) (n0 : Nat) (Z0 : n0 ≤ h0.size)  :
    MetFree l (⟨"java/io/OutputStream", "<init>", "()V"⟩ : MethodName) (head1 (Jvm.Cond.code (⟨"java/io/OutputStream", "<init>", "()V"⟩ : MethodName) jdk_2038_method_1_code 1 none :: ws) ({ frames := 1, cells := 0, slots := 0, locals := 12 } : Room)) (fun aQ UQ => aQ = #[(.ref a1)] ∧ Z.Warmed39 UQ.vm ∧ UQ.heap = h0) (fun _ _ _ _ _ => True) (fun _ UQ oQ UR => ∃ vQ LQ, oQ = .returned vQ ∧ own_Pure none h0 n0 vQ UR.heap LQ ∧ FrameEnd UQ oQ UR LQ ({ frames := 1, cells := 0, slots := 0, locals := 12 } : Room).cells ({ frames := 1, cells := 0, slots := 0, locals := 12 } : Room).slots) := by
  refine MetFree.of_bodySF (plainFor_of_name pn_26) hisR ?_
  intro p e s m args below meth c s₁ Bd hml0 hP hK
  obtain ⟨rfl, hZ, hh⟩ := hP
  have hx := Bd.exec
  have hby := Bd.bytes
  have hml : c.maxLocals = 1 := hml0
  have hown : s.vm.findClass "java/io/OutputStream" = some m.cls := findClass_of_methodNamed Bd.named
  have hnm := (name_of_methodNamed Bd.named Bd.method).1
  have X0 : Stand p l e ({ frames := 1, cells := 0, slots := 0, locals := 12 } : Room) s m #[(.ref a1)] below meth c s₁ [] 0 0 := Stand.of_body Bd
  have e0 : s₁.heap = h0 := by rw [← hh, Bd.state]; rfl
  have N0 := Fr.nil n0
  have pre0 : ∀ t, Steps p.tables e below (s₁.setTop (mkF m 0 #[.val (.ref a1)] [])) t → Steps p.tables e below (s₁.setTop (entryFrame m #[(.ref a1)] 1)) t := fun t kq => castTop (ef_rm_os m a1) kq
  obtain ⟨T4, X4, e4, st4⟩ := initO X0 hx hZ hown (hw _ (List.mem_of_getElem? (i := 12) rfl)) (hw _ (List.mem_of_getElem? (i := 13) rfl)) (hw _ (List.mem_of_getElem? (i := 14) rfl)) e0 (g := (mkF m 1 #[.val (.ref a1)] [(.ref a1)])) rfl (by rw [hml]; rfl) rfl (hb hby d2_1) (by decide) (W := 0) (by show 2 * 0 + _ ≤ _; exact Nat.le_of_eq rfl) (by decide)
  obtain ⟨fs, hr, hrun, hended, hW, hsame⟩ := X4.leave (v := none) (fun _ => rfl)
  refine ⟨_, _, pre0 _ ?_, hrun, hended, _, _, rfl, ?_, ⟨_, rfl⟩, hW, hsame.mono (by decide) (by decide)⟩
  · show Steps p.tables e below (s₁.setTop (mkF m 0 #[.val (.ref a1)] [])) _
    refine XS.aloadN X0.here hx rfl (hb hby d2_0) rfl rfl ?_
    show Steps p.tables e below (s₁.setTop (mkF m 1 #[.val (.ref a1)] [(.ref a1)])) _
    refine st4 _ ?_
    show Steps p.tables e below (T4.setTop (mkF m 4 #[.val (.ref a1)] [])) _
    exact X4.returnOut hx Bd.returns (hb hby d2_4) hr
  · show own_Pure none h0 n0 _ T4.heap _
    rw [e4]
    exact ⟨rfl, N0, rfl⟩
theorem d11_0 : decode jdk_65_method_121_code 0 = .ok (.iload_n 1, 1) := by decide +kernel
theorem d11_1 : decode jdk_65_method_121_code 1 = .ok (.aload_n 0, 1) := by decide +kernel
theorem d11_2 : decode jdk_65_method_121_code 2 = .ok (.arraylength, 1) := by decide +kernel
theorem d11_3 : decode jdk_65_method_121_code 3 = .ok (.if_icmp .ne 11, 3) := by decide +kernel
theorem d11_14 : decode jdk_65_method_121_code 14 = .ok (.iload_n 1, 1) := by decide +kernel
theorem d11_15 : decode jdk_65_method_121_code 15 = .ok (.newarray .byte, 2) := by decide +kernel
theorem d11_17 : decode jdk_65_method_121_code 17 = .ok (.astore_n 2, 1) := by decide +kernel
theorem d11_18 : decode jdk_65_method_121_code 18 = .ok (.aload_n 0, 1) := by decide +kernel
theorem d11_19 : decode jdk_65_method_121_code 19 = .ok (.iconst 0, 1) := by decide +kernel
theorem d11_20 : decode jdk_65_method_121_code 20 = .ok (.aload_n 2, 1) := by decide +kernel
theorem d11_21 : decode jdk_65_method_121_code 21 = .ok (.iconst 0, 1) := by decide +kernel
theorem d11_22 : decode jdk_65_method_121_code 22 = .ok (.aload_n 0, 1) := by decide +kernel
theorem d11_23 : decode jdk_65_method_121_code 23 = .ok (.arraylength, 1) := by decide +kernel
theorem d11_24 : decode jdk_65_method_121_code 24 = .ok (.iload_n 1, 1) := by decide +kernel
theorem pd_41 : parseMethodDescriptor "(II)I" = some ⟨[.int, .int], some .int⟩ := by decide +kernel
theorem d11_25 : decode jdk_65_method_121_code 25 = .ok (.invokestatic 304, 3) := by decide +kernel
theorem d11_28 : decode jdk_65_method_121_code 28 = .ok (.invokestatic 150, 3) := by decide +kernel
theorem d11_31 : decode jdk_65_method_121_code 31 = .ok (.aload_n 2, 1) := by decide +kernel
theorem d11_32 : decode jdk_65_method_121_code 32 = .ok (.areturn, 1) := by decide +kernel
theorem pn_46 : plainName "java/util/Arrays" = true := by first | (simp [plainName, overriddenIn]; done) | decide +kernel
theorem ef_rm_copy (m : MethodId) (x0 : Addr) (x1 : Int32) : entryFrame m #[(.ref x0), (.int x1)] 3 = mkF m 0 #[.val (.ref x0), .val (.int x1), .unset] [] := by first | (simp [entryFrame, mkF, argsToLocals, Value.category]; done) | rfl
set_option maxRecDepth 65536 in
set_option maxHeartbeats 40000000 in
theorem rm_copy (l : Launch) (Z : State) (a0 : Array Value) (hw : ∀ d ∈ tables_1, d.before a0 Z = true) (ws : List Jvm.Cond) (a1 : Addr) (n : Int32) (h0 : Heap) (n0 : Nat) (Z0 : n0 ≤ h0.size) (k : ClassId) (z : Int32) (f : Nat → Int32) (B_1 : own_FB Z h0 a1 k z f) (hne : ¬ (n = z)) (hzn : ¬ (n < z)) (hn0 : ¬ n < 0) (hcap : n.toNatClampNeg ≤ 16384) (hz0 : ¬ z < 0) (hzI : z.toInt ≤ n.toInt) :
    MetFree l (⟨"java/util/Arrays", "copyOf", "([BI)[B"⟩ : MethodName) (head1 (Jvm.Cond.code (⟨"java/util/Arrays", "copyOf", "([BI)[B"⟩ : MethodName) jdk_65_method_121_code 3 (some (.array .byte)) :: ws) ({ frames := 1, cells := 1, slots := 16384, locals := 18 } : Room)) (fun aQ UQ => aQ = #[(.ref a1), (.int n)] ∧ Z.Warmed39 UQ.vm ∧ UQ.heap = h0) (fun _ _ _ _ _ => True) (fun _ UQ oQ UR => ∃ vQ LQ, oQ = .returned vQ ∧ own_Copy Z z n f h0 n0 vQ UR.heap LQ ∧ FrameEnd UQ oQ UR LQ ({ frames := 1, cells := 1, slots := 16384, locals := 18 } : Room).cells ({ frames := 1, cells := 1, slots := 16384, locals := 18 } : Room).slots) := by
  refine MetFree.of_bodySF (plainFor_of_name pn_46) hisR ?_
  intro p e s m args below meth c s₁ Bd hml0 hP hK
  obtain ⟨rfl, hZ, hh⟩ := hP
  have hx := Bd.exec
  have hby := Bd.bytes
  have hml : c.maxLocals = 3 := hml0
  have hown : s.vm.findClass "java/util/Arrays" = some m.cls := findClass_of_methodNamed Bd.named
  have hnm := (name_of_methodNamed Bd.named Bd.method).1
  have X0 : Stand p l e ({ frames := 1, cells := 1, slots := 16384, locals := 18 } : Room) s m #[(.ref a1), (.int n)] below meth c s₁ [] 0 0 := Stand.of_body Bd
  have e0 : s₁.heap = h0 := by rw [← hh, Bd.state]; rfl
  have N0 := Fr.nil n0
  have pre0 : ∀ t, Steps p.tables e below (s₁.setTop (mkF m 0 #[.val (.ref a1), .val (.int n), .unset] [])) t → Steps p.tables e below (s₁.setTop (entryFrame m #[(.ref a1), (.int n)] 3)) t := fun t kq => castTop (ef_rm_copy m a1 n) kq
  have Vc5 := B_1
  obtain ⟨cl5, Ar5, q5, S5, N5_, H5_, G5⟩ := Vc5
  obtain ⟨T6, h6, k6, X6, e6, E6, A6, Ea6, st6⟩ := newPE X0 hx hZ (hw _ (List.mem_of_getElem? (i := 26) rfl)) e0 (g := (mkF m 15 #[.val (.ref a1), .val (.int n), .unset] [(.int n)])) rfl (hb hby d11_15) rfl hn0 (cap := 16384) hcap (by decide) (by decide) (by decide) (ad := "[B") (by decide)
  obtain ⟨b6, g6⟩ : ∃ z, z = h0.size := ⟨_, rfl⟩
  rw [← g6] at A6 Ea6 st6
  have sz_b6 : h0.size ≤ b6 := Nat.le_trans (Keep.refl h0 []).1 (Nat.le_of_eq g6.symm)
  have gn_b6 : n0 ≤ b6 := Nat.le_trans Z0 sz_b6
  have ne_a1_b6 : a1 ≠ b6 := Nat.ne_of_lt (Nat.lt_of_lt_of_le B_1.lt (Nat.le_of_eq g6.symm))
  have EX6 := own_ext_trans (own_ext_refl h0) E6
  have KP6 := Keep.ext (Keep.refl h0 []) E6
  have V6 : own_FB Z h6 b6 k6 n (fun _ => (0 : Int32)) := own_FB.new A6 hn0
  have Fx7 := (B_1.ext E6)
  have Vc8 := Fx7
  obtain ⟨cl8, Ar8, q8, S8, N8_, H8_, G8⟩ := Vc8
  obtain ⟨_, _, ⟨T9, L9, k9, n9⟩, -, X9, ⟨Lc9, hQ9, l9, y9, z9⟩, st9⟩ := Jvm.LawKit.callS X6 hx (y := (⟨"java/lang/Math", "min", "(II)I"⟩ : MethodName)) hown (mvT hZ (hw _ (List.mem_of_getElem? (i := 66) rfl))) (mvT hZ (hw _ (List.mem_of_getElem? (i := 44) rfl))) (mvT hZ (hw _ (List.mem_of_getElem? (i := 21) rfl))) (mvT hZ (hw _ (List.mem_of_getElem? (i := 45) rfl))) (by decide) (backOf (W := 4) (rm_minI l Z a0 hw [] z n h6 n0 (Nat.le_trans Z0 EX6.1) (if n < z then n else z) rfl) hZ (hw _ (List.mem_of_getElem? (i := 45) rfl)) (hw _ (List.mem_of_getElem? (i := 21) rfl)) (by decide) (by decide)) (g := (mkF m 25 #[.val (.ref a1), .val (.int n), .val (.ref b6)] [(.int n), (.int z), (.int (0 : Int32)), (.ref b6), (.int (0 : Int32)), (.ref a1)])) rfl (by rw [hml]; rfl) (argsL := [(.int z), (.int n)]) (rest := [(.int (0 : Int32)), (.ref b6), (.int (0 : Int32)), (.ref a1)]) (lenOf pd_41 rfl) rfl (by show 2 * 0 + _ ≤ _; exact Nat.le_of_eq rfl) (hb hby d11_25) (fun _ _ => ⟨rfl, e6, (by decide : 1 + 0 ≤ _), (by decide : 16384 + 0 ≤ _)⟩)
  dsimp only [Pt.U, Pt.locs, Pt.cells, Pt.slots] at X9 l9 y9 z9 st9 hQ9
  subst l9 y9 z9
  obtain ⟨rfl, N9q, e9⟩ := hQ9
  have N9 := Fr.app N0 N9q
  obtain ⟨T10, h10, L10, X10, e10, N10, K10, V10, st10⟩ := own_cp X9 hx hZ hown (hw _ (List.mem_of_getElem? (i := 67) rfl)) (hw _ (List.mem_of_getElem? (i := 50) rfl)) (hw _ (List.mem_of_getElem? (i := 48) rfl)) (hw _ (List.mem_of_getElem? (i := 49) rfl)) e9 Fx7 V6 hz0 (Int.le_refl _) hzI N9 gn_b6 (g := (mkF m 28 #[.val (.ref a1), .val (.int n), .val (.ref b6)] [(.int z), (.int (0 : Int32)), (.ref b6), (.int (0 : Int32)), (.ref a1)])) rfl (by rw [hml]; rfl) rfl (hb hby d11_28) (by decide) (W := 0) (by show 2 * 0 + _ ≤ _; exact Nat.le_of_eq rfl) (by decide)
  have EX10 := own_ext_keep EX6 K10 (allS sz_b6 all0)
  have KP10 := Keep.trans KP6 K10 (allS (Or.inr sz_b6) all0)
  have Fx11 := (Ea6.keep K10)
  obtain ⟨fs, hr, hrun, hended, hW, hsame⟩ := X10.leave (v := some (.ref b6)) (fun h => by rw [Bd.returns] at h; cases h)
  refine ⟨_, _, pre0 _ ?_, hrun, hended, _, _, rfl, ?_, ⟨_, rfl⟩, hW, hsame.mono (by decide) (by decide)⟩
  · show Steps p.tables e below (s₁.setTop (mkF m 0 #[.val (.ref a1), .val (.int n), .unset] [])) _
    refine XS.iloadN X0.here hx rfl (hb hby d11_0) rfl ?_
    show Steps p.tables e below (s₁.setTop (mkF m 1 #[.val (.ref a1), .val (.int n), .unset] [(.int n)])) _
    refine XS.aloadN X0.here hx rfl (hb hby d11_1) rfl rfl ?_
    show Steps p.tables e below (s₁.setTop (mkF m 2 #[.val (.ref a1), .val (.int n), .unset] [(.ref a1), (.int n)])) _
    refine X0.arraylength hx (by rw [e0]; exact Ar5.1) (State.isArrayOf_alike hZ.alike Ar5.2.1) (g := (mkF m 2 #[.val (.ref a1), .val (.int n), .unset] [(.ref a1), (.int n)])) rfl rfl (hb hby d11_2) _ ?_
    rw [len_of S5 N5_]
    show Steps p.tables e below (s₁.setTop (mkF m 3 #[.val (.ref a1), .val (.int n), .unset] [(.int z), (.int n)])) _
    refine XS.icmpYes X0.here hx rfl (pc0 := 3) (pc' := 14) rfl (hb hby d11_3) rfl (feq hne).2 (by decide) (by decide) ?_
    show Steps p.tables e below (s₁.setTop (mkF m 14 #[.val (.ref a1), .val (.int n), .unset] [])) _
    refine XS.iloadN X0.here hx rfl (hb hby d11_14) rfl ?_
    show Steps p.tables e below (s₁.setTop (mkF m 15 #[.val (.ref a1), .val (.int n), .unset] [(.int n)])) _
    refine st6 _ ?_
    show Steps p.tables e below (T6.setTop (mkF m 17 #[.val (.ref a1), .val (.int n), .unset] [(.ref b6)])) _
    refine XS.astoreN X6.here hx rfl (hb hby d11_17) rfl rfl (l' := #[.val (.ref a1), .val (.int n), .val (.ref b6)]) rfl ?_
    show Steps p.tables e below (T6.setTop (mkF m 18 #[.val (.ref a1), .val (.int n), .val (.ref b6)] [])) _
    refine XS.aloadN X6.here hx rfl (hb hby d11_18) rfl rfl ?_
    show Steps p.tables e below (T6.setTop (mkF m 19 #[.val (.ref a1), .val (.int n), .val (.ref b6)] [(.ref a1)])) _
    refine XS.iconst X6.here hx rfl (hb hby d11_19) ?_
    show Steps p.tables e below (T6.setTop (mkF m 20 #[.val (.ref a1), .val (.int n), .val (.ref b6)] [(.int (0 : Int32)), (.ref a1)])) _
    refine XS.aloadN X6.here hx rfl (hb hby d11_20) rfl rfl ?_
    show Steps p.tables e below (T6.setTop (mkF m 21 #[.val (.ref a1), .val (.int n), .val (.ref b6)] [(.ref b6), (.int (0 : Int32)), (.ref a1)])) _
    refine XS.iconst X6.here hx rfl (hb hby d11_21) ?_
    show Steps p.tables e below (T6.setTop (mkF m 22 #[.val (.ref a1), .val (.int n), .val (.ref b6)] [(.int (0 : Int32)), (.ref b6), (.int (0 : Int32)), (.ref a1)])) _
    refine XS.aloadN X6.here hx rfl (hb hby d11_22) rfl rfl ?_
    show Steps p.tables e below (T6.setTop (mkF m 23 #[.val (.ref a1), .val (.int n), .val (.ref b6)] [(.ref a1), (.int (0 : Int32)), (.ref b6), (.int (0 : Int32)), (.ref a1)])) _
    refine X6.arraylength hx (by rw [e6]; exact Ar8.1) (State.isArrayOf_alike hZ.alike Ar8.2.1) (g := (mkF m 23 #[.val (.ref a1), .val (.int n), .val (.ref b6)] [(.ref a1), (.int (0 : Int32)), (.ref b6), (.int (0 : Int32)), (.ref a1)])) rfl rfl (hb hby d11_23) _ ?_
    rw [len_of S8 N8_]
    show Steps p.tables e below (T6.setTop (mkF m 24 #[.val (.ref a1), .val (.int n), .val (.ref b6)] [(.int z), (.int (0 : Int32)), (.ref b6), (.int (0 : Int32)), (.ref a1)])) _
    refine XS.iloadN X6.here hx rfl (hb hby d11_24) rfl ?_
    show Steps p.tables e below (T6.setTop (mkF m 25 #[.val (.ref a1), .val (.int n), .val (.ref b6)] [(.int n), (.int z), (.int (0 : Int32)), (.ref b6), (.int (0 : Int32)), (.ref a1)])) _
    refine st9 _ ?_
    show Steps p.tables e below (T9.setTop (mkF m 28 #[.val (.ref a1), .val (.int n), .val (.ref b6)] [(.int (if n < z then n else z)), (.int (0 : Int32)), (.ref b6), (.int (0 : Int32)), (.ref a1)])) _
    rw [(if_neg hzn)]
    show Steps p.tables e below (T9.setTop (mkF m 28 #[.val (.ref a1), .val (.int n), .val (.ref b6)] [(.int z), (.int (0 : Int32)), (.ref b6), (.int (0 : Int32)), (.ref a1)])) _
    refine st10 _ ?_
    show Steps p.tables e below (T10.setTop (mkF m 31 #[.val (.ref a1), .val (.int n), .val (.ref b6)] [])) _
    refine XS.aloadN X10.here hx rfl (hb hby d11_31) rfl rfl ?_
    show Steps p.tables e below (T10.setTop (mkF m 32 #[.val (.ref a1), .val (.int n), .val (.ref b6)] [(.ref b6)])) _
    exact retOut X10 hx Bd.returns rfl (Or.inr (Or.inr (Or.inr (Or.inr ⟨rfl, rfl, rfl⟩)))) (hb hby d11_32) hr
  · show own_Copy Z z n f h0 n0 _ T10.heap _
    rw [e10]
    exact ⟨b6, _, rfl, N10, EX10, sz_b6, V10, Fx11⟩
theorem d1_0 : decode prog_20_method_2_code 0 = .ok (.aload_n 0, 1) := by decide +kernel
theorem pd_48 : parseMethodDescriptor "()V" = some ⟨[], none⟩ := by decide +kernel
theorem d1_1 : decode prog_20_method_2_code 1 = .ok (.invokespecial 7, 3) := by decide +kernel
theorem d1_4 : decode prog_20_method_2_code 4 = .ok (.aload_n 0, 1) := by decide +kernel
theorem d1_5 : decode prog_20_method_2_code 5 = .ok (.iconst 1, 1) := by decide +kernel
theorem d1_6 : decode prog_20_method_2_code 6 = .ok (.anewarray 12, 3) := by decide +kernel
theorem d1_9 : decode prog_20_method_2_code 9 = .ok (.dup, 1) := by decide +kernel
theorem d1_10 : decode prog_20_method_2_code 10 = .ok (.iconst 0, 1) := by decide +kernel
theorem d1_11 : decode prog_20_method_2_code 11 = .ok (.ldc2_w 14, 3) := by decide +kernel
theorem d1_14 : decode prog_20_method_2_code 14 = .ok (.lload_n 1, 1) := by decide +kernel
theorem d1_15 : decode prog_20_method_2_code 15 = .ok (.ldc2_w 16, 3) := by decide +kernel
theorem pd_58 : parseMethodDescriptor "(JJ)J" = some ⟨[.long, .long], some .long⟩ := by decide +kernel
theorem d1_18 : decode prog_20_method_2_code 18 = .ok (.invokestatic 18, 3) := by decide +kernel
theorem d1_21 : decode prog_20_method_2_code 21 = .ok (.invokestatic 24, 3) := by decide +kernel
theorem d1_24 : decode prog_20_method_2_code 24 = .ok (.l2i, 1) := by decide +kernel
theorem d1_25 : decode prog_20_method_2_code 25 = .ok (.newarray .byte, 2) := by decide +kernel
theorem d1_27 : decode prog_20_method_2_code 27 = .ok (.aastore, 1) := by decide +kernel
theorem d1_28 : decode prog_20_method_2_code 28 = .ok (.putfield 27, 3) := by decide +kernel
theorem d1_31 : decode prog_20_method_2_code 31 = .ok (.return_, 1) := by decide +kernel
theorem pn_66 : plainName "com/example/cubelet/cubelet/Chunks" = true := by first | (simp [plainName, overriddenIn]; done) | decide +kernel
theorem ef_rm_init (m : MethodId) (x0 : Addr) (x1 : Int64) : entryFrame m #[(.ref x0), (.long x1)] 3 = mkF m 0 #[.val (.ref x0), .val (.long x1), .second] [] := by first | (simp [entryFrame, mkF, argsToLocals, Value.category]; done) | rfl
set_option maxRecDepth 65536 in
set_option maxHeartbeats 40000000 in
theorem rm_init (l : Launch) (Z : State) (a0 : Array Value) (hw : ∀ d ∈ tables_1, d.before a0 Z = true) (ws : List Jvm.Cond) (a1 : Addr) (q1 : Int64) (h0 : Heap) (n0 : Nat) (Z0 : n0 ≤ h0.size) (E_a : Exa Z h0 a1 "com/example/cubelet/cubelet/Chunks") (F_c : Fld Z h0 a1 "com/example/cubelet/cubelet/Chunks" "chunks" "[[B" .null) (F_l : Fld Z h0 a1 "com/example/cubelet/cubelet/Chunks" "length" "J" (.long (0 : Int64))) (gn_a : n0 ≤ a1) (hq : q1.toInt ≤ 16383) :
    MetFree l (⟨"com/example/cubelet/cubelet/Chunks", "<init>", "(J)V"⟩ : MethodName) (head1 (Jvm.Cond.code (⟨"com/example/cubelet/cubelet/Chunks", "<init>", "(J)V"⟩ : MethodName) prog_20_method_2_code 3 none :: ws) ({ frames := 2, cells := 2, slots := 16384, locals := 24 } : Room)) (fun aQ UQ => aQ = #[(.ref a1), (.long q1)] ∧ Z.Warmed39 UQ.vm ∧ UQ.heap = h0) (fun _ _ _ _ _ => True) (fun _ UQ oQ UR => ∃ vQ LQ, oQ = .returned vQ ∧ own_Init Z a1 h0 n0 vQ UR.heap LQ ∧ FrameEnd UQ oQ UR LQ ({ frames := 2, cells := 2, slots := 16384, locals := 24 } : Room).cells ({ frames := 2, cells := 2, slots := 16384, locals := 24 } : Room).slots) := by
  refine MetFree.of_bodySF (plainFor_of_name pn_66) hisR ?_
  intro p e s m args below meth c s₁ Bd hml0 hP hK
  obtain ⟨rfl, hZ, hh⟩ := hP
  have hx := Bd.exec
  have hby := Bd.bytes
  have hml : c.maxLocals = 3 := hml0
  have hown : s.vm.findClass "com/example/cubelet/cubelet/Chunks" = some m.cls := findClass_of_methodNamed Bd.named
  have hnm := (name_of_methodNamed Bd.named Bd.method).1
  have X0 : Stand p l e ({ frames := 2, cells := 2, slots := 16384, locals := 24 } : Room) s m #[(.ref a1), (.long q1)] below meth c s₁ [] 0 0 := Stand.of_body Bd
  have e0 : s₁.heap = h0 := by rw [← hh, Bd.state]; rfl
  have N0 := Fr.nil n0
  have pre0 : ∀ t, Steps p.tables e below (s₁.setTop (mkF m 0 #[.val (.ref a1), .val (.long q1), .second] [])) t → Steps p.tables e below (s₁.setTop (entryFrame m #[(.ref a1), (.long q1)] 3)) t := fun t kq => castTop (ef_rm_init m a1 q1) kq
  obtain ⟨_, _, ⟨T12, L12, k12, n12⟩, -, X12, ⟨Lc12, hQ12, l12, y12, z12⟩, st12⟩ := X0.specialBack hx (y := (⟨"java/io/OutputStream", "<init>", "()V"⟩ : MethodName)) rfl hown (mvT hZ (hw _ (List.mem_of_getElem? (i := 7) rfl))) (mvT hZ (hw _ (List.mem_of_getElem? (i := 8) rfl))) (mvT hZ (hw _ (List.mem_of_getElem? (i := 11) rfl))) (by decide) (backOf (W := 0) (rm_os l Z a0 hw [] a1 h0 n0 Z0) hZ (hw _ (List.mem_of_getElem? (i := 11) rfl)) (hw _ (List.mem_of_getElem? (i := 10) rfl)) (by decide) (by decide)) (g := (mkF m 1 #[.val (.ref a1), .val (.long q1), .second] [(.ref a1)])) rfl (by rw [hml]; rfl) (Steps.refl _) (a := a1) (argsL := []) (rest := []) (lenOf pd_48 rfl) rfl (by show 2 * 0 + _ ≤ _; exact Nat.le_of_eq rfl) (hb hby d1_1) (fun _ _ => ⟨rfl, e0, (by decide : 0 + 0 ≤ _), (by decide : 0 + 0 ≤ _)⟩)
  dsimp only [Pt.U, Pt.locs, Pt.cells, Pt.slots] at X12 l12 y12 z12 st12 hQ12
  subst l12 y12 z12
  obtain ⟨rfl, N12q, e12⟩ := hQ12
  have N12 := Fr.app N0 N12q
  obtain ⟨T13, h13, k13, X13, e13, E13, A13, -, O13, st13⟩ := newRA X12 hx hZ hown (ty := .byte) (by decide) (hw _ (List.mem_of_getElem? (i := 15) rfl)) (hw _ (List.mem_of_getElem? (i := 16) rfl)) e12 (g := (mkF m 6 #[.val (.ref a1), .val (.long q1), .second] [(.int (1 : Int32)), (.ref a1)])) rfl (hb hby d1_6) rfl (by decide) (cap := 1) (by decide) (by decide) (by decide) (by decide) (ad := "[[B") (by decide)
  obtain ⟨b13, g13⟩ : ∃ z, z = h0.size := ⟨_, rfl⟩
  rw [← g13] at A13 st13
  have sz_b13 : h0.size ≤ b13 := Nat.le_trans (Keep.refl h0 [a1]).1 (Nat.le_of_eq g13.symm)
  have gn_b13 : n0 ≤ b13 := Nat.le_trans Z0 sz_b13
  have ne_a1_b13 : a1 ≠ b13 := Nat.ne_of_lt (Nat.lt_of_lt_of_le E_a.lt (Nat.le_of_eq g13.symm))
  have EX13 := own_ext_trans (own_ext_refl h0) E13
  have KP13 := Keep.ext (Keep.refl h0 [a1]) E13
  have V13 : Arv Z h13 b13 k13 (.array .byte) (1 : Int32) [.null] .null := (Arv.new A13 (by decide)).pad (pad_rep [] .null 1)
  obtain ⟨_, _, ⟨T14, L14, k14, n14⟩, -, X14, ⟨Lc14, hQ14, l14, y14, z14⟩, st14⟩ := Jvm.LawKit.callS X13 hx (y := (⟨"java/lang/Math", "max", "(JJ)J"⟩ : MethodName)) hown (mvT hZ (hw _ (List.mem_of_getElem? (i := 19) rfl))) (mvT hZ (hw _ (List.mem_of_getElem? (i := 20) rfl))) (mvT hZ (hw _ (List.mem_of_getElem? (i := 21) rfl))) (mvT hZ (hw _ (List.mem_of_getElem? (i := 22) rfl))) (by decide) (backOf (W := 6) (rm_maxJ l Z a0 hw [] q1 (4096 : Int64) h13 n0 (Nat.le_trans Z0 EX13.1) (if (lcmpW q1 (4096 : Int64)) < (0 : Int32) then (4096 : Int64) else q1) rfl) hZ (hw _ (List.mem_of_getElem? (i := 22) rfl)) (hw _ (List.mem_of_getElem? (i := 21) rfl)) (by decide) (by decide)) (g := (mkF m 18 #[.val (.ref a1), .val (.long q1), .second] [(.long (4096 : Int64)), (.long q1), (.long (134217728 : Int64)), (.int (0 : Int32)), (.ref b13), (.ref b13), (.ref a1)])) rfl (by rw [hml]; rfl) (argsL := [(.long q1), (.long (4096 : Int64))]) (rest := [(.long (134217728 : Int64)), (.int (0 : Int32)), (.ref b13), (.ref b13), (.ref a1)]) (lenOf pd_58 rfl) rfl (by show 2 * 0 + _ ≤ _; exact Nat.le_of_eq rfl) (hb hby d1_18) (fun _ _ => ⟨rfl, e13, (by decide : 1 + 0 ≤ _), (by decide : 1 + 0 ≤ _)⟩)
  dsimp only [Pt.U, Pt.locs, Pt.cells, Pt.slots] at X14 l14 y14 z14 st14 hQ14
  subst l14 y14 z14
  obtain ⟨rfl, N14q, e14⟩ := hQ14
  have N14 := Fr.app N12 N14q
  obtain ⟨mx, h_mx⟩ : ∃ zQ : Int64, (if (lcmpW q1 (4096 : Int64)) < (0 : Int32) then (4096 : Int64) else q1) = zQ := ⟨_, rfl⟩
  obtain ⟨_, _, ⟨T15, L15, k15, n15⟩, -, X15, ⟨Lc15, hQ15, l15, y15, z15⟩, st15⟩ := Jvm.LawKit.callS X14 hx (y := (⟨"java/lang/Math", "min", "(JJ)J"⟩ : MethodName)) hown (mvT hZ (hw _ (List.mem_of_getElem? (i := 23) rfl))) (mvT hZ (hw _ (List.mem_of_getElem? (i := 24) rfl))) (mvT hZ (hw _ (List.mem_of_getElem? (i := 21) rfl))) (mvT hZ (hw _ (List.mem_of_getElem? (i := 25) rfl))) (by decide) (backOf (W := 4) (rm_minJ l Z a0 hw [] (134217728 : Int64) mx h13 n0 (Nat.le_trans Z0 EX13.1) (if (0 : Int32) < (lcmpW (134217728 : Int64) mx) then mx else (134217728 : Int64)) rfl) hZ (hw _ (List.mem_of_getElem? (i := 25) rfl)) (hw _ (List.mem_of_getElem? (i := 21) rfl)) (by decide) (by decide)) (g := (mkF m 21 #[.val (.ref a1), .val (.long q1), .second] [(.long mx), (.long (134217728 : Int64)), (.int (0 : Int32)), (.ref b13), (.ref b13), (.ref a1)])) rfl (by rw [hml]; rfl) (argsL := [(.long (134217728 : Int64)), (.long mx)]) (rest := [(.int (0 : Int32)), (.ref b13), (.ref b13), (.ref a1)]) (lenOf pd_58 rfl) rfl (by show 2 * 0 + _ ≤ _; exact Nat.le_of_eq rfl) (hb hby d1_21) (fun _ _ => ⟨rfl, e14, (by decide : 1 + 0 ≤ _), (by decide : 1 + 0 ≤ _)⟩)
  dsimp only [Pt.U, Pt.locs, Pt.cells, Pt.slots] at X15 l15 y15 z15 st15 hQ15
  subst l15 y15 z15
  obtain ⟨rfl, N15q, e15⟩ := hQ15
  have N15 := Fr.app N14 N15q
  obtain ⟨mm, h_mm⟩ : ∃ zQ : Int64, (if (0 : Int32) < (lcmpW (134217728 : Int64) mx) then mx else (134217728 : Int64)) = zQ := ⟨_, rfl⟩
  obtain ⟨zz, h_zz⟩ : ∃ zQ : Int32, (mm.toInt32) = zQ := ⟨_, rfl⟩
  have hzz : 4096 ≤ zz.toInt ∧ zz.toInt ≤ 16383 := by rw [← h_zz, ← h_mm, ← h_mx]; exact own_zz hq
  have hz0 : ¬ zz < 0 := own_nn (by omega)
  have hcap : zz.toNatClampNeg ≤ 16383 := own_cap hz0 (by omega)
  have Fx16 := (E_a.ext E13)
  obtain ⟨T17, h17, k17, X17, e17, E17, A17, Ea17, st17⟩ := newPE X15 hx hZ (hw _ (List.mem_of_getElem? (i := 26) rfl)) e15 (g := (mkF m 25 #[.val (.ref a1), .val (.long q1), .second] [(.int zz), (.int (0 : Int32)), (.ref b13), (.ref b13), (.ref a1)])) rfl (hb hby d1_25) rfl hz0 (cap := 16383) hcap (by decide) (by decide) (by decide) (ad := "[B") (by decide)
  obtain ⟨b17, g17⟩ : ∃ z, z = h13.size := ⟨_, rfl⟩
  rw [← g17] at A17 Ea17 st17
  have sz_b17 : h0.size ≤ b17 := Nat.le_trans KP13.1 (Nat.le_of_eq g17.symm)
  have gn_b17 : n0 ≤ b17 := Nat.le_trans Z0 sz_b17
  have ne_b13_b17 : b13 ≠ b17 := Nat.ne_of_lt (Nat.lt_of_lt_of_le V13.lt (Nat.le_of_eq g17.symm))
  have ne_a1_b17 : a1 ≠ b17 := Nat.ne_of_lt (Nat.lt_of_lt_of_le Fx16.lt (Nat.le_of_eq g17.symm))
  have EX17 := own_ext_trans EX13 E17
  have KP17 := Keep.ext KP13 E17
  have V17 : own_FB Z h17 b17 k17 zz (fun _ => (0 : Int32)) := own_FB.new A17 hz0
  have Fx18 := (V13.ext E17)
  have Vc19 := Fx18
  obtain ⟨cl19, Ar19, q19, S19, N19_, H19_, G19⟩ := Vc19
  have hin19 : ¬ ((0 : Int32) < 0 ∨ cl19.slots.size ≤ ((0 : Int32)).toNatClampNeg) := inb_of S19 ⟨by decide, by decide⟩
  obtain ⟨T20, h20, X20, e20, W20, st20⟩ := stR X17 hx hZ e17 Ar19 (j := (0 : Int32)) hin19 rfl (Sto.ofVA Ar19 q19 O13 (Ins.self Ea17)) (g := (mkF m 27 #[.val (.ref a1), .val (.long q1), .second] [(.ref b17), (.int (0 : Int32)), (.ref b13), (.ref b13), (.ref a1)])) rfl rfl (hb hby d1_27)
  have EX20 := own_ext_wr EX17 W20 sz_b13
  have KP20 := Keep.wr KP17 W20 (Or.inr sz_b13)
  have V20 : Arv Z h20 b13 k13 (.array .byte) (1 : Int32) [(.ref b17)] .null := Arv.set Ar19 q19 S19 N19_ H19_ G19 rfl W20 0 rfl (Nat.le_of_ble_eq_true rfl)
  have N20 := Fr.snoc X20 N15 gn_b13
  have Fx21 := ((Fx16.ext E17).wr W20)
  have Fx22 := (((F_c.ext E13).ext E17).other W20 (Or.inl ne_a1_b13))
  obtain ⟨T23, h23, X23, e23, W23, st23⟩ := putF X20 hx hZ hown (host := "") (Or.inl (hw _ (List.mem_of_getElem? (i := 28) rfl))) Via.refl e20 Fx22 Fx21 (Or.inl (hw _ (List.mem_of_getElem? (i := 29) rfl))) (hw _ (List.mem_of_getElem? (i := 1) rfl)) (ty := (.array (.array .byte))) (by decide) rfl rfl (g := (mkF m 28 #[.val (.ref a1), .val (.long q1), .second] [(.ref b13), (.ref a1)])) rfl rfl (hb hby d1_28)
  have KP23 := Keep.wr KP20 W23 (Or.inl (List.mem_of_getElem? (i := 0) rfl))
  have Fw23 := Fx22.same W23
  have N23 := Fr.snoc X23 N20 gn_a
  have Fx24 := (Fx21.wr W23)
  have Fx25 := ((((F_l.ext E13).ext E17).other W20 (Or.inl ne_a1_b13)).other W23 (Or.inr (slot_ne (Or.inl (hw _ (List.mem_of_getElem? (i := 41) rfl))) (Or.inl (hw _ (List.mem_of_getElem? (i := 29) rfl))) (by decide) (t := .long) (t' := (.array (.array .byte))) (by decide) (by decide))))
  have Fx26 := (V20.other W23 (Ne.symm ne_a1_b13))
  have Fx27 := ((V17.other W20 (Ne.symm ne_b13_b17)).other W23 (Ne.symm ne_a1_b17))
  obtain ⟨fs, hr, hrun, hended, hW, hsame⟩ := X23.leave (v := none) (fun _ => rfl)
  refine ⟨_, _, pre0 _ ?_, hrun, hended, _, _, rfl, ?_, ⟨_, rfl⟩, hW, hsame.mono (by decide) (by decide)⟩
  · show Steps p.tables e below (s₁.setTop (mkF m 0 #[.val (.ref a1), .val (.long q1), .second] [])) _
    refine XS.aloadN X0.here hx rfl (hb hby d1_0) rfl rfl ?_
    show Steps p.tables e below (s₁.setTop (mkF m 1 #[.val (.ref a1), .val (.long q1), .second] [(.ref a1)])) _
    refine st12.trans ?_
    show Steps p.tables e below (T12.setTop (mkF m 4 #[.val (.ref a1), .val (.long q1), .second] [])) _
    refine XS.aloadN X12.here hx rfl (hb hby d1_4) rfl rfl ?_
    show Steps p.tables e below (T12.setTop (mkF m 5 #[.val (.ref a1), .val (.long q1), .second] [(.ref a1)])) _
    refine XS.iconst X12.here hx rfl (hb hby d1_5) ?_
    show Steps p.tables e below (T12.setTop (mkF m 6 #[.val (.ref a1), .val (.long q1), .second] [(.int (1 : Int32)), (.ref a1)])) _
    refine st13 _ ?_
    show Steps p.tables e below (T13.setTop (mkF m 9 #[.val (.ref a1), .val (.long q1), .second] [(.ref b13), (.ref a1)])) _
    refine XS.dup X13.here hx rfl (hb hby d1_9) rfl rfl ?_
    show Steps p.tables e below (T13.setTop (mkF m 10 #[.val (.ref a1), .val (.long q1), .second] [(.ref b13), (.ref b13), (.ref a1)])) _
    refine XS.iconst X13.here hx rfl (hb hby d1_10) ?_
    show Steps p.tables e below (T13.setTop (mkF m 11 #[.val (.ref a1), .val (.long q1), .second] [(.int (0 : Int32)), (.ref b13), (.ref b13), (.ref a1)])) _
    refine X13.ldc2Long hx hown (mvT hZ (hw _ (List.mem_of_getElem? (i := 17) rfl))) (g := (mkF m 11 #[.val (.ref a1), .val (.long q1), .second] [(.int (0 : Int32)), (.ref b13), (.ref b13), (.ref a1)])) rfl (hb hby d1_11) _ ?_
    show Steps p.tables e below (T13.setTop (mkF m 14 #[.val (.ref a1), .val (.long q1), .second] [(.long (134217728 : Int64)), (.int (0 : Int32)), (.ref b13), (.ref b13), (.ref a1)])) _
    refine XS.lloadN X13.here hx rfl (hb hby d1_14) rfl ?_
    show Steps p.tables e below (T13.setTop (mkF m 15 #[.val (.ref a1), .val (.long q1), .second] [(.long q1), (.long (134217728 : Int64)), (.int (0 : Int32)), (.ref b13), (.ref b13), (.ref a1)])) _
    refine X13.ldc2Long hx hown (mvT hZ (hw _ (List.mem_of_getElem? (i := 18) rfl))) (g := (mkF m 15 #[.val (.ref a1), .val (.long q1), .second] [(.long q1), (.long (134217728 : Int64)), (.int (0 : Int32)), (.ref b13), (.ref b13), (.ref a1)])) rfl (hb hby d1_15) _ ?_
    show Steps p.tables e below (T13.setTop (mkF m 18 #[.val (.ref a1), .val (.long q1), .second] [(.long (4096 : Int64)), (.long q1), (.long (134217728 : Int64)), (.int (0 : Int32)), (.ref b13), (.ref b13), (.ref a1)])) _
    refine st14 _ ?_
    show Steps p.tables e below (T14.setTop (mkF m 21 #[.val (.ref a1), .val (.long q1), .second] [(.long (if (lcmpW q1 (4096 : Int64)) < (0 : Int32) then (4096 : Int64) else q1)), (.long (134217728 : Int64)), (.int (0 : Int32)), (.ref b13), (.ref b13), (.ref a1)])) _
    rw [h_mx]
    show Steps p.tables e below (T14.setTop (mkF m 21 #[.val (.ref a1), .val (.long q1), .second] [(.long mx), (.long (134217728 : Int64)), (.int (0 : Int32)), (.ref b13), (.ref b13), (.ref a1)])) _
    refine st15 _ ?_
    show Steps p.tables e below (T15.setTop (mkF m 24 #[.val (.ref a1), .val (.long q1), .second] [(.long (if (0 : Int32) < (lcmpW (134217728 : Int64) mx) then mx else (134217728 : Int64))), (.int (0 : Int32)), (.ref b13), (.ref b13), (.ref a1)])) _
    rw [h_mm]
    show Steps p.tables e below (T15.setTop (mkF m 24 #[.val (.ref a1), .val (.long q1), .second] [(.long mm), (.int (0 : Int32)), (.ref b13), (.ref b13), (.ref a1)])) _
    refine XS.l2i X15.here hx rfl (hb hby d1_24) rfl ?_
    show Steps p.tables e below (T15.setTop (mkF m 25 #[.val (.ref a1), .val (.long q1), .second] [(.int (mm.toInt32)), (.int (0 : Int32)), (.ref b13), (.ref b13), (.ref a1)])) _
    rw [h_zz]
    show Steps p.tables e below (T15.setTop (mkF m 25 #[.val (.ref a1), .val (.long q1), .second] [(.int zz), (.int (0 : Int32)), (.ref b13), (.ref b13), (.ref a1)])) _
    refine st17 _ ?_
    show Steps p.tables e below (T17.setTop (mkF m 27 #[.val (.ref a1), .val (.long q1), .second] [(.ref b17), (.int (0 : Int32)), (.ref b13), (.ref b13), (.ref a1)])) _
    refine st20 _ ?_
    show Steps p.tables e below (T20.setTop (mkF m 28 #[.val (.ref a1), .val (.long q1), .second] [(.ref b13), (.ref a1)])) _
    refine st23 _ ?_
    show Steps p.tables e below (T23.setTop (mkF m 31 #[.val (.ref a1), .val (.long q1), .second] [])) _
    exact X23.returnOut hx Bd.returns (hb hby d1_31) hr
  · show own_Init Z a1 h0 n0 _ T23.heap _
    rw [e23]
    exact ⟨rfl, N23, KP23, b13, b17, _, _, zz, sz_b13, sz_b17, ne_b13_b17, Fx24, Fw23, Fx25, Fx26, O13, Fx27, hzz.1, hzz.2⟩
theorem d7_0 : decode prog_20_method_12_code 0 = .ok (.aload_n 0, 1) := by decide +kernel
theorem d7_1 : decode prog_20_method_12_code 1 = .ok (.getfield 27, 3) := by decide +kernel
theorem d7_4 : decode prog_20_method_12_code 4 = .ok (.arraylength, 1) := by decide +kernel
theorem d7_5 : decode prog_20_method_12_code 5 = .ok (.iconst 1, 1) := by decide +kernel
theorem d7_6 : decode prog_20_method_12_code 6 = .ok (.isub, 1) := by decide +kernel
theorem d7_7 : decode prog_20_method_12_code 7 = .ok (.istore_n 2, 1) := by decide +kernel
theorem d7_8 : decode prog_20_method_12_code 8 = .ok (.aload_n 0, 1) := by decide +kernel
theorem d7_9 : decode prog_20_method_12_code 9 = .ok (.getfield 31, 3) := by decide +kernel
theorem d7_12 : decode prog_20_method_12_code 12 = .ok (.iload_n 2, 1) := by decide +kernel
theorem d7_13 : decode prog_20_method_12_code 13 = .ok (.i2l, 1) := by decide +kernel
theorem d7_14 : decode prog_20_method_12_code 14 = .ok (.bipush 27, 2) := by decide +kernel
theorem d7_16 : decode prog_20_method_12_code 16 = .ok (.lshl, 1) := by decide +kernel
theorem d7_17 : decode prog_20_method_12_code 17 = .ok (.lsub, 1) := by decide +kernel
theorem d7_18 : decode prog_20_method_12_code 18 = .ok (.l2i, 1) := by decide +kernel
theorem d7_19 : decode prog_20_method_12_code 19 = .ok (.istore_n 3, 1) := by decide +kernel
theorem d7_20 : decode prog_20_method_12_code 20 = .ok (.aload_n 0, 1) := by decide +kernel
theorem d7_21 : decode prog_20_method_12_code 21 = .ok (.getfield 27, 3) := by decide +kernel
theorem d7_24 : decode prog_20_method_12_code 24 = .ok (.iload_n 2, 1) := by decide +kernel
theorem d7_25 : decode prog_20_method_12_code 25 = .ok (.aaload, 1) := by decide +kernel
theorem d7_26 : decode prog_20_method_12_code 26 = .ok (.arraylength, 1) := by decide +kernel
theorem d7_27 : decode prog_20_method_12_code 27 = .ok (.iload_n 3, 1) := by decide +kernel
theorem d7_28 : decode prog_20_method_12_code 28 = .ok (.isub, 1) := by decide +kernel
theorem d7_29 : decode prog_20_method_12_code 29 = .ok (.istore 4, 2) := by decide +kernel
theorem d7_31 : decode prog_20_method_12_code 31 = .ok (.iload 4, 2) := by decide +kernel
theorem d7_33 : decode prog_20_method_12_code 33 = .ok (.ifCond .le 17, 3) := by decide +kernel
theorem d7_36 : decode prog_20_method_12_code 36 = .ok (.iload 4, 2) := by decide +kernel
theorem d7_38 : decode prog_20_method_12_code 38 = .ok (.iload_n 1, 1) := by decide +kernel
theorem d7_39 : decode prog_20_method_12_code 39 = .ok (.ldc 71, 2) := by decide +kernel
theorem d7_41 : decode prog_20_method_12_code 41 = .ok (.iload_n 3, 1) := by decide +kernel
theorem d7_42 : decode prog_20_method_12_code 42 = .ok (.isub, 1) := by decide +kernel
theorem d7_43 : decode prog_20_method_12_code 43 = .ok (.invokestatic 42, 3) := by decide +kernel
theorem d7_46 : decode prog_20_method_12_code 46 = .ok (.if_icmp .lt 4, 3) := by decide +kernel
theorem d7_50 : decode prog_20_method_12_code 50 = .ok (.iload_n 3, 1) := by decide +kernel
theorem d7_51 : decode prog_20_method_12_code 51 = .ok (.ldc 71, 2) := by decide +kernel
theorem d7_53 : decode prog_20_method_12_code 53 = .ok (.if_icmp .ne 49, 3) := by decide +kernel
theorem d7_102 : decode prog_20_method_12_code 102 = .ok (.aload_n 0, 1) := by decide +kernel
theorem d7_103 : decode prog_20_method_12_code 103 = .ok (.getfield 27, 3) := by decide +kernel
theorem d7_106 : decode prog_20_method_12_code 106 = .ok (.iload_n 2, 1) := by decide +kernel
theorem d7_107 : decode prog_20_method_12_code 107 = .ok (.aload_n 0, 1) := by decide +kernel
theorem d7_108 : decode prog_20_method_12_code 108 = .ok (.getfield 27, 3) := by decide +kernel
theorem d7_111 : decode prog_20_method_12_code 111 = .ok (.iload_n 2, 1) := by decide +kernel
theorem d7_112 : decode prog_20_method_12_code 112 = .ok (.aaload, 1) := by decide +kernel
theorem d7_113 : decode prog_20_method_12_code 113 = .ok (.ldc2_w 14, 3) := by decide +kernel
theorem d7_116 : decode prog_20_method_12_code 116 = .ok (.iload_n 3, 1) := by decide +kernel
theorem d7_117 : decode prog_20_method_12_code 117 = .ok (.i2l, 1) := by decide +kernel
theorem d7_118 : decode prog_20_method_12_code 118 = .ok (.iload_n 1, 1) := by decide +kernel
theorem d7_119 : decode prog_20_method_12_code 119 = .ok (.i2l, 1) := by decide +kernel
theorem d7_120 : decode prog_20_method_12_code 120 = .ok (.ladd, 1) := by decide +kernel
theorem d7_121 : decode prog_20_method_12_code 121 = .ok (.ldc2_w 90, 3) := by decide +kernel
theorem d7_124 : decode prog_20_method_12_code 124 = .ok (.aload_n 0, 1) := by decide +kernel
theorem d7_125 : decode prog_20_method_12_code 125 = .ok (.getfield 27, 3) := by decide +kernel
theorem d7_128 : decode prog_20_method_12_code 128 = .ok (.iload_n 2, 1) := by decide +kernel
theorem d7_129 : decode prog_20_method_12_code 129 = .ok (.aaload, 1) := by decide +kernel
theorem d7_130 : decode prog_20_method_12_code 130 = .ok (.arraylength, 1) := by decide +kernel
theorem d7_131 : decode prog_20_method_12_code 131 = .ok (.i2l, 1) := by decide +kernel
theorem d7_132 : decode prog_20_method_12_code 132 = .ok (.lmul, 1) := by decide +kernel
theorem d7_133 : decode prog_20_method_12_code 133 = .ok (.invokestatic 18, 3) := by decide +kernel
theorem d7_136 : decode prog_20_method_12_code 136 = .ok (.invokestatic 24, 3) := by decide +kernel
theorem d7_139 : decode prog_20_method_12_code 139 = .ok (.l2i, 1) := by decide +kernel
theorem pd_126 : parseMethodDescriptor "([BI)[B" = some ⟨[(.array .byte), .int], some (.array .byte)⟩ := by decide +kernel
theorem d7_140 : decode prog_20_method_12_code 140 = .ok (.invokestatic 92, 3) := by decide +kernel
theorem d7_143 : decode prog_20_method_12_code 143 = .ok (.aastore, 1) := by decide +kernel
theorem d7_144 : decode prog_20_method_12_code 144 = .ok (.return_, 1) := by decide +kernel
theorem d7_49 : decode prog_20_method_12_code 49 = .ok (.return_, 1) := by decide +kernel
theorem ef_rm_room (m : MethodId) (x0 : Addr) (x1 : Int32) : entryFrame m #[(.ref x0), (.int x1)] 5 = mkF m 0 #[.val (.ref x0), .val (.int x1), .unset, .unset, .unset] [] := by first | (simp [entryFrame, mkF, argsToLocals, Value.category]; done) | rfl
set_option maxRecDepth 65536 in
set_option maxHeartbeats 40000000 in
theorem rm_room (l : Launch) (Z : State) (a0 : Array Value) (hw : ∀ d ∈ tables_1, d.before a0 Z = true) (ws : List Jvm.Cond) (a1 : Addr) (w : Int32) (h0 : Heap) (n0 : Nat) (Z0 : n0 ≤ h0.size) (b1 b2 : Addr) (k1 k2 : ClassId) (len : Int64) (z : Int32) (f : Nat → Int32) (E_a : Exa Z h0 a1 "com/example/cubelet/cubelet/Chunks") (F_c : Fld Z h0 a1 "com/example/cubelet/cubelet/Chunks" "chunks" "[[B" (.ref b1)) (F_l : Fld Z h0 a1 "com/example/cubelet/cubelet/Chunks" "length" "J" (.long len)) (A_1 : Arv Z h0 b1 k1 (.array .byte) (1 : Int32) [(.ref b2)] .null) (O_1 : OvrA Z k1 .byte "[B") (B_2 : own_FB Z h0 b2 k2 z f) (na1 : a1 ≠ b1) (na2 : a1 ≠ b2) (n12 : b1 ≠ b2) (gn_1 : n0 ≤ b1) (hu : 0 ≤ len.toInt ∧ len.toInt ≤ 8192) (hwt : 1 ≤ w.toInt ∧ w.toInt ≤ 8192) (hz : 1 ≤ z.toInt ∧ z.toInt ≤ 16384) (hgr : z.toInt - len.toInt < w.toInt → len.toInt + w.toInt ≤ 2 * z.toInt ∧ 2 * z.toInt ≤ 16384) :
    MetFree l (⟨"com/example/cubelet/cubelet/Chunks", "room", "(I)V"⟩ : MethodName) (head1 (Jvm.Cond.code (⟨"com/example/cubelet/cubelet/Chunks", "room", "(I)V"⟩ : MethodName) prog_20_method_12_code 5 none :: ws) ({ frames := 2, cells := 1, slots := 16384, locals := 34 } : Room)) (fun aQ UQ => aQ = #[(.ref a1), (.int w)] ∧ Z.Warmed39 UQ.vm ∧ UQ.heap = h0) (fun _ _ _ _ _ => True) (fun _ UQ oQ UR => ∃ vQ LQ, oQ = .returned vQ ∧ own_Room Z b1 b2 k1 (len.toInt + w.toInt) z f h0 n0 vQ UR.heap LQ ∧ FrameEnd UQ oQ UR LQ ({ frames := 2, cells := 1, slots := 16384, locals := 34 } : Room).cells ({ frames := 2, cells := 1, slots := 16384, locals := 34 } : Room).slots) := by
  refine MetFree.of_bodySF (plainFor_of_name pn_66) hisR ?_
  intro p e s m args below meth c s₁ Bd hml0 hP hK
  obtain ⟨rfl, hZ, hh⟩ := hP
  have hx := Bd.exec
  have hby := Bd.bytes
  have hml : c.maxLocals = 5 := hml0
  have hown : s.vm.findClass "com/example/cubelet/cubelet/Chunks" = some m.cls := findClass_of_methodNamed Bd.named
  have hnm := (name_of_methodNamed Bd.named Bd.method).1
  have X0 : Stand p l e ({ frames := 2, cells := 1, slots := 16384, locals := 34 } : Room) s m #[(.ref a1), (.int w)] below meth c s₁ [] 0 0 := Stand.of_body Bd
  have e0 : s₁.heap = h0 := by rw [← hh, Bd.state]; rfl
  have N0 := Fr.nil n0
  have pre0 : ∀ t, Steps p.tables e below (s₁.setTop (mkF m 0 #[.val (.ref a1), .val (.int w), .unset, .unset, .unset] [])) t → Steps p.tables e below (s₁.setTop (entryFrame m #[(.ref a1), (.int w)] 5)) t := fun t kq => castTop (ef_rm_room m a1 w) kq
  obtain ⟨T28, X28, e28, st28⟩ := getF X0 hx hZ hown (host := "") (Or.inl (hw _ (List.mem_of_getElem? (i := 28) rfl))) Via.refl e0 F_c (g := (mkF m 1 #[.val (.ref a1), .val (.int w), .unset, .unset, .unset] [(.ref a1)])) rfl rfl (hb hby d7_1)
  have Vc29 := A_1
  obtain ⟨cl29, Ar29, q29, S29, N29_, H29_, G29⟩ := Vc29
  obtain ⟨T30, X30, e30, st30⟩ := getF X28 hx hZ hown (host := "") (Or.inl (hw _ (List.mem_of_getElem? (i := 40) rfl))) Via.refl e28 F_l (g := (mkF m 9 #[.val (.ref a1), .val (.int w), .val (.int (0 : Int32)), .unset, .unset] [(.ref a1)])) rfl rfl (hb hby d7_9)
  obtain ⟨us, h_us⟩ : ∃ zQ : Int32, ((len - (0 : Int64)).toInt32) = zQ := ⟨_, rfl⟩
  have hus : us.toInt = len.toInt := by rw [← h_us]; exact own_us hu
  obtain ⟨T31, X31, e31, st31⟩ := getF X30 hx hZ hown (host := "") (Or.inl (hw _ (List.mem_of_getElem? (i := 28) rfl))) Via.refl e30 F_c (g := (mkF m 21 #[.val (.ref a1), .val (.int w), .val (.int (0 : Int32)), .val (.int us), .unset] [(.ref a1)])) rfl rfl (hb hby d7_21)
  have Vc32 := A_1
  obtain ⟨cl32, Ar32, q32, S32, N32_, H32_, G32⟩ := Vc32
  have hin32 : ¬ ((0 : Int32) < 0 ∨ cl32.slots.size ≤ ((0 : Int32)).toNatClampNeg) := inb_of S32 ⟨by decide, by decide⟩
  have hat32 : cl32.slots[((0 : Int32)).toNatClampNeg]? = some (.ref b2) := Has.at H32_ hin32 rfl
  have Vc33 := B_2
  obtain ⟨cl33, Ar33, q33, S33, N33_, H33_, G33⟩ := Vc33
  obtain ⟨fr, h_fr⟩ : ∃ zQ : Int32, (z - us) = zQ := ⟨_, rfl⟩
  have hfr : fr.toInt = z.toInt - len.toInt := by rw [← h_fr]; exact own_fr hus hu hz
  have ck35 : ∀ t, Steps p.tables e below (T31.setTop (mkF m 33 #[.val (.ref a1), .val (.int w), .val (.int (0 : Int32)), .val (.int us), .val (.int fr)] [(.int fr)])) t → Steps p.tables e below (s₁.setTop (entryFrame m #[(.ref a1), (.int w)] 5)) t := by
    intro t kt
    refine pre0 _ ?_
    show Steps p.tables e below (s₁.setTop (mkF m 0 #[.val (.ref a1), .val (.int w), .unset, .unset, .unset] [])) _
    refine XS.aloadN X0.here hx rfl (hb hby d7_0) rfl rfl ?_
    show Steps p.tables e below (s₁.setTop (mkF m 1 #[.val (.ref a1), .val (.int w), .unset, .unset, .unset] [(.ref a1)])) _
    refine st28 _ ?_
    show Steps p.tables e below (T28.setTop (mkF m 4 #[.val (.ref a1), .val (.int w), .unset, .unset, .unset] [(.ref b1)])) _
    refine X28.arraylength hx (by rw [e28]; exact Ar29.1) (State.isArrayOf_alike hZ.alike Ar29.2.1) (g := (mkF m 4 #[.val (.ref a1), .val (.int w), .unset, .unset, .unset] [(.ref b1)])) rfl rfl (hb hby d7_4) _ ?_
    rw [len_of S29 N29_]
    show Steps p.tables e below (T28.setTop (mkF m 5 #[.val (.ref a1), .val (.int w), .unset, .unset, .unset] [(.int (1 : Int32))])) _
    refine XS.iconst X28.here hx rfl (hb hby d7_5) ?_
    show Steps p.tables e below (T28.setTop (mkF m 6 #[.val (.ref a1), .val (.int w), .unset, .unset, .unset] [(.int (1 : Int32)), (.int (1 : Int32))])) _
    refine XS.isub X28.here hx rfl (hb hby d7_6) rfl ?_
    show Steps p.tables e below (T28.setTop (mkF m 7 #[.val (.ref a1), .val (.int w), .unset, .unset, .unset] [(.int (0 : Int32))])) _
    refine XS.istoreN X28.here hx rfl (hb hby d7_7) rfl (l' := #[.val (.ref a1), .val (.int w), .val (.int (0 : Int32)), .unset, .unset]) rfl ?_
    show Steps p.tables e below (T28.setTop (mkF m 8 #[.val (.ref a1), .val (.int w), .val (.int (0 : Int32)), .unset, .unset] [])) _
    refine XS.aloadN X28.here hx rfl (hb hby d7_8) rfl rfl ?_
    show Steps p.tables e below (T28.setTop (mkF m 9 #[.val (.ref a1), .val (.int w), .val (.int (0 : Int32)), .unset, .unset] [(.ref a1)])) _
    refine st30 _ ?_
    show Steps p.tables e below (T30.setTop (mkF m 12 #[.val (.ref a1), .val (.int w), .val (.int (0 : Int32)), .unset, .unset] [(.long len)])) _
    refine XS.iloadN X30.here hx rfl (hb hby d7_12) rfl ?_
    show Steps p.tables e below (T30.setTop (mkF m 13 #[.val (.ref a1), .val (.int w), .val (.int (0 : Int32)), .unset, .unset] [(.int (0 : Int32)), (.long len)])) _
    refine XS.i2l X30.here hx rfl (hb hby d7_13) rfl ?_
    show Steps p.tables e below (T30.setTop (mkF m 14 #[.val (.ref a1), .val (.int w), .val (.int (0 : Int32)), .unset, .unset] [(.long (0 : Int64)), (.long len)])) _
    refine XS.bipush X30.here hx rfl (hb hby d7_14) ?_
    show Steps p.tables e below (T30.setTop (mkF m 16 #[.val (.ref a1), .val (.int w), .val (.int (0 : Int32)), .unset, .unset] [(.int (27 : Int32)), (.long (0 : Int64)), (.long len)])) _
    refine XS.lshl X30.here hx rfl (hb hby d7_16) rfl ?_
    show Steps p.tables e below (T30.setTop (mkF m 17 #[.val (.ref a1), .val (.int w), .val (.int (0 : Int32)), .unset, .unset] [(.long ((0 : Int64) <<< ((27 : Int32) &&& 0x3f).toInt64)), (.long len)])) _
    rw [(by decide : ((0 : Int64) <<< ((27 : Int32) &&& 0x3f).toInt64) = (0 : Int64))]
    show Steps p.tables e below (T30.setTop (mkF m 17 #[.val (.ref a1), .val (.int w), .val (.int (0 : Int32)), .unset, .unset] [(.long (0 : Int64)), (.long len)])) _
    refine XS.lsub X30.here hx rfl (hb hby d7_17) rfl ?_
    show Steps p.tables e below (T30.setTop (mkF m 18 #[.val (.ref a1), .val (.int w), .val (.int (0 : Int32)), .unset, .unset] [(.long (len - (0 : Int64)))])) _
    refine XS.l2i X30.here hx rfl (hb hby d7_18) rfl ?_
    show Steps p.tables e below (T30.setTop (mkF m 19 #[.val (.ref a1), .val (.int w), .val (.int (0 : Int32)), .unset, .unset] [(.int ((len - (0 : Int64)).toInt32))])) _
    rw [h_us]
    show Steps p.tables e below (T30.setTop (mkF m 19 #[.val (.ref a1), .val (.int w), .val (.int (0 : Int32)), .unset, .unset] [(.int us)])) _
    refine XS.istoreN X30.here hx rfl (hb hby d7_19) rfl (l' := #[.val (.ref a1), .val (.int w), .val (.int (0 : Int32)), .val (.int us), .unset]) rfl ?_
    show Steps p.tables e below (T30.setTop (mkF m 20 #[.val (.ref a1), .val (.int w), .val (.int (0 : Int32)), .val (.int us), .unset] [])) _
    refine XS.aloadN X30.here hx rfl (hb hby d7_20) rfl rfl ?_
    show Steps p.tables e below (T30.setTop (mkF m 21 #[.val (.ref a1), .val (.int w), .val (.int (0 : Int32)), .val (.int us), .unset] [(.ref a1)])) _
    refine st31 _ ?_
    show Steps p.tables e below (T31.setTop (mkF m 24 #[.val (.ref a1), .val (.int w), .val (.int (0 : Int32)), .val (.int us), .unset] [(.ref b1)])) _
    refine XS.iloadN X31.here hx rfl (hb hby d7_24) rfl ?_
    show Steps p.tables e below (T31.setTop (mkF m 25 #[.val (.ref a1), .val (.int w), .val (.int (0 : Int32)), .val (.int us), .unset] [(.int (0 : Int32)), (.ref b1)])) _
    refine X31.aaload hx (j := (0 : Int32)) (v := (.ref b2)) (by rw [e31]; exact Ar32.1) (State.isArrayOf_alike hZ.alike Ar32.2.1) rfl Ar32.2.2 hin32 hat32 (g := (mkF m 25 #[.val (.ref a1), .val (.int w), .val (.int (0 : Int32)), .val (.int us), .unset] [(.int (0 : Int32)), (.ref b1)])) rfl rfl (hb hby d7_25) _ ?_
    show Steps p.tables e below (T31.setTop (mkF m 26 #[.val (.ref a1), .val (.int w), .val (.int (0 : Int32)), .val (.int us), .unset] [(.ref b2)])) _
    refine X31.arraylength hx (by rw [e31]; exact Ar33.1) (State.isArrayOf_alike hZ.alike Ar33.2.1) (g := (mkF m 26 #[.val (.ref a1), .val (.int w), .val (.int (0 : Int32)), .val (.int us), .unset] [(.ref b2)])) rfl rfl (hb hby d7_26) _ ?_
    rw [len_of S33 N33_]
    show Steps p.tables e below (T31.setTop (mkF m 27 #[.val (.ref a1), .val (.int w), .val (.int (0 : Int32)), .val (.int us), .unset] [(.int z)])) _
    refine XS.iloadN X31.here hx rfl (hb hby d7_27) rfl ?_
    show Steps p.tables e below (T31.setTop (mkF m 28 #[.val (.ref a1), .val (.int w), .val (.int (0 : Int32)), .val (.int us), .unset] [(.int us), (.int z)])) _
    refine XS.isub X31.here hx rfl (hb hby d7_28) rfl ?_
    show Steps p.tables e below (T31.setTop (mkF m 29 #[.val (.ref a1), .val (.int w), .val (.int (0 : Int32)), .val (.int us), .unset] [(.int (z - us))])) _
    rw [h_fr]
    show Steps p.tables e below (T31.setTop (mkF m 29 #[.val (.ref a1), .val (.int w), .val (.int (0 : Int32)), .val (.int us), .unset] [(.int fr)])) _
    refine XS.istore X31.here hx rfl (hb hby d7_29) rfl (l' := #[.val (.ref a1), .val (.int w), .val (.int (0 : Int32)), .val (.int us), .val (.int fr)]) rfl ?_
    show Steps p.tables e below (T31.setTop (mkF m 31 #[.val (.ref a1), .val (.int w), .val (.int (0 : Int32)), .val (.int us), .val (.int fr)] [])) _
    refine XS.iload X31.here hx rfl (hb hby d7_31) rfl ?_
    exact kt
  (try clear G33); (try clear H33_); (try clear N33_); (try clear S33); (try clear q33); (try clear Ar33); (try clear cl33); (try clear hat32); (try clear hin32); (try clear G32); (try clear H32_); (try clear N32_); (try clear S32); (try clear q32); (try clear Ar32); (try clear cl32); (try clear st31); (try clear st30); (try clear e30); (try clear X30); (try clear T30); (try clear G29); (try clear H29_); (try clear N29_); (try clear S29); (try clear q29); (try clear Ar29); (try clear cl29); (try clear st28); (try clear e28); (try clear X28); (try clear T28)
  by_cases hc33_34 : (0 : Int32) < fr
  · -- pc 33: (0 : Int32) < fr
    obtain ⟨_, _, ⟨T36, L36, k36, n36⟩, -, X36, ⟨Lc36, hQ36, l36, y36, z36⟩, st36⟩ := Jvm.LawKit.callS X31 hx (y := (⟨"java/lang/Math", "min", "(II)I"⟩ : MethodName)) hown (mvT hZ (hw _ (List.mem_of_getElem? (i := 43) rfl))) (mvT hZ (hw _ (List.mem_of_getElem? (i := 44) rfl))) (mvT hZ (hw _ (List.mem_of_getElem? (i := 21) rfl))) (mvT hZ (hw _ (List.mem_of_getElem? (i := 45) rfl))) (by decide) (backOf (W := 1) (rm_minI l Z a0 hw [] w ((134217728 : Int32) - us) h0 n0 Z0 (if ((134217728 : Int32) - us) < w then ((134217728 : Int32) - us) else w) rfl) hZ (hw _ (List.mem_of_getElem? (i := 45) rfl)) (hw _ (List.mem_of_getElem? (i := 21) rfl)) (by decide) (by decide)) (g := (mkF m 43 #[.val (.ref a1), .val (.int w), .val (.int (0 : Int32)), .val (.int us), .val (.int fr)] [(.int ((134217728 : Int32) - us)), (.int w), (.int fr)])) rfl (by rw [hml]; rfl) (argsL := [(.int w), (.int ((134217728 : Int32) - us))]) (rest := [(.int fr)]) (lenOf pd_41 rfl) rfl (by show 2 * 0 + _ ≤ _; exact Nat.le_of_eq rfl) (hb hby d7_43) (fun _ _ => ⟨rfl, e31, (by decide : 0 + 0 ≤ _), (by decide : 0 + 0 ≤ _)⟩)
    dsimp only [Pt.U, Pt.locs, Pt.cells, Pt.slots] at X36 l36 y36 z36 st36 hQ36
    subst l36 y36 z36
    obtain ⟨rfl, N36q, e36⟩ := hQ36
    have N36 := Fr.app N0 N36q
    obtain ⟨mn, h_mn⟩ : ∃ zQ : Int32, (if ((134217728 : Int32) - us) < w then ((134217728 : Int32) - us) else w) = zQ := ⟨_, rfl⟩
    have hmn : mn.toInt = w.toInt := by rw [← h_mn]; exact own_mn hus hu hwt
    have ck38 : ∀ t, Steps p.tables e below (T36.setTop (mkF m 46 #[.val (.ref a1), .val (.int w), .val (.int (0 : Int32)), .val (.int us), .val (.int fr)] [(.int mn), (.int fr)])) t → Steps p.tables e below (s₁.setTop (entryFrame m #[(.ref a1), (.int w)] 5)) t := by
      intro t kt
      refine ck35 _ ?_
      show Steps p.tables e below (T31.setTop (mkF m 33 #[.val (.ref a1), .val (.int w), .val (.int (0 : Int32)), .val (.int us), .val (.int fr)] [(.int fr)])) _
      refine XS.ifNo X31.here hx rfl (hb hby d7_33) rfl ((if0 _ _).trans (tlt hc33_34).2.2.2) ?_
      show Steps p.tables e below (T31.setTop (mkF m 36 #[.val (.ref a1), .val (.int w), .val (.int (0 : Int32)), .val (.int us), .val (.int fr)] [])) _
      refine XS.iload X31.here hx rfl (hb hby d7_36) rfl ?_
      show Steps p.tables e below (T31.setTop (mkF m 38 #[.val (.ref a1), .val (.int w), .val (.int (0 : Int32)), .val (.int us), .val (.int fr)] [(.int fr)])) _
      refine XS.iloadN X31.here hx rfl (hb hby d7_38) rfl ?_
      show Steps p.tables e below (T31.setTop (mkF m 39 #[.val (.ref a1), .val (.int w), .val (.int (0 : Int32)), .val (.int us), .val (.int fr)] [(.int w), (.int fr)])) _
      refine X31.ldcInt hx hown (mvT hZ (hw _ (List.mem_of_getElem? (i := 42) rfl))) (g := (mkF m 39 #[.val (.ref a1), .val (.int w), .val (.int (0 : Int32)), .val (.int us), .val (.int fr)] [(.int w), (.int fr)])) rfl (hb hby d7_39) _ ?_
      show Steps p.tables e below (T31.setTop (mkF m 41 #[.val (.ref a1), .val (.int w), .val (.int (0 : Int32)), .val (.int us), .val (.int fr)] [(.int (134217728 : Int32)), (.int w), (.int fr)])) _
      refine XS.iloadN X31.here hx rfl (hb hby d7_41) rfl ?_
      show Steps p.tables e below (T31.setTop (mkF m 42 #[.val (.ref a1), .val (.int w), .val (.int (0 : Int32)), .val (.int us), .val (.int fr)] [(.int us), (.int (134217728 : Int32)), (.int w), (.int fr)])) _
      refine XS.isub X31.here hx rfl (hb hby d7_42) rfl ?_
      show Steps p.tables e below (T31.setTop (mkF m 43 #[.val (.ref a1), .val (.int w), .val (.int (0 : Int32)), .val (.int us), .val (.int fr)] [(.int ((134217728 : Int32) - us)), (.int w), (.int fr)])) _
      refine st36 _ ?_
      show Steps p.tables e below (T36.setTop (mkF m 46 #[.val (.ref a1), .val (.int w), .val (.int (0 : Int32)), .val (.int us), .val (.int fr)] [(.int (if ((134217728 : Int32) - us) < w then ((134217728 : Int32) - us) else w)), (.int fr)])) _
      rw [h_mn]
      exact kt
    (try clear N36q); (try clear st36); (try clear Lc36); (try clear n36); (try clear k36); (try clear L36)
    by_cases hc46_37 : fr < mn
    · -- pc 46: fr < mn
      have d_hc33_34 := hc33_34; rw [Int32.lt_iff_toInt_lt] at d_hc33_34
      have d_hc46_37 := hc46_37; rw [Int32.lt_iff_toInt_lt] at d_hc46_37
      have z32 : (0 : Int32).toInt = 0 := by decide
      have hg := hgr (by omega)
      obtain ⟨T39, X39, e39, st39⟩ := getF X36 hx hZ hown (host := "") (Or.inl (hw _ (List.mem_of_getElem? (i := 28) rfl))) Via.refl e36 F_c (g := (mkF m 103 #[.val (.ref a1), .val (.int w), .val (.int (0 : Int32)), .val (.int us), .val (.int fr)] [(.ref a1)])) rfl rfl (hb hby d7_103)
      obtain ⟨T40, X40, e40, st40⟩ := getF X39 hx hZ hown (host := "") (Or.inl (hw _ (List.mem_of_getElem? (i := 28) rfl))) Via.refl e39 F_c (g := (mkF m 108 #[.val (.ref a1), .val (.int w), .val (.int (0 : Int32)), .val (.int us), .val (.int fr)] [(.ref a1), (.int (0 : Int32)), (.ref b1)])) rfl rfl (hb hby d7_108)
      have Vc41 := A_1
      obtain ⟨cl41, Ar41, q41, S41, N41_, H41_, G41⟩ := Vc41
      have hin41 : ¬ ((0 : Int32) < 0 ∨ cl41.slots.size ≤ ((0 : Int32)).toNatClampNeg) := inb_of S41 ⟨by decide, by decide⟩
      have hat41 : cl41.slots[((0 : Int32)).toNatClampNeg]? = some (.ref b2) := Has.at H41_ hin41 rfl
      obtain ⟨T42, X42, e42, st42⟩ := getF X40 hx hZ hown (host := "") (Or.inl (hw _ (List.mem_of_getElem? (i := 28) rfl))) Via.refl e40 F_c (g := (mkF m 125 #[.val (.ref a1), .val (.int w), .val (.int (0 : Int32)), .val (.int us), .val (.int fr)] [(.ref a1), (.long (2 : Int64)), (.long ((us.toInt64) + (w.toInt64))), (.long (134217728 : Int64)), (.ref b2), (.int (0 : Int32)), (.ref b1)])) rfl rfl (hb hby d7_125)
      have Vc43 := A_1
      obtain ⟨cl43, Ar43, q43, S43, N43_, H43_, G43⟩ := Vc43
      have hin43 : ¬ ((0 : Int32) < 0 ∨ cl43.slots.size ≤ ((0 : Int32)).toNatClampNeg) := inb_of S43 ⟨by decide, by decide⟩
      have hat43 : cl43.slots[((0 : Int32)).toNatClampNeg]? = some (.ref b2) := Has.at H43_ hin43 rfl
      have Vc44 := B_2
      obtain ⟨cl44, Ar44, q44, S44, N44_, H44_, G44⟩ := Vc44
      obtain ⟨_, _, ⟨T45, L45, k45, n45⟩, -, X45, ⟨Lc45, hQ45, l45, y45, z45⟩, st45⟩ := Jvm.LawKit.callS X42 hx (y := (⟨"java/lang/Math", "max", "(JJ)J"⟩ : MethodName)) hown (mvT hZ (hw _ (List.mem_of_getElem? (i := 19) rfl))) (mvT hZ (hw _ (List.mem_of_getElem? (i := 20) rfl))) (mvT hZ (hw _ (List.mem_of_getElem? (i := 21) rfl))) (mvT hZ (hw _ (List.mem_of_getElem? (i := 22) rfl))) (by decide) (backOf (W := 5) (rm_maxJ l Z a0 hw [] ((us.toInt64) + (w.toInt64)) ((2 : Int64) * (z.toInt64)) h0 n0 Z0 (if (lcmpW ((us.toInt64) + (w.toInt64)) ((2 : Int64) * (z.toInt64))) < (0 : Int32) then ((2 : Int64) * (z.toInt64)) else ((us.toInt64) + (w.toInt64))) rfl) hZ (hw _ (List.mem_of_getElem? (i := 22) rfl)) (hw _ (List.mem_of_getElem? (i := 21) rfl)) (by decide) (by decide)) (g := (mkF m 133 #[.val (.ref a1), .val (.int w), .val (.int (0 : Int32)), .val (.int us), .val (.int fr)] [(.long ((2 : Int64) * (z.toInt64))), (.long ((us.toInt64) + (w.toInt64))), (.long (134217728 : Int64)), (.ref b2), (.int (0 : Int32)), (.ref b1)])) rfl (by rw [hml]; rfl) (argsL := [(.long ((us.toInt64) + (w.toInt64))), (.long ((2 : Int64) * (z.toInt64)))]) (rest := [(.long (134217728 : Int64)), (.ref b2), (.int (0 : Int32)), (.ref b1)]) (lenOf pd_58 rfl) rfl (by show 2 * 0 + _ ≤ _; exact Nat.le_of_eq rfl) (hb hby d7_133) (fun _ _ => ⟨rfl, e42, (by decide : 0 + 0 ≤ _), (by decide : 0 + 0 ≤ _)⟩)
      dsimp only [Pt.U, Pt.locs, Pt.cells, Pt.slots] at X45 l45 y45 z45 st45 hQ45
      subst l45 y45 z45
      obtain ⟨rfl, N45q, e45⟩ := hQ45
      have N45 := Fr.app N36 N45q
      obtain ⟨mx, h_mx⟩ : ∃ zQ : Int64, (if (lcmpW ((us.toInt64) + (w.toInt64)) ((2 : Int64) * (z.toInt64))) < (0 : Int32) then ((2 : Int64) * (z.toInt64)) else ((us.toInt64) + (w.toInt64))) = zQ := ⟨_, rfl⟩
      obtain ⟨_, _, ⟨T46, L46, k46, n46⟩, -, X46, ⟨Lc46, hQ46, l46, y46, z46⟩, st46⟩ := Jvm.LawKit.callS X45 hx (y := (⟨"java/lang/Math", "min", "(JJ)J"⟩ : MethodName)) hown (mvT hZ (hw _ (List.mem_of_getElem? (i := 23) rfl))) (mvT hZ (hw _ (List.mem_of_getElem? (i := 24) rfl))) (mvT hZ (hw _ (List.mem_of_getElem? (i := 21) rfl))) (mvT hZ (hw _ (List.mem_of_getElem? (i := 25) rfl))) (by decide) (backOf (W := 3) (rm_minJ l Z a0 hw [] (134217728 : Int64) mx h0 n0 Z0 (if (0 : Int32) < (lcmpW (134217728 : Int64) mx) then mx else (134217728 : Int64)) rfl) hZ (hw _ (List.mem_of_getElem? (i := 25) rfl)) (hw _ (List.mem_of_getElem? (i := 21) rfl)) (by decide) (by decide)) (g := (mkF m 136 #[.val (.ref a1), .val (.int w), .val (.int (0 : Int32)), .val (.int us), .val (.int fr)] [(.long mx), (.long (134217728 : Int64)), (.ref b2), (.int (0 : Int32)), (.ref b1)])) rfl (by rw [hml]; rfl) (argsL := [(.long (134217728 : Int64)), (.long mx)]) (rest := [(.ref b2), (.int (0 : Int32)), (.ref b1)]) (lenOf pd_58 rfl) rfl (by show 2 * 0 + _ ≤ _; exact Nat.le_of_eq rfl) (hb hby d7_136) (fun _ _ => ⟨rfl, e45, (by decide : 0 + 0 ≤ _), (by decide : 0 + 0 ≤ _)⟩)
      dsimp only [Pt.U, Pt.locs, Pt.cells, Pt.slots] at X46 l46 y46 z46 st46 hQ46
      subst l46 y46 z46
      obtain ⟨rfl, N46q, e46⟩ := hQ46
      have N46 := Fr.app N45 N46q
      obtain ⟨mm, h_mm⟩ : ∃ zQ : Int64, (if (0 : Int32) < (lcmpW (134217728 : Int64) mx) then mx else (134217728 : Int64)) = zQ := ⟨_, rfl⟩
      obtain ⟨nz, h_nz⟩ : ∃ zQ : Int32, (mm.toInt32) = zQ := ⟨_, rfl⟩
      have hnz : nz.toInt = 2 * z.toInt := by rw [← h_nz, ← h_mm, ← h_mx]; exact own_nz2 hus hu hwt hz hg.1 hg.2
      obtain ⟨_, _, ⟨T47, L47, k47, n47⟩, -, X47, ⟨Lc47, hQ47, l47, y47, z47⟩, st47⟩ := Jvm.LawKit.callS X46 hx (y := (⟨"java/util/Arrays", "copyOf", "([BI)[B"⟩ : MethodName)) hown (mvT hZ (hw _ (List.mem_of_getElem? (i := 62) rfl))) (mvT hZ (hw _ (List.mem_of_getElem? (i := 63) rfl))) (mvT hZ (hw _ (List.mem_of_getElem? (i := 64) rfl))) (mvT hZ (hw _ (List.mem_of_getElem? (i := 65) rfl))) (by decide) (backOf (W := 2) (rm_copy l Z a0 hw [] b2 nz h0 n0 Z0 k2 z f B_2 (own_c1 hnz hz) (own_c2 hnz hz) (own_nn (by omega)) (own_cap (own_nn (by omega)) (by omega)) (own_nn (by omega)) (by omega)) hZ (hw _ (List.mem_of_getElem? (i := 65) rfl)) (hw _ (List.mem_of_getElem? (i := 64) rfl)) (by decide) (by decide)) (g := (mkF m 140 #[.val (.ref a1), .val (.int w), .val (.int (0 : Int32)), .val (.int us), .val (.int fr)] [(.int nz), (.ref b2), (.int (0 : Int32)), (.ref b1)])) rfl (by rw [hml]; rfl) (argsL := [(.ref b2), (.int nz)]) (rest := [(.int (0 : Int32)), (.ref b1)]) (lenOf pd_126 rfl) rfl (by show 2 * 0 + _ ≤ _; exact Nat.le_of_eq rfl) (hb hby d7_140) (fun _ _ => ⟨rfl, e46, (by decide : 0 + 1 ≤ _), (by decide : 0 + 16384 ≤ _)⟩)
      dsimp only [Pt.U, Pt.locs, Pt.cells, Pt.slots] at X47 l47 y47 z47 st47 hQ47
      subst l47 y47 z47
      obtain ⟨b47, k47, rfl, N47q, E47, g47, V47, Ea47⟩ := hQ47
      have N47 := Fr.app N46 N47q
      have sz_b47 : h0.size ≤ b47 := g47
      have gn_b47 : n0 ≤ b47 := Nat.le_trans Z0 sz_b47
      have ne_a1_b47 : a1 ≠ b47 := Nat.ne_of_lt (Nat.lt_of_lt_of_le E_a.lt g47)
      have ne_b1_b47 : b1 ≠ b47 := Nat.ne_of_lt (Nat.lt_of_lt_of_le A_1.lt g47)
      have ne_b2_b47 : b2 ≠ b47 := Nat.ne_of_lt (Nat.lt_of_lt_of_le B_2.lt g47)
      have e47 : T47.heap = T47.heap := rfl
      have EX47 := own_ext_trans (own_ext_refl h0) E47
      have KP47 := Keep.ext (Keep.refl h0 [b1]) E47
      have Fx48 := (A_1.ext E47)
      have Vc49 := Fx48
      obtain ⟨cl49, Ar49, q49, S49, N49_, H49_, G49⟩ := Vc49
      have hin49 : ¬ ((0 : Int32) < 0 ∨ cl49.slots.size ≤ ((0 : Int32)).toNatClampNeg) := inb_of S49 ⟨by decide, by decide⟩
      obtain ⟨T50, h50, X50, e50, W50, st50⟩ := stR X47 hx hZ e47 Ar49 (j := (0 : Int32)) hin49 rfl (Sto.ofVA Ar49 q49 O_1 (Ins.self Ea47)) (g := (mkF m 143 #[.val (.ref a1), .val (.int w), .val (.int (0 : Int32)), .val (.int us), .val (.int fr)] [(.ref b47), (.int (0 : Int32)), (.ref b1)])) rfl rfl (hb hby d7_143)
      have KP50 := Keep.wr KP47 W50 (Or.inl (List.mem_of_getElem? (i := 0) rfl))
      have V50 : Arv Z h50 b1 k1 (.array .byte) (1 : Int32) [(.ref b47)] .null := Arv.set Ar49 q49 S49 N49_ H49_ G49 rfl W50 0 rfl (Nat.le_of_ble_eq_true rfl)
      have N50 := Fr.snoc X50 N47 gn_1
      have Fx51 := (V47.other W50 (Ne.symm ne_b1_b47))
      obtain ⟨fs, hr, hrun, hended, hW, hsame⟩ := X50.leave (v := none) (fun _ => rfl)
      refine ⟨_, _, ck38 _ ?_, hrun, hended, _, _, rfl, ?_, ⟨_, rfl⟩, hW, hsame.mono (by decide) (by decide)⟩
      · show Steps p.tables e below (T36.setTop (mkF m 46 #[.val (.ref a1), .val (.int w), .val (.int (0 : Int32)), .val (.int us), .val (.int fr)] [(.int mn), (.int fr)])) _
        refine XS.icmpYes X36.here hx rfl (pc0 := 46) (pc' := 50) rfl (hb hby d7_46) rfl (tlt hc46_37).1 (by decide) (by decide) ?_
        show Steps p.tables e below (T36.setTop (mkF m 50 #[.val (.ref a1), .val (.int w), .val (.int (0 : Int32)), .val (.int us), .val (.int fr)] [])) _
        refine XS.iloadN X36.here hx rfl (hb hby d7_50) rfl ?_
        show Steps p.tables e below (T36.setTop (mkF m 51 #[.val (.ref a1), .val (.int w), .val (.int (0 : Int32)), .val (.int us), .val (.int fr)] [(.int us)])) _
        refine X36.ldcInt hx hown (mvT hZ (hw _ (List.mem_of_getElem? (i := 42) rfl))) (g := (mkF m 51 #[.val (.ref a1), .val (.int w), .val (.int (0 : Int32)), .val (.int us), .val (.int fr)] [(.int us)])) rfl (hb hby d7_51) _ ?_
        show Steps p.tables e below (T36.setTop (mkF m 53 #[.val (.ref a1), .val (.int w), .val (.int (0 : Int32)), .val (.int us), .val (.int fr)] [(.int (134217728 : Int32)), (.int us)])) _
        refine XS.icmpYes X36.here hx rfl (pc0 := 53) (pc' := 102) rfl (hb hby d7_53) rfl (feq (own_nc hus hu)).2 (by decide) (by decide) ?_
        show Steps p.tables e below (T36.setTop (mkF m 102 #[.val (.ref a1), .val (.int w), .val (.int (0 : Int32)), .val (.int us), .val (.int fr)] [])) _
        refine XS.aloadN X36.here hx rfl (hb hby d7_102) rfl rfl ?_
        show Steps p.tables e below (T36.setTop (mkF m 103 #[.val (.ref a1), .val (.int w), .val (.int (0 : Int32)), .val (.int us), .val (.int fr)] [(.ref a1)])) _
        refine st39 _ ?_
        show Steps p.tables e below (T39.setTop (mkF m 106 #[.val (.ref a1), .val (.int w), .val (.int (0 : Int32)), .val (.int us), .val (.int fr)] [(.ref b1)])) _
        refine XS.iloadN X39.here hx rfl (hb hby d7_106) rfl ?_
        show Steps p.tables e below (T39.setTop (mkF m 107 #[.val (.ref a1), .val (.int w), .val (.int (0 : Int32)), .val (.int us), .val (.int fr)] [(.int (0 : Int32)), (.ref b1)])) _
        refine XS.aloadN X39.here hx rfl (hb hby d7_107) rfl rfl ?_
        show Steps p.tables e below (T39.setTop (mkF m 108 #[.val (.ref a1), .val (.int w), .val (.int (0 : Int32)), .val (.int us), .val (.int fr)] [(.ref a1), (.int (0 : Int32)), (.ref b1)])) _
        refine st40 _ ?_
        show Steps p.tables e below (T40.setTop (mkF m 111 #[.val (.ref a1), .val (.int w), .val (.int (0 : Int32)), .val (.int us), .val (.int fr)] [(.ref b1), (.int (0 : Int32)), (.ref b1)])) _
        refine XS.iloadN X40.here hx rfl (hb hby d7_111) rfl ?_
        show Steps p.tables e below (T40.setTop (mkF m 112 #[.val (.ref a1), .val (.int w), .val (.int (0 : Int32)), .val (.int us), .val (.int fr)] [(.int (0 : Int32)), (.ref b1), (.int (0 : Int32)), (.ref b1)])) _
        refine X40.aaload hx (j := (0 : Int32)) (v := (.ref b2)) (by rw [e40]; exact Ar41.1) (State.isArrayOf_alike hZ.alike Ar41.2.1) rfl Ar41.2.2 hin41 hat41 (g := (mkF m 112 #[.val (.ref a1), .val (.int w), .val (.int (0 : Int32)), .val (.int us), .val (.int fr)] [(.int (0 : Int32)), (.ref b1), (.int (0 : Int32)), (.ref b1)])) rfl rfl (hb hby d7_112) _ ?_
        show Steps p.tables e below (T40.setTop (mkF m 113 #[.val (.ref a1), .val (.int w), .val (.int (0 : Int32)), .val (.int us), .val (.int fr)] [(.ref b2), (.int (0 : Int32)), (.ref b1)])) _
        refine X40.ldc2Long hx hown (mvT hZ (hw _ (List.mem_of_getElem? (i := 17) rfl))) (g := (mkF m 113 #[.val (.ref a1), .val (.int w), .val (.int (0 : Int32)), .val (.int us), .val (.int fr)] [(.ref b2), (.int (0 : Int32)), (.ref b1)])) rfl (hb hby d7_113) _ ?_
        show Steps p.tables e below (T40.setTop (mkF m 116 #[.val (.ref a1), .val (.int w), .val (.int (0 : Int32)), .val (.int us), .val (.int fr)] [(.long (134217728 : Int64)), (.ref b2), (.int (0 : Int32)), (.ref b1)])) _
        refine XS.iloadN X40.here hx rfl (hb hby d7_116) rfl ?_
        show Steps p.tables e below (T40.setTop (mkF m 117 #[.val (.ref a1), .val (.int w), .val (.int (0 : Int32)), .val (.int us), .val (.int fr)] [(.int us), (.long (134217728 : Int64)), (.ref b2), (.int (0 : Int32)), (.ref b1)])) _
        refine XS.i2l X40.here hx rfl (hb hby d7_117) rfl ?_
        show Steps p.tables e below (T40.setTop (mkF m 118 #[.val (.ref a1), .val (.int w), .val (.int (0 : Int32)), .val (.int us), .val (.int fr)] [(.long (us.toInt64)), (.long (134217728 : Int64)), (.ref b2), (.int (0 : Int32)), (.ref b1)])) _
        refine XS.iloadN X40.here hx rfl (hb hby d7_118) rfl ?_
        show Steps p.tables e below (T40.setTop (mkF m 119 #[.val (.ref a1), .val (.int w), .val (.int (0 : Int32)), .val (.int us), .val (.int fr)] [(.int w), (.long (us.toInt64)), (.long (134217728 : Int64)), (.ref b2), (.int (0 : Int32)), (.ref b1)])) _
        refine XS.i2l X40.here hx rfl (hb hby d7_119) rfl ?_
        show Steps p.tables e below (T40.setTop (mkF m 120 #[.val (.ref a1), .val (.int w), .val (.int (0 : Int32)), .val (.int us), .val (.int fr)] [(.long (w.toInt64)), (.long (us.toInt64)), (.long (134217728 : Int64)), (.ref b2), (.int (0 : Int32)), (.ref b1)])) _
        refine XS.ladd X40.here hx rfl (hb hby d7_120) rfl ?_
        show Steps p.tables e below (T40.setTop (mkF m 121 #[.val (.ref a1), .val (.int w), .val (.int (0 : Int32)), .val (.int us), .val (.int fr)] [(.long ((us.toInt64) + (w.toInt64))), (.long (134217728 : Int64)), (.ref b2), (.int (0 : Int32)), (.ref b1)])) _
        refine X40.ldc2Long hx hown (mvT hZ (hw _ (List.mem_of_getElem? (i := 61) rfl))) (g := (mkF m 121 #[.val (.ref a1), .val (.int w), .val (.int (0 : Int32)), .val (.int us), .val (.int fr)] [(.long ((us.toInt64) + (w.toInt64))), (.long (134217728 : Int64)), (.ref b2), (.int (0 : Int32)), (.ref b1)])) rfl (hb hby d7_121) _ ?_
        show Steps p.tables e below (T40.setTop (mkF m 124 #[.val (.ref a1), .val (.int w), .val (.int (0 : Int32)), .val (.int us), .val (.int fr)] [(.long (2 : Int64)), (.long ((us.toInt64) + (w.toInt64))), (.long (134217728 : Int64)), (.ref b2), (.int (0 : Int32)), (.ref b1)])) _
        refine XS.aloadN X40.here hx rfl (hb hby d7_124) rfl rfl ?_
        show Steps p.tables e below (T40.setTop (mkF m 125 #[.val (.ref a1), .val (.int w), .val (.int (0 : Int32)), .val (.int us), .val (.int fr)] [(.ref a1), (.long (2 : Int64)), (.long ((us.toInt64) + (w.toInt64))), (.long (134217728 : Int64)), (.ref b2), (.int (0 : Int32)), (.ref b1)])) _
        refine st42 _ ?_
        show Steps p.tables e below (T42.setTop (mkF m 128 #[.val (.ref a1), .val (.int w), .val (.int (0 : Int32)), .val (.int us), .val (.int fr)] [(.ref b1), (.long (2 : Int64)), (.long ((us.toInt64) + (w.toInt64))), (.long (134217728 : Int64)), (.ref b2), (.int (0 : Int32)), (.ref b1)])) _
        refine XS.iloadN X42.here hx rfl (hb hby d7_128) rfl ?_
        show Steps p.tables e below (T42.setTop (mkF m 129 #[.val (.ref a1), .val (.int w), .val (.int (0 : Int32)), .val (.int us), .val (.int fr)] [(.int (0 : Int32)), (.ref b1), (.long (2 : Int64)), (.long ((us.toInt64) + (w.toInt64))), (.long (134217728 : Int64)), (.ref b2), (.int (0 : Int32)), (.ref b1)])) _
        refine X42.aaload hx (j := (0 : Int32)) (v := (.ref b2)) (by rw [e42]; exact Ar43.1) (State.isArrayOf_alike hZ.alike Ar43.2.1) rfl Ar43.2.2 hin43 hat43 (g := (mkF m 129 #[.val (.ref a1), .val (.int w), .val (.int (0 : Int32)), .val (.int us), .val (.int fr)] [(.int (0 : Int32)), (.ref b1), (.long (2 : Int64)), (.long ((us.toInt64) + (w.toInt64))), (.long (134217728 : Int64)), (.ref b2), (.int (0 : Int32)), (.ref b1)])) rfl rfl (hb hby d7_129) _ ?_
        show Steps p.tables e below (T42.setTop (mkF m 130 #[.val (.ref a1), .val (.int w), .val (.int (0 : Int32)), .val (.int us), .val (.int fr)] [(.ref b2), (.long (2 : Int64)), (.long ((us.toInt64) + (w.toInt64))), (.long (134217728 : Int64)), (.ref b2), (.int (0 : Int32)), (.ref b1)])) _
        refine X42.arraylength hx (by rw [e42]; exact Ar44.1) (State.isArrayOf_alike hZ.alike Ar44.2.1) (g := (mkF m 130 #[.val (.ref a1), .val (.int w), .val (.int (0 : Int32)), .val (.int us), .val (.int fr)] [(.ref b2), (.long (2 : Int64)), (.long ((us.toInt64) + (w.toInt64))), (.long (134217728 : Int64)), (.ref b2), (.int (0 : Int32)), (.ref b1)])) rfl rfl (hb hby d7_130) _ ?_
        rw [len_of S44 N44_]
        show Steps p.tables e below (T42.setTop (mkF m 131 #[.val (.ref a1), .val (.int w), .val (.int (0 : Int32)), .val (.int us), .val (.int fr)] [(.int z), (.long (2 : Int64)), (.long ((us.toInt64) + (w.toInt64))), (.long (134217728 : Int64)), (.ref b2), (.int (0 : Int32)), (.ref b1)])) _
        refine XS.i2l X42.here hx rfl (hb hby d7_131) rfl ?_
        show Steps p.tables e below (T42.setTop (mkF m 132 #[.val (.ref a1), .val (.int w), .val (.int (0 : Int32)), .val (.int us), .val (.int fr)] [(.long (z.toInt64)), (.long (2 : Int64)), (.long ((us.toInt64) + (w.toInt64))), (.long (134217728 : Int64)), (.ref b2), (.int (0 : Int32)), (.ref b1)])) _
        refine XS.lmul X42.here hx rfl (hb hby d7_132) rfl ?_
        show Steps p.tables e below (T42.setTop (mkF m 133 #[.val (.ref a1), .val (.int w), .val (.int (0 : Int32)), .val (.int us), .val (.int fr)] [(.long ((2 : Int64) * (z.toInt64))), (.long ((us.toInt64) + (w.toInt64))), (.long (134217728 : Int64)), (.ref b2), (.int (0 : Int32)), (.ref b1)])) _
        refine st45 _ ?_
        show Steps p.tables e below (T45.setTop (mkF m 136 #[.val (.ref a1), .val (.int w), .val (.int (0 : Int32)), .val (.int us), .val (.int fr)] [(.long (if (lcmpW ((us.toInt64) + (w.toInt64)) ((2 : Int64) * (z.toInt64))) < (0 : Int32) then ((2 : Int64) * (z.toInt64)) else ((us.toInt64) + (w.toInt64)))), (.long (134217728 : Int64)), (.ref b2), (.int (0 : Int32)), (.ref b1)])) _
        rw [h_mx]
        show Steps p.tables e below (T45.setTop (mkF m 136 #[.val (.ref a1), .val (.int w), .val (.int (0 : Int32)), .val (.int us), .val (.int fr)] [(.long mx), (.long (134217728 : Int64)), (.ref b2), (.int (0 : Int32)), (.ref b1)])) _
        refine st46 _ ?_
        show Steps p.tables e below (T46.setTop (mkF m 139 #[.val (.ref a1), .val (.int w), .val (.int (0 : Int32)), .val (.int us), .val (.int fr)] [(.long (if (0 : Int32) < (lcmpW (134217728 : Int64) mx) then mx else (134217728 : Int64))), (.ref b2), (.int (0 : Int32)), (.ref b1)])) _
        rw [h_mm]
        show Steps p.tables e below (T46.setTop (mkF m 139 #[.val (.ref a1), .val (.int w), .val (.int (0 : Int32)), .val (.int us), .val (.int fr)] [(.long mm), (.ref b2), (.int (0 : Int32)), (.ref b1)])) _
        refine XS.l2i X46.here hx rfl (hb hby d7_139) rfl ?_
        show Steps p.tables e below (T46.setTop (mkF m 140 #[.val (.ref a1), .val (.int w), .val (.int (0 : Int32)), .val (.int us), .val (.int fr)] [(.int (mm.toInt32)), (.ref b2), (.int (0 : Int32)), (.ref b1)])) _
        rw [h_nz]
        show Steps p.tables e below (T46.setTop (mkF m 140 #[.val (.ref a1), .val (.int w), .val (.int (0 : Int32)), .val (.int us), .val (.int fr)] [(.int nz), (.ref b2), (.int (0 : Int32)), (.ref b1)])) _
        refine st47 _ ?_
        show Steps p.tables e below (T47.setTop (mkF m 143 #[.val (.ref a1), .val (.int w), .val (.int (0 : Int32)), .val (.int us), .val (.int fr)] [(.ref b47), (.int (0 : Int32)), (.ref b1)])) _
        refine st50 _ ?_
        show Steps p.tables e below (T50.setTop (mkF m 144 #[.val (.ref a1), .val (.int w), .val (.int (0 : Int32)), .val (.int us), .val (.int fr)] [])) _
        exact X50.returnOut hx Bd.returns (hb hby d7_144) hr
      · show own_Room Z b1 b2 k1 (len.toInt + w.toInt) z f h0 n0 _ T50.heap _
        rw [e50]
        exact ⟨rfl, N50, KP50, b47, _, nz, _, V50, Fx51, Or.inr sz_b47, by omega, by omega, by omega, fun i hi => if_pos hi⟩
    · -- pc 46: not fr < mn
      have d_hc33_34 := hc33_34; rw [Int32.lt_iff_toInt_lt] at d_hc33_34
      have d_hc46_37 := hc46_37; rw [Int32.lt_iff_toInt_lt] at d_hc46_37
      obtain ⟨fs, hr, hrun, hended, hW, hsame⟩ := X36.leave (v := none) (fun _ => rfl)
      refine ⟨_, _, ck38 _ ?_, hrun, hended, _, _, rfl, ?_, ⟨_, rfl⟩, hW, hsame.mono (by decide) (by decide)⟩
      · show Steps p.tables e below (T36.setTop (mkF m 46 #[.val (.ref a1), .val (.int w), .val (.int (0 : Int32)), .val (.int us), .val (.int fr)] [(.int mn), (.int fr)])) _
        refine XS.icmpNo X36.here hx rfl (hb hby d7_46) rfl (flt hc46_37).1 ?_
        show Steps p.tables e below (T36.setTop (mkF m 49 #[.val (.ref a1), .val (.int w), .val (.int (0 : Int32)), .val (.int us), .val (.int fr)] [])) _
        exact X36.returnOut hx Bd.returns (hb hby d7_49) hr
      · show own_Room Z b1 b2 k1 (len.toInt + w.toInt) z f h0 n0 _ T36.heap _
        rw [e36]
        exact ⟨rfl, N36, Keep.refl _ _, b2, k2, z, f, A_1, B_2, Or.inl rfl, by omega, by omega, by omega, fun _ _ => rfl⟩
  · -- pc 33: not (0 : Int32) < fr
    have d_hc33_34 := hc33_34; rw [Int32.lt_iff_toInt_lt] at d_hc33_34
    have z32 : (0 : Int32).toInt = 0 := by decide
    have hg := hgr (by omega)
    obtain ⟨T52, X52, e52, st52⟩ := getF X31 hx hZ hown (host := "") (Or.inl (hw _ (List.mem_of_getElem? (i := 28) rfl))) Via.refl e31 F_c (g := (mkF m 103 #[.val (.ref a1), .val (.int w), .val (.int (0 : Int32)), .val (.int us), .val (.int fr)] [(.ref a1)])) rfl rfl (hb hby d7_103)
    obtain ⟨T53, X53, e53, st53⟩ := getF X52 hx hZ hown (host := "") (Or.inl (hw _ (List.mem_of_getElem? (i := 28) rfl))) Via.refl e52 F_c (g := (mkF m 108 #[.val (.ref a1), .val (.int w), .val (.int (0 : Int32)), .val (.int us), .val (.int fr)] [(.ref a1), (.int (0 : Int32)), (.ref b1)])) rfl rfl (hb hby d7_108)
    have Vc54 := A_1
    obtain ⟨cl54, Ar54, q54, S54, N54_, H54_, G54⟩ := Vc54
    have hin54 : ¬ ((0 : Int32) < 0 ∨ cl54.slots.size ≤ ((0 : Int32)).toNatClampNeg) := inb_of S54 ⟨by decide, by decide⟩
    have hat54 : cl54.slots[((0 : Int32)).toNatClampNeg]? = some (.ref b2) := Has.at H54_ hin54 rfl
    obtain ⟨T55, X55, e55, st55⟩ := getF X53 hx hZ hown (host := "") (Or.inl (hw _ (List.mem_of_getElem? (i := 28) rfl))) Via.refl e53 F_c (g := (mkF m 125 #[.val (.ref a1), .val (.int w), .val (.int (0 : Int32)), .val (.int us), .val (.int fr)] [(.ref a1), (.long (2 : Int64)), (.long ((us.toInt64) + (w.toInt64))), (.long (134217728 : Int64)), (.ref b2), (.int (0 : Int32)), (.ref b1)])) rfl rfl (hb hby d7_125)
    have Vc56 := A_1
    obtain ⟨cl56, Ar56, q56, S56, N56_, H56_, G56⟩ := Vc56
    have hin56 : ¬ ((0 : Int32) < 0 ∨ cl56.slots.size ≤ ((0 : Int32)).toNatClampNeg) := inb_of S56 ⟨by decide, by decide⟩
    have hat56 : cl56.slots[((0 : Int32)).toNatClampNeg]? = some (.ref b2) := Has.at H56_ hin56 rfl
    have Vc57 := B_2
    obtain ⟨cl57, Ar57, q57, S57, N57_, H57_, G57⟩ := Vc57
    obtain ⟨_, _, ⟨T58, L58, k58, n58⟩, -, X58, ⟨Lc58, hQ58, l58, y58, z58⟩, st58⟩ := Jvm.LawKit.callS X55 hx (y := (⟨"java/lang/Math", "max", "(JJ)J"⟩ : MethodName)) hown (mvT hZ (hw _ (List.mem_of_getElem? (i := 19) rfl))) (mvT hZ (hw _ (List.mem_of_getElem? (i := 20) rfl))) (mvT hZ (hw _ (List.mem_of_getElem? (i := 21) rfl))) (mvT hZ (hw _ (List.mem_of_getElem? (i := 22) rfl))) (by decide) (backOf (W := 5) (rm_maxJ l Z a0 hw [] ((us.toInt64) + (w.toInt64)) ((2 : Int64) * (z.toInt64)) h0 n0 Z0 (if (lcmpW ((us.toInt64) + (w.toInt64)) ((2 : Int64) * (z.toInt64))) < (0 : Int32) then ((2 : Int64) * (z.toInt64)) else ((us.toInt64) + (w.toInt64))) rfl) hZ (hw _ (List.mem_of_getElem? (i := 22) rfl)) (hw _ (List.mem_of_getElem? (i := 21) rfl)) (by decide) (by decide)) (g := (mkF m 133 #[.val (.ref a1), .val (.int w), .val (.int (0 : Int32)), .val (.int us), .val (.int fr)] [(.long ((2 : Int64) * (z.toInt64))), (.long ((us.toInt64) + (w.toInt64))), (.long (134217728 : Int64)), (.ref b2), (.int (0 : Int32)), (.ref b1)])) rfl (by rw [hml]; rfl) (argsL := [(.long ((us.toInt64) + (w.toInt64))), (.long ((2 : Int64) * (z.toInt64)))]) (rest := [(.long (134217728 : Int64)), (.ref b2), (.int (0 : Int32)), (.ref b1)]) (lenOf pd_58 rfl) rfl (by show 2 * 0 + _ ≤ _; exact Nat.le_of_eq rfl) (hb hby d7_133) (fun _ _ => ⟨rfl, e55, (by decide : 0 + 0 ≤ _), (by decide : 0 + 0 ≤ _)⟩)
    dsimp only [Pt.U, Pt.locs, Pt.cells, Pt.slots] at X58 l58 y58 z58 st58 hQ58
    subst l58 y58 z58
    obtain ⟨rfl, N58q, e58⟩ := hQ58
    have N58 := Fr.app N0 N58q
    obtain ⟨mx, h_mx⟩ : ∃ zQ : Int64, (if (lcmpW ((us.toInt64) + (w.toInt64)) ((2 : Int64) * (z.toInt64))) < (0 : Int32) then ((2 : Int64) * (z.toInt64)) else ((us.toInt64) + (w.toInt64))) = zQ := ⟨_, rfl⟩
    obtain ⟨_, _, ⟨T59, L59, k59, n59⟩, -, X59, ⟨Lc59, hQ59, l59, y59, z59⟩, st59⟩ := Jvm.LawKit.callS X58 hx (y := (⟨"java/lang/Math", "min", "(JJ)J"⟩ : MethodName)) hown (mvT hZ (hw _ (List.mem_of_getElem? (i := 23) rfl))) (mvT hZ (hw _ (List.mem_of_getElem? (i := 24) rfl))) (mvT hZ (hw _ (List.mem_of_getElem? (i := 21) rfl))) (mvT hZ (hw _ (List.mem_of_getElem? (i := 25) rfl))) (by decide) (backOf (W := 3) (rm_minJ l Z a0 hw [] (134217728 : Int64) mx h0 n0 Z0 (if (0 : Int32) < (lcmpW (134217728 : Int64) mx) then mx else (134217728 : Int64)) rfl) hZ (hw _ (List.mem_of_getElem? (i := 25) rfl)) (hw _ (List.mem_of_getElem? (i := 21) rfl)) (by decide) (by decide)) (g := (mkF m 136 #[.val (.ref a1), .val (.int w), .val (.int (0 : Int32)), .val (.int us), .val (.int fr)] [(.long mx), (.long (134217728 : Int64)), (.ref b2), (.int (0 : Int32)), (.ref b1)])) rfl (by rw [hml]; rfl) (argsL := [(.long (134217728 : Int64)), (.long mx)]) (rest := [(.ref b2), (.int (0 : Int32)), (.ref b1)]) (lenOf pd_58 rfl) rfl (by show 2 * 0 + _ ≤ _; exact Nat.le_of_eq rfl) (hb hby d7_136) (fun _ _ => ⟨rfl, e58, (by decide : 0 + 0 ≤ _), (by decide : 0 + 0 ≤ _)⟩)
    dsimp only [Pt.U, Pt.locs, Pt.cells, Pt.slots] at X59 l59 y59 z59 st59 hQ59
    subst l59 y59 z59
    obtain ⟨rfl, N59q, e59⟩ := hQ59
    have N59 := Fr.app N58 N59q
    obtain ⟨mm, h_mm⟩ : ∃ zQ : Int64, (if (0 : Int32) < (lcmpW (134217728 : Int64) mx) then mx else (134217728 : Int64)) = zQ := ⟨_, rfl⟩
    obtain ⟨nz, h_nz⟩ : ∃ zQ : Int32, (mm.toInt32) = zQ := ⟨_, rfl⟩
    have hnz : nz.toInt = 2 * z.toInt := by rw [← h_nz, ← h_mm, ← h_mx]; exact own_nz2 hus hu hwt hz hg.1 hg.2
    obtain ⟨_, _, ⟨T60, L60, k60, n60⟩, -, X60, ⟨Lc60, hQ60, l60, y60, z60⟩, st60⟩ := Jvm.LawKit.callS X59 hx (y := (⟨"java/util/Arrays", "copyOf", "([BI)[B"⟩ : MethodName)) hown (mvT hZ (hw _ (List.mem_of_getElem? (i := 62) rfl))) (mvT hZ (hw _ (List.mem_of_getElem? (i := 63) rfl))) (mvT hZ (hw _ (List.mem_of_getElem? (i := 64) rfl))) (mvT hZ (hw _ (List.mem_of_getElem? (i := 65) rfl))) (by decide) (backOf (W := 2) (rm_copy l Z a0 hw [] b2 nz h0 n0 Z0 k2 z f B_2 (own_c1 hnz hz) (own_c2 hnz hz) (own_nn (by omega)) (own_cap (own_nn (by omega)) (by omega)) (own_nn (by omega)) (by omega)) hZ (hw _ (List.mem_of_getElem? (i := 65) rfl)) (hw _ (List.mem_of_getElem? (i := 64) rfl)) (by decide) (by decide)) (g := (mkF m 140 #[.val (.ref a1), .val (.int w), .val (.int (0 : Int32)), .val (.int us), .val (.int fr)] [(.int nz), (.ref b2), (.int (0 : Int32)), (.ref b1)])) rfl (by rw [hml]; rfl) (argsL := [(.ref b2), (.int nz)]) (rest := [(.int (0 : Int32)), (.ref b1)]) (lenOf pd_126 rfl) rfl (by show 2 * 0 + _ ≤ _; exact Nat.le_of_eq rfl) (hb hby d7_140) (fun _ _ => ⟨rfl, e59, (by decide : 0 + 1 ≤ _), (by decide : 0 + 16384 ≤ _)⟩)
    dsimp only [Pt.U, Pt.locs, Pt.cells, Pt.slots] at X60 l60 y60 z60 st60 hQ60
    subst l60 y60 z60
    obtain ⟨b60, k60, rfl, N60q, E60, g60, V60, Ea60⟩ := hQ60
    have N60 := Fr.app N59 N60q
    have sz_b60 : h0.size ≤ b60 := g60
    have gn_b60 : n0 ≤ b60 := Nat.le_trans Z0 sz_b60
    have ne_a1_b60 : a1 ≠ b60 := Nat.ne_of_lt (Nat.lt_of_lt_of_le E_a.lt g60)
    have ne_b1_b60 : b1 ≠ b60 := Nat.ne_of_lt (Nat.lt_of_lt_of_le A_1.lt g60)
    have ne_b2_b60 : b2 ≠ b60 := Nat.ne_of_lt (Nat.lt_of_lt_of_le B_2.lt g60)
    have e60 : T60.heap = T60.heap := rfl
    have EX60 := own_ext_trans (own_ext_refl h0) E60
    have KP60 := Keep.ext (Keep.refl h0 [b1]) E60
    have Fx61 := (A_1.ext E60)
    have Vc62 := Fx61
    obtain ⟨cl62, Ar62, q62, S62, N62_, H62_, G62⟩ := Vc62
    have hin62 : ¬ ((0 : Int32) < 0 ∨ cl62.slots.size ≤ ((0 : Int32)).toNatClampNeg) := inb_of S62 ⟨by decide, by decide⟩
    obtain ⟨T63, h63, X63, e63, W63, st63⟩ := stR X60 hx hZ e60 Ar62 (j := (0 : Int32)) hin62 rfl (Sto.ofVA Ar62 q62 O_1 (Ins.self Ea60)) (g := (mkF m 143 #[.val (.ref a1), .val (.int w), .val (.int (0 : Int32)), .val (.int us), .val (.int fr)] [(.ref b60), (.int (0 : Int32)), (.ref b1)])) rfl rfl (hb hby d7_143)
    have KP63 := Keep.wr KP60 W63 (Or.inl (List.mem_of_getElem? (i := 0) rfl))
    have V63 : Arv Z h63 b1 k1 (.array .byte) (1 : Int32) [(.ref b60)] .null := Arv.set Ar62 q62 S62 N62_ H62_ G62 rfl W63 0 rfl (Nat.le_of_ble_eq_true rfl)
    have N63 := Fr.snoc X63 N60 gn_1
    have Fx64 := (V60.other W63 (Ne.symm ne_b1_b60))
    obtain ⟨fs, hr, hrun, hended, hW, hsame⟩ := X63.leave (v := none) (fun _ => rfl)
    refine ⟨_, _, ck35 _ ?_, hrun, hended, _, _, rfl, ?_, ⟨_, rfl⟩, hW, hsame.mono (by decide) (by decide)⟩
    · show Steps p.tables e below (T31.setTop (mkF m 33 #[.val (.ref a1), .val (.int w), .val (.int (0 : Int32)), .val (.int us), .val (.int fr)] [(.int fr)])) _
      refine XS.ifYes X31.here hx rfl (pc0 := 33) (pc' := 50) rfl (hb hby d7_33) rfl ((if0 _ _).trans (flt hc33_34).2.2.2) (by decide) (by decide) ?_
      show Steps p.tables e below (T31.setTop (mkF m 50 #[.val (.ref a1), .val (.int w), .val (.int (0 : Int32)), .val (.int us), .val (.int fr)] [])) _
      refine XS.iloadN X31.here hx rfl (hb hby d7_50) rfl ?_
      show Steps p.tables e below (T31.setTop (mkF m 51 #[.val (.ref a1), .val (.int w), .val (.int (0 : Int32)), .val (.int us), .val (.int fr)] [(.int us)])) _
      refine X31.ldcInt hx hown (mvT hZ (hw _ (List.mem_of_getElem? (i := 42) rfl))) (g := (mkF m 51 #[.val (.ref a1), .val (.int w), .val (.int (0 : Int32)), .val (.int us), .val (.int fr)] [(.int us)])) rfl (hb hby d7_51) _ ?_
      show Steps p.tables e below (T31.setTop (mkF m 53 #[.val (.ref a1), .val (.int w), .val (.int (0 : Int32)), .val (.int us), .val (.int fr)] [(.int (134217728 : Int32)), (.int us)])) _
      refine XS.icmpYes X31.here hx rfl (pc0 := 53) (pc' := 102) rfl (hb hby d7_53) rfl (feq (own_nc hus hu)).2 (by decide) (by decide) ?_
      show Steps p.tables e below (T31.setTop (mkF m 102 #[.val (.ref a1), .val (.int w), .val (.int (0 : Int32)), .val (.int us), .val (.int fr)] [])) _
      refine XS.aloadN X31.here hx rfl (hb hby d7_102) rfl rfl ?_
      show Steps p.tables e below (T31.setTop (mkF m 103 #[.val (.ref a1), .val (.int w), .val (.int (0 : Int32)), .val (.int us), .val (.int fr)] [(.ref a1)])) _
      refine st52 _ ?_
      show Steps p.tables e below (T52.setTop (mkF m 106 #[.val (.ref a1), .val (.int w), .val (.int (0 : Int32)), .val (.int us), .val (.int fr)] [(.ref b1)])) _
      refine XS.iloadN X52.here hx rfl (hb hby d7_106) rfl ?_
      show Steps p.tables e below (T52.setTop (mkF m 107 #[.val (.ref a1), .val (.int w), .val (.int (0 : Int32)), .val (.int us), .val (.int fr)] [(.int (0 : Int32)), (.ref b1)])) _
      refine XS.aloadN X52.here hx rfl (hb hby d7_107) rfl rfl ?_
      show Steps p.tables e below (T52.setTop (mkF m 108 #[.val (.ref a1), .val (.int w), .val (.int (0 : Int32)), .val (.int us), .val (.int fr)] [(.ref a1), (.int (0 : Int32)), (.ref b1)])) _
      refine st53 _ ?_
      show Steps p.tables e below (T53.setTop (mkF m 111 #[.val (.ref a1), .val (.int w), .val (.int (0 : Int32)), .val (.int us), .val (.int fr)] [(.ref b1), (.int (0 : Int32)), (.ref b1)])) _
      refine XS.iloadN X53.here hx rfl (hb hby d7_111) rfl ?_
      show Steps p.tables e below (T53.setTop (mkF m 112 #[.val (.ref a1), .val (.int w), .val (.int (0 : Int32)), .val (.int us), .val (.int fr)] [(.int (0 : Int32)), (.ref b1), (.int (0 : Int32)), (.ref b1)])) _
      refine X53.aaload hx (j := (0 : Int32)) (v := (.ref b2)) (by rw [e53]; exact Ar54.1) (State.isArrayOf_alike hZ.alike Ar54.2.1) rfl Ar54.2.2 hin54 hat54 (g := (mkF m 112 #[.val (.ref a1), .val (.int w), .val (.int (0 : Int32)), .val (.int us), .val (.int fr)] [(.int (0 : Int32)), (.ref b1), (.int (0 : Int32)), (.ref b1)])) rfl rfl (hb hby d7_112) _ ?_
      show Steps p.tables e below (T53.setTop (mkF m 113 #[.val (.ref a1), .val (.int w), .val (.int (0 : Int32)), .val (.int us), .val (.int fr)] [(.ref b2), (.int (0 : Int32)), (.ref b1)])) _
      refine X53.ldc2Long hx hown (mvT hZ (hw _ (List.mem_of_getElem? (i := 17) rfl))) (g := (mkF m 113 #[.val (.ref a1), .val (.int w), .val (.int (0 : Int32)), .val (.int us), .val (.int fr)] [(.ref b2), (.int (0 : Int32)), (.ref b1)])) rfl (hb hby d7_113) _ ?_
      show Steps p.tables e below (T53.setTop (mkF m 116 #[.val (.ref a1), .val (.int w), .val (.int (0 : Int32)), .val (.int us), .val (.int fr)] [(.long (134217728 : Int64)), (.ref b2), (.int (0 : Int32)), (.ref b1)])) _
      refine XS.iloadN X53.here hx rfl (hb hby d7_116) rfl ?_
      show Steps p.tables e below (T53.setTop (mkF m 117 #[.val (.ref a1), .val (.int w), .val (.int (0 : Int32)), .val (.int us), .val (.int fr)] [(.int us), (.long (134217728 : Int64)), (.ref b2), (.int (0 : Int32)), (.ref b1)])) _
      refine XS.i2l X53.here hx rfl (hb hby d7_117) rfl ?_
      show Steps p.tables e below (T53.setTop (mkF m 118 #[.val (.ref a1), .val (.int w), .val (.int (0 : Int32)), .val (.int us), .val (.int fr)] [(.long (us.toInt64)), (.long (134217728 : Int64)), (.ref b2), (.int (0 : Int32)), (.ref b1)])) _
      refine XS.iloadN X53.here hx rfl (hb hby d7_118) rfl ?_
      show Steps p.tables e below (T53.setTop (mkF m 119 #[.val (.ref a1), .val (.int w), .val (.int (0 : Int32)), .val (.int us), .val (.int fr)] [(.int w), (.long (us.toInt64)), (.long (134217728 : Int64)), (.ref b2), (.int (0 : Int32)), (.ref b1)])) _
      refine XS.i2l X53.here hx rfl (hb hby d7_119) rfl ?_
      show Steps p.tables e below (T53.setTop (mkF m 120 #[.val (.ref a1), .val (.int w), .val (.int (0 : Int32)), .val (.int us), .val (.int fr)] [(.long (w.toInt64)), (.long (us.toInt64)), (.long (134217728 : Int64)), (.ref b2), (.int (0 : Int32)), (.ref b1)])) _
      refine XS.ladd X53.here hx rfl (hb hby d7_120) rfl ?_
      show Steps p.tables e below (T53.setTop (mkF m 121 #[.val (.ref a1), .val (.int w), .val (.int (0 : Int32)), .val (.int us), .val (.int fr)] [(.long ((us.toInt64) + (w.toInt64))), (.long (134217728 : Int64)), (.ref b2), (.int (0 : Int32)), (.ref b1)])) _
      refine X53.ldc2Long hx hown (mvT hZ (hw _ (List.mem_of_getElem? (i := 61) rfl))) (g := (mkF m 121 #[.val (.ref a1), .val (.int w), .val (.int (0 : Int32)), .val (.int us), .val (.int fr)] [(.long ((us.toInt64) + (w.toInt64))), (.long (134217728 : Int64)), (.ref b2), (.int (0 : Int32)), (.ref b1)])) rfl (hb hby d7_121) _ ?_
      show Steps p.tables e below (T53.setTop (mkF m 124 #[.val (.ref a1), .val (.int w), .val (.int (0 : Int32)), .val (.int us), .val (.int fr)] [(.long (2 : Int64)), (.long ((us.toInt64) + (w.toInt64))), (.long (134217728 : Int64)), (.ref b2), (.int (0 : Int32)), (.ref b1)])) _
      refine XS.aloadN X53.here hx rfl (hb hby d7_124) rfl rfl ?_
      show Steps p.tables e below (T53.setTop (mkF m 125 #[.val (.ref a1), .val (.int w), .val (.int (0 : Int32)), .val (.int us), .val (.int fr)] [(.ref a1), (.long (2 : Int64)), (.long ((us.toInt64) + (w.toInt64))), (.long (134217728 : Int64)), (.ref b2), (.int (0 : Int32)), (.ref b1)])) _
      refine st55 _ ?_
      show Steps p.tables e below (T55.setTop (mkF m 128 #[.val (.ref a1), .val (.int w), .val (.int (0 : Int32)), .val (.int us), .val (.int fr)] [(.ref b1), (.long (2 : Int64)), (.long ((us.toInt64) + (w.toInt64))), (.long (134217728 : Int64)), (.ref b2), (.int (0 : Int32)), (.ref b1)])) _
      refine XS.iloadN X55.here hx rfl (hb hby d7_128) rfl ?_
      show Steps p.tables e below (T55.setTop (mkF m 129 #[.val (.ref a1), .val (.int w), .val (.int (0 : Int32)), .val (.int us), .val (.int fr)] [(.int (0 : Int32)), (.ref b1), (.long (2 : Int64)), (.long ((us.toInt64) + (w.toInt64))), (.long (134217728 : Int64)), (.ref b2), (.int (0 : Int32)), (.ref b1)])) _
      refine X55.aaload hx (j := (0 : Int32)) (v := (.ref b2)) (by rw [e55]; exact Ar56.1) (State.isArrayOf_alike hZ.alike Ar56.2.1) rfl Ar56.2.2 hin56 hat56 (g := (mkF m 129 #[.val (.ref a1), .val (.int w), .val (.int (0 : Int32)), .val (.int us), .val (.int fr)] [(.int (0 : Int32)), (.ref b1), (.long (2 : Int64)), (.long ((us.toInt64) + (w.toInt64))), (.long (134217728 : Int64)), (.ref b2), (.int (0 : Int32)), (.ref b1)])) rfl rfl (hb hby d7_129) _ ?_
      show Steps p.tables e below (T55.setTop (mkF m 130 #[.val (.ref a1), .val (.int w), .val (.int (0 : Int32)), .val (.int us), .val (.int fr)] [(.ref b2), (.long (2 : Int64)), (.long ((us.toInt64) + (w.toInt64))), (.long (134217728 : Int64)), (.ref b2), (.int (0 : Int32)), (.ref b1)])) _
      refine X55.arraylength hx (by rw [e55]; exact Ar57.1) (State.isArrayOf_alike hZ.alike Ar57.2.1) (g := (mkF m 130 #[.val (.ref a1), .val (.int w), .val (.int (0 : Int32)), .val (.int us), .val (.int fr)] [(.ref b2), (.long (2 : Int64)), (.long ((us.toInt64) + (w.toInt64))), (.long (134217728 : Int64)), (.ref b2), (.int (0 : Int32)), (.ref b1)])) rfl rfl (hb hby d7_130) _ ?_
      rw [len_of S57 N57_]
      show Steps p.tables e below (T55.setTop (mkF m 131 #[.val (.ref a1), .val (.int w), .val (.int (0 : Int32)), .val (.int us), .val (.int fr)] [(.int z), (.long (2 : Int64)), (.long ((us.toInt64) + (w.toInt64))), (.long (134217728 : Int64)), (.ref b2), (.int (0 : Int32)), (.ref b1)])) _
      refine XS.i2l X55.here hx rfl (hb hby d7_131) rfl ?_
      show Steps p.tables e below (T55.setTop (mkF m 132 #[.val (.ref a1), .val (.int w), .val (.int (0 : Int32)), .val (.int us), .val (.int fr)] [(.long (z.toInt64)), (.long (2 : Int64)), (.long ((us.toInt64) + (w.toInt64))), (.long (134217728 : Int64)), (.ref b2), (.int (0 : Int32)), (.ref b1)])) _
      refine XS.lmul X55.here hx rfl (hb hby d7_132) rfl ?_
      show Steps p.tables e below (T55.setTop (mkF m 133 #[.val (.ref a1), .val (.int w), .val (.int (0 : Int32)), .val (.int us), .val (.int fr)] [(.long ((2 : Int64) * (z.toInt64))), (.long ((us.toInt64) + (w.toInt64))), (.long (134217728 : Int64)), (.ref b2), (.int (0 : Int32)), (.ref b1)])) _
      refine st58 _ ?_
      show Steps p.tables e below (T58.setTop (mkF m 136 #[.val (.ref a1), .val (.int w), .val (.int (0 : Int32)), .val (.int us), .val (.int fr)] [(.long (if (lcmpW ((us.toInt64) + (w.toInt64)) ((2 : Int64) * (z.toInt64))) < (0 : Int32) then ((2 : Int64) * (z.toInt64)) else ((us.toInt64) + (w.toInt64)))), (.long (134217728 : Int64)), (.ref b2), (.int (0 : Int32)), (.ref b1)])) _
      rw [h_mx]
      show Steps p.tables e below (T58.setTop (mkF m 136 #[.val (.ref a1), .val (.int w), .val (.int (0 : Int32)), .val (.int us), .val (.int fr)] [(.long mx), (.long (134217728 : Int64)), (.ref b2), (.int (0 : Int32)), (.ref b1)])) _
      refine st59 _ ?_
      show Steps p.tables e below (T59.setTop (mkF m 139 #[.val (.ref a1), .val (.int w), .val (.int (0 : Int32)), .val (.int us), .val (.int fr)] [(.long (if (0 : Int32) < (lcmpW (134217728 : Int64) mx) then mx else (134217728 : Int64))), (.ref b2), (.int (0 : Int32)), (.ref b1)])) _
      rw [h_mm]
      show Steps p.tables e below (T59.setTop (mkF m 139 #[.val (.ref a1), .val (.int w), .val (.int (0 : Int32)), .val (.int us), .val (.int fr)] [(.long mm), (.ref b2), (.int (0 : Int32)), (.ref b1)])) _
      refine XS.l2i X59.here hx rfl (hb hby d7_139) rfl ?_
      show Steps p.tables e below (T59.setTop (mkF m 140 #[.val (.ref a1), .val (.int w), .val (.int (0 : Int32)), .val (.int us), .val (.int fr)] [(.int (mm.toInt32)), (.ref b2), (.int (0 : Int32)), (.ref b1)])) _
      rw [h_nz]
      show Steps p.tables e below (T59.setTop (mkF m 140 #[.val (.ref a1), .val (.int w), .val (.int (0 : Int32)), .val (.int us), .val (.int fr)] [(.int nz), (.ref b2), (.int (0 : Int32)), (.ref b1)])) _
      refine st60 _ ?_
      show Steps p.tables e below (T60.setTop (mkF m 143 #[.val (.ref a1), .val (.int w), .val (.int (0 : Int32)), .val (.int us), .val (.int fr)] [(.ref b60), (.int (0 : Int32)), (.ref b1)])) _
      refine st63 _ ?_
      show Steps p.tables e below (T63.setTop (mkF m 144 #[.val (.ref a1), .val (.int w), .val (.int (0 : Int32)), .val (.int us), .val (.int fr)] [])) _
      exact X63.returnOut hx Bd.returns (hb hby d7_144) hr
    · show own_Room Z b1 b2 k1 (len.toInt + w.toInt) z f h0 n0 _ T63.heap _
      rw [e63]
      exact ⟨rfl, N63, KP63, b60, _, nz, _, V63, Fx64, Or.inr sz_b60, by omega, by omega, by omega, fun i hi => if_pos hi⟩
theorem d6_0 : decode prog_20_method_8_code 0 = .ok (.iconst 0, 1) := by decide +kernel
theorem d6_1 : decode prog_20_method_8_code 1 = .ok (.istore 4, 2) := by decide +kernel
theorem d6_3 : decode prog_20_method_8_code 3 = .ok (.iload 4, 2) := by decide +kernel
theorem d6_5 : decode prog_20_method_8_code 5 = .ok (.iload_n 3, 1) := by decide +kernel
theorem d6_6 : decode prog_20_method_8_code 6 = .ok (.if_icmp .ge 86, 3) := by decide +kernel
theorem d6_9 : decode prog_20_method_8_code 9 = .ok (.aload_n 0, 1) := by decide +kernel
theorem d6_10 : decode prog_20_method_8_code 10 = .ok (.iload_n 3, 1) := by decide +kernel
theorem d6_11 : decode prog_20_method_8_code 11 = .ok (.iload 4, 2) := by decide +kernel
theorem d6_13 : decode prog_20_method_8_code 13 = .ok (.isub, 1) := by decide +kernel
theorem pd_140 : parseMethodDescriptor "(I)V" = some ⟨[.int], none⟩ := by decide +kernel
theorem d6_14 : decode prog_20_method_8_code 14 = .ok (.invokevirtual 38, 3) := by decide +kernel
theorem d6_17 : decode prog_20_method_8_code 17 = .ok (.aload_n 0, 1) := by decide +kernel
theorem d6_18 : decode prog_20_method_8_code 18 = .ok (.getfield 27, 3) := by decide +kernel
theorem d6_21 : decode prog_20_method_8_code 21 = .ok (.aload_n 0, 1) := by decide +kernel
theorem d6_22 : decode prog_20_method_8_code 22 = .ok (.getfield 27, 3) := by decide +kernel
theorem d6_25 : decode prog_20_method_8_code 25 = .ok (.arraylength, 1) := by decide +kernel
theorem d6_26 : decode prog_20_method_8_code 26 = .ok (.iconst 1, 1) := by decide +kernel
theorem d6_27 : decode prog_20_method_8_code 27 = .ok (.isub, 1) := by decide +kernel
theorem d6_28 : decode prog_20_method_8_code 28 = .ok (.aaload, 1) := by decide +kernel
theorem d6_29 : decode prog_20_method_8_code 29 = .ok (.astore 5, 2) := by decide +kernel
theorem d6_31 : decode prog_20_method_8_code 31 = .ok (.aload_n 0, 1) := by decide +kernel
theorem d6_32 : decode prog_20_method_8_code 32 = .ok (.getfield 31, 3) := by decide +kernel
theorem d6_35 : decode prog_20_method_8_code 35 = .ok (.l2i, 1) := by decide +kernel
theorem d6_36 : decode prog_20_method_8_code 36 = .ok (.ldc 37, 2) := by decide +kernel
theorem d6_38 : decode prog_20_method_8_code 38 = .ok (.iand, 1) := by decide +kernel
theorem d6_39 : decode prog_20_method_8_code 39 = .ok (.istore 6, 2) := by decide +kernel
theorem d6_41 : decode prog_20_method_8_code 41 = .ok (.iload_n 3, 1) := by decide +kernel
theorem d6_42 : decode prog_20_method_8_code 42 = .ok (.iload 4, 2) := by decide +kernel
theorem d6_44 : decode prog_20_method_8_code 44 = .ok (.isub, 1) := by decide +kernel
theorem d6_45 : decode prog_20_method_8_code 45 = .ok (.aload 5, 2) := by decide +kernel
theorem d6_47 : decode prog_20_method_8_code 47 = .ok (.arraylength, 1) := by decide +kernel
theorem d6_48 : decode prog_20_method_8_code 48 = .ok (.iload 6, 2) := by decide +kernel
theorem d6_50 : decode prog_20_method_8_code 50 = .ok (.isub, 1) := by decide +kernel
theorem d6_51 : decode prog_20_method_8_code 51 = .ok (.invokestatic 42, 3) := by decide +kernel
theorem d6_54 : decode prog_20_method_8_code 54 = .ok (.istore 7, 2) := by decide +kernel
theorem d6_56 : decode prog_20_method_8_code 56 = .ok (.aload_n 1, 1) := by decide +kernel
theorem d6_57 : decode prog_20_method_8_code 57 = .ok (.iload_n 2, 1) := by decide +kernel
theorem d6_58 : decode prog_20_method_8_code 58 = .ok (.iload 4, 2) := by decide +kernel
theorem d6_60 : decode prog_20_method_8_code 60 = .ok (.iadd, 1) := by decide +kernel
theorem d6_61 : decode prog_20_method_8_code 61 = .ok (.aload 5, 2) := by decide +kernel
theorem d6_63 : decode prog_20_method_8_code 63 = .ok (.iload 6, 2) := by decide +kernel
theorem d6_65 : decode prog_20_method_8_code 65 = .ok (.iload 7, 2) := by decide +kernel
theorem d6_67 : decode prog_20_method_8_code 67 = .ok (.invokestatic 45, 3) := by decide +kernel
theorem d6_70 : decode prog_20_method_8_code 70 = .ok (.iload 4, 2) := by decide +kernel
theorem d6_72 : decode prog_20_method_8_code 72 = .ok (.iload 7, 2) := by decide +kernel
theorem d6_74 : decode prog_20_method_8_code 74 = .ok (.iadd, 1) := by decide +kernel
theorem d6_75 : decode prog_20_method_8_code 75 = .ok (.istore 4, 2) := by decide +kernel
theorem d6_77 : decode prog_20_method_8_code 77 = .ok (.aload_n 0, 1) := by decide +kernel
theorem d6_78 : decode prog_20_method_8_code 78 = .ok (.dup, 1) := by decide +kernel
theorem d6_79 : decode prog_20_method_8_code 79 = .ok (.getfield 31, 3) := by decide +kernel
theorem d6_82 : decode prog_20_method_8_code 82 = .ok (.iload 7, 2) := by decide +kernel
theorem d6_84 : decode prog_20_method_8_code 84 = .ok (.i2l, 1) := by decide +kernel
theorem d6_85 : decode prog_20_method_8_code 85 = .ok (.ladd, 1) := by decide +kernel
theorem d6_86 : decode prog_20_method_8_code 86 = .ok (.putfield 31, 3) := by decide +kernel
theorem d6_89 : decode prog_20_method_8_code 89 = .ok (.goto (-86), 3) := by decide +kernel
theorem d6_92 : decode prog_20_method_8_code 92 = .ok (.return_, 1) := by decide +kernel
theorem ef_rm_wrA (m : MethodId) (x0 : Addr) (x1 : Addr) (x3 : Int32) : entryFrame m #[(.ref x0), (.ref x1), (.int (0 : Int32)), (.int x3)] 8 = mkF m 0 #[.val (.ref x0), .val (.ref x1), .val (.int (0 : Int32)), .val (.int x3), .unset, .unset, .unset, .unset] [] := by first | (simp [entryFrame, mkF, argsToLocals, Value.category]; done) | rfl
set_option maxRecDepth 65536 in
set_option maxHeartbeats 40000000 in
theorem rm_wrA (l : Launch) (Z : State) (a0 : Array Value) (hw : ∀ d ∈ tables_1, d.before a0 Z = true) (ws : List Jvm.Cond) (a1 : Addr) (d1 : Addr) (n : Int32) (h0 : Heap) (n0 : Nat) (Z0 : n0 ≤ h0.size) (b1 b2 : Addr) (k1 k2 : ClassId) (z : Int32) (f : Nat → Int32) (E_a : Exa Z h0 a1 "com/example/cubelet/cubelet/Chunks") (F_c : Fld Z h0 a1 "com/example/cubelet/cubelet/Chunks" "chunks" "[[B" (.ref b1)) (F_l : Fld Z h0 a1 "com/example/cubelet/cubelet/Chunks" "length" "J" (.long (0 : Int64))) (A_1 : Arv Z h0 b1 k1 (.array .byte) (1 : Int32) [(.ref b2)] .null) (O_1 : OvrA Z k1 .byte "[B") (B_2 : own_FB Z h0 b2 k2 z f) (na1 : a1 ≠ b1) (na2 : a1 ≠ b2) (n12 : b1 ≠ b2) (gn_1 : n0 ≤ b1) (gn_a : n0 ≤ a1) (gn_2 : n0 ≤ b2) (kd : ClassId) (fd : Nat → Int32) (B_d : own_FB Z h0 d1 kd (8192 : Int32) fd) (nd1 : d1 ≠ b1) (nd2 : d1 ≠ b2) (hn : 1 ≤ n.toInt ∧ n.toInt ≤ 8192) (hz : 4096 ≤ z.toInt ∧ z.toInt ≤ 16383) (hn1 : (0 : Int32) < n) :
    MetFree l (⟨"com/example/cubelet/cubelet/Chunks", "write", "([BII)V"⟩ : MethodName) (head1 (Jvm.Cond.code (⟨"com/example/cubelet/cubelet/Chunks", "write", "([BII)V"⟩ : MethodName) prog_20_method_8_code 8 none :: ws) ({ frames := 3, cells := 1, slots := 16384, locals := 50 } : Room)) (fun aQ UQ => aQ = #[(.ref a1), (.ref d1), (.int (0 : Int32)), (.int n)] ∧ Z.Warmed39 UQ.vm ∧ UQ.heap = h0) (fun _ _ _ _ _ => True) (fun _ UQ oQ UR => ∃ vQ LQ, oQ = .returned vQ ∧ own_Wrote Z a1 b1 b2 k1 n.toInt (fun f' => ∀ i, i < n.toNatClampNeg → f' i = fd i) h0 n0 vQ UR.heap LQ ∧ FrameEnd UQ oQ UR LQ ({ frames := 3, cells := 1, slots := 16384, locals := 50 } : Room).cells ({ frames := 3, cells := 1, slots := 16384, locals := 50 } : Room).slots) := by
  refine MetFree.of_bodySF (plainFor_of_name pn_66) hisR ?_
  intro p e s m args below meth c s₁ Bd hml0 hP hK
  obtain ⟨rfl, hZ, hh⟩ := hP
  have hx := Bd.exec
  have hby := Bd.bytes
  have hml : c.maxLocals = 8 := hml0
  have hown : s.vm.findClass "com/example/cubelet/cubelet/Chunks" = some m.cls := findClass_of_methodNamed Bd.named
  have hnm := (name_of_methodNamed Bd.named Bd.method).1
  have X0 : Stand p l e ({ frames := 3, cells := 1, slots := 16384, locals := 50 } : Room) s m #[(.ref a1), (.ref d1), (.int (0 : Int32)), (.int n)] below meth c s₁ [] 0 0 := Stand.of_body Bd
  have e0 : s₁.heap = h0 := by rw [← hh, Bd.state]; rfl
  have N0 := Fr.nil n0
  have pre0 : ∀ t, Steps p.tables e below (s₁.setTop (mkF m 0 #[.val (.ref a1), .val (.ref d1), .val (.int (0 : Int32)), .val (.int n), .unset, .unset, .unset, .unset] [])) t → Steps p.tables e below (s₁.setTop (entryFrame m #[(.ref a1), (.ref d1), (.int (0 : Int32)), (.int n)] 8)) t := fun t kq => castTop (ef_rm_wrA m a1 d1 n) kq
  obtain ⟨cq65, q65, q65'⟩ := Exa.cell (E_a)
  obtain ⟨ci65, ki65, i65a, i65b, -, i65c, -⟩ := Cond.instantiable_spec (mvT (args := #[]) hZ (hw _ (List.mem_of_getElem? (i := 1) rfl)))
  have i65d : ki65.isInterface = false := (Bool.or_eq_false_iff.mp i65c).1
  obtain ⟨_, _, ⟨T65, L65, k65, n65⟩, -, X65, ⟨Lc65, hQ65, l65, y65, z65⟩, st65⟩ := X0.privateBack hx (y := (⟨"com/example/cubelet/cubelet/Chunks", "room", "(I)V"⟩ : MethodName)) hown (mvT hZ (hw _ (List.mem_of_getElem? (i := 36) rfl))) (mvT hZ (hw _ (List.mem_of_getElem? (i := 37) rfl))) (Jvm.Stand.selects_self_of_private i65a i65b i65d (Cond.privateMethod_at (mvP hZ (hw _ (List.mem_of_getElem? (i := 38) rfl)) (args := #[]))) (mvT hZ (hw _ (List.mem_of_getElem? (i := 37) rfl))) (by decide)) (Cond.privateMethod_at (mvP hZ (hw _ (List.mem_of_getElem? (i := 38) rfl)) (args := #[]))) (mvT hZ (hw _ (List.mem_of_getElem? (i := 39) rfl))) (by decide) (backOf (W := 0) (rm_room l Z a0 hw [] a1 n h0 n0 Z0 b1 b2 k1 k2 (0 : Int64) z f E_a F_c F_l A_1 O_1 B_2 na1 na2 n12 gn_1 (by decide) hn (by omega) (by have := own_00; intro _; constructor <;> omega)) hZ (hw _ (List.mem_of_getElem? (i := 39) rfl)) (hw _ (List.mem_of_getElem? (i := 2) rfl)) (by decide) (by decide)) (g := (mkF m 14 #[.val (.ref a1), .val (.ref d1), .val (.int (0 : Int32)), .val (.int n), .val (.int (0 : Int32)), .unset, .unset, .unset] [(.int n), (.ref a1)])) rfl (by rw [hml]; rfl) (Steps.refl _) (a := a1) (by rw [e0]; exact q65) q65' (argsL := [(.int n)]) (rest := []) (lenOf pd_140 rfl) rfl (by show 2 * 0 + _ ≤ _; exact Nat.le_of_eq rfl) (hb hby d6_14) (fun _ _ => ⟨rfl, e0, (by decide : 0 + 1 ≤ _), (by decide : 0 + 16384 ≤ _)⟩)
  dsimp only [Pt.U, Pt.locs, Pt.cells, Pt.slots] at X65 l65 y65 z65 st65 hQ65
  subst l65 y65 z65
  obtain ⟨rfl, N65q, K65, bR, kR, zR, fR, A65, V65, hb65, hr165, hr265, hr365, hff65⟩ := hQ65
  have N65 := Fr.app N0 N65q
  have e65 : T65.heap = T65.heap := rfl
  have KP65 := Keep.trans (Keep.refl h0 [a1, b1, b2]) K65 (allS (Or.inl (List.mem_of_getElem? (i := 1) rfl)) all0)
  have ne_a1_bR : a1 ≠ bR := own_ne_or hb65 na2 E_a.lt
  have ne_b1_bR : b1 ≠ bR := own_ne_or hb65 n12 A_1.lt
  have ne_d1_bR : d1 ≠ bR := own_ne_or hb65 nd2 B_d.lt
  have gn_bR : n0 ≤ bR := own_ge_or hb65 gn_2 Z0
  have me_bR : bR ∈ [a1, b1, b2] ∨ h0.size ≤ bR := own_me_or hb65
  have hzR : n.toInt ≤ zR.toInt := by have := hr165; have := own_00; omega
  have hzn : ¬ (zR < n) := by rw [Int32.lt_iff_toInt_lt]; omega
  have Fx66 := (F_c.keep K65 (ninS na1 nin0))
  obtain ⟨T67, X67, e67, st67⟩ := getF X65 hx hZ hown (host := "") (Or.inl (hw _ (List.mem_of_getElem? (i := 28) rfl))) Via.refl e65 Fx66 (g := (mkF m 18 #[.val (.ref a1), .val (.ref d1), .val (.int (0 : Int32)), .val (.int n), .val (.int (0 : Int32)), .unset, .unset, .unset] [(.ref a1)])) rfl rfl (hb hby d6_18)
  obtain ⟨T68, X68, e68, st68⟩ := getF X67 hx hZ hown (host := "") (Or.inl (hw _ (List.mem_of_getElem? (i := 28) rfl))) Via.refl e67 Fx66 (g := (mkF m 22 #[.val (.ref a1), .val (.ref d1), .val (.int (0 : Int32)), .val (.int n), .val (.int (0 : Int32)), .unset, .unset, .unset] [(.ref a1), (.ref b1)])) rfl rfl (hb hby d6_22)
  have Vc69 := A65
  obtain ⟨cl69, Ar69, q69, S69, N69_, H69_, G69⟩ := Vc69
  have Vc70 := A65
  obtain ⟨cl70, Ar70, q70, S70, N70_, H70_, G70⟩ := Vc70
  have hin70 : ¬ ((0 : Int32) < 0 ∨ cl70.slots.size ≤ ((0 : Int32)).toNatClampNeg) := inb_of S70 ⟨by decide, by decide⟩
  have hat70 : cl70.slots[((0 : Int32)).toNatClampNeg]? = some (.ref bR) := Has.at H70_ hin70 rfl
  have Fx71 := (F_l.keep K65 (ninS na1 nin0))
  obtain ⟨T72, X72, e72, st72⟩ := getF X68 hx hZ hown (host := "") (Or.inl (hw _ (List.mem_of_getElem? (i := 40) rfl))) Via.refl e68 Fx71 (g := (mkF m 32 #[.val (.ref a1), .val (.ref d1), .val (.int (0 : Int32)), .val (.int n), .val (.int (0 : Int32)), .val (.ref bR), .unset, .unset] [(.ref a1)])) rfl rfl (hb hby d6_32)
  have Vc73 := V65
  obtain ⟨cl73, Ar73, q73, S73, N73_, H73_, G73⟩ := Vc73
  obtain ⟨_, _, ⟨T74, L74, k74, n74⟩, -, X74, ⟨Lc74, hQ74, l74, y74, z74⟩, st74⟩ := Jvm.LawKit.callS X72 hx (y := (⟨"java/lang/Math", "min", "(II)I"⟩ : MethodName)) hown (mvT hZ (hw _ (List.mem_of_getElem? (i := 43) rfl))) (mvT hZ (hw _ (List.mem_of_getElem? (i := 44) rfl))) (mvT hZ (hw _ (List.mem_of_getElem? (i := 21) rfl))) (mvT hZ (hw _ (List.mem_of_getElem? (i := 45) rfl))) (by decide) (backOf (W := 0) (rm_minI l Z a0 hw [] n zR T65.heap n0 (Nat.le_trans Z0 KP65.1) (if zR < n then zR else n) rfl) hZ (hw _ (List.mem_of_getElem? (i := 45) rfl)) (hw _ (List.mem_of_getElem? (i := 21) rfl)) (by decide) (by decide)) (g := (mkF m 51 #[.val (.ref a1), .val (.ref d1), .val (.int (0 : Int32)), .val (.int n), .val (.int (0 : Int32)), .val (.ref bR), .val (.int (0 : Int32)), .unset] [(.int zR), (.int n)])) rfl (by rw [hml]; rfl) (argsL := [(.int n), (.int zR)]) (rest := []) (lenOf pd_41 rfl) rfl (by show 2 * 0 + _ ≤ _; exact Nat.le_of_eq rfl) (hb hby d6_51) (fun _ _ => ⟨rfl, e72, (by decide : 1 + 0 ≤ _), (by decide : 16384 + 0 ≤ _)⟩)
  dsimp only [Pt.U, Pt.locs, Pt.cells, Pt.slots] at X74 l74 y74 z74 st74 hQ74
  subst l74 y74 z74
  obtain ⟨rfl, N74q, e74⟩ := hQ74
  have N74 := Fr.app N65 N74q
  have Fx75 := (B_d.keep K65 (ninS nd1 nin0))
  obtain ⟨T76, h76, L76, X76, e76, N76, K76, V76, st76⟩ := own_cp X74 hx hZ hown (hw _ (List.mem_of_getElem? (i := 47) rfl)) (hw _ (List.mem_of_getElem? (i := 50) rfl)) (hw _ (List.mem_of_getElem? (i := 48) rfl)) (hw _ (List.mem_of_getElem? (i := 49) rfl)) e74 Fx75 V65 (own_nn (by omega)) (by have := own_8192; omega) hzR N74 gn_bR (g := (mkF m 67 #[.val (.ref a1), .val (.ref d1), .val (.int (0 : Int32)), .val (.int n), .val (.int (0 : Int32)), .val (.ref bR), .val (.int (0 : Int32)), .val (.int n)] [(.int n), (.int (0 : Int32)), (.ref bR), (.int (0 : Int32)), (.ref d1)])) rfl (by rw [hml]; rfl) rfl (hb hby d6_67) (by decide) (W := 0) (by show 2 * 0 + _ ≤ _; exact Nat.le_of_eq rfl) (by decide)
  have KP76 := Keep.trans KP65 K76 (allS me_bR all0)
  have Fx77 := (Fx71.keep K76 (ninS ne_a1_bR nin0))
  obtain ⟨T78, X78, e78, st78⟩ := getF X76 hx hZ hown (host := "") (Or.inl (hw _ (List.mem_of_getElem? (i := 40) rfl))) Via.refl e76 Fx77 (g := (mkF m 79 #[.val (.ref a1), .val (.ref d1), .val (.int (0 : Int32)), .val (.int n), .val (.int n), .val (.ref bR), .val (.int (0 : Int32)), .val (.int n)] [(.ref a1), (.ref a1)])) rfl rfl (hb hby d6_79)
  obtain ⟨ln, h_ln⟩ : ∃ zQ : Int64, ((0 : Int64) + (n.toInt64)) = zQ := ⟨_, rfl⟩
  have hln : ln.toInt = n.toInt := by rw [← h_ln]; exact own_ln n
  have Fx79 := ((E_a.keep K65).keep K76)
  obtain ⟨T80, h80, X80, e80, W80, st80⟩ := putF X78 hx hZ hown (host := "") (Or.inl (hw _ (List.mem_of_getElem? (i := 40) rfl))) Via.refl e78 Fx77 Fx79 (Or.inl (hw _ (List.mem_of_getElem? (i := 41) rfl))) (hw _ (List.mem_of_getElem? (i := 1) rfl)) (ty := .long) (by decide) rfl rfl (g := (mkF m 86 #[.val (.ref a1), .val (.ref d1), .val (.int (0 : Int32)), .val (.int n), .val (.int n), .val (.ref bR), .val (.int (0 : Int32)), .val (.int n)] [(.long ln), (.ref a1)])) rfl rfl (hb hby d6_86)
  have KP80 := Keep.wr KP76 W80 (Or.inl (List.mem_of_getElem? (i := 0) rfl))
  have Fw80 := Fx77.same W80
  have N80 := Fr.snoc X80 N76 gn_a
  have Fx81 := (Fx79.wr W80)
  have Fx82 := ((Fx66.keep K76 (ninS ne_a1_bR nin0)).other W80 (Or.inr (slot_ne (Or.inl (hw _ (List.mem_of_getElem? (i := 29) rfl))) (Or.inl (hw _ (List.mem_of_getElem? (i := 41) rfl))) (by decide) (t := (.array (.array .byte))) (t' := .long) (by decide) (by decide))))
  have Fx83 := ((A65.keep K76 (ninS ne_b1_bR nin0)).other W80 (Ne.symm na1))
  have Fx84 := (V76.other W80 (Ne.symm ne_a1_bR))
  obtain ⟨fs, hr, hrun, hended, hW, hsame⟩ := X80.leave (v := none) (fun _ => rfl)
  refine ⟨_, _, pre0 _ ?_, hrun, hended, _, _, rfl, ?_, ⟨_, rfl⟩, hW, hsame.mono (by decide) (by decide)⟩
  · show Steps p.tables e below (s₁.setTop (mkF m 0 #[.val (.ref a1), .val (.ref d1), .val (.int (0 : Int32)), .val (.int n), .unset, .unset, .unset, .unset] [])) _
    refine XS.iconst X0.here hx rfl (hb hby d6_0) ?_
    show Steps p.tables e below (s₁.setTop (mkF m 1 #[.val (.ref a1), .val (.ref d1), .val (.int (0 : Int32)), .val (.int n), .unset, .unset, .unset, .unset] [(.int (0 : Int32))])) _
    refine XS.istore X0.here hx rfl (hb hby d6_1) rfl (l' := #[.val (.ref a1), .val (.ref d1), .val (.int (0 : Int32)), .val (.int n), .val (.int (0 : Int32)), .unset, .unset, .unset]) rfl ?_
    show Steps p.tables e below (s₁.setTop (mkF m 3 #[.val (.ref a1), .val (.ref d1), .val (.int (0 : Int32)), .val (.int n), .val (.int (0 : Int32)), .unset, .unset, .unset] [])) _
    refine XS.iload X0.here hx rfl (hb hby d6_3) rfl ?_
    show Steps p.tables e below (s₁.setTop (mkF m 5 #[.val (.ref a1), .val (.ref d1), .val (.int (0 : Int32)), .val (.int n), .val (.int (0 : Int32)), .unset, .unset, .unset] [(.int (0 : Int32))])) _
    refine XS.iloadN X0.here hx rfl (hb hby d6_5) rfl ?_
    show Steps p.tables e below (s₁.setTop (mkF m 6 #[.val (.ref a1), .val (.ref d1), .val (.int (0 : Int32)), .val (.int n), .val (.int (0 : Int32)), .unset, .unset, .unset] [(.int n), (.int (0 : Int32))])) _
    refine XS.icmpNo X0.here hx rfl (hb hby d6_6) rfl (tlt hn1).2.1 ?_
    show Steps p.tables e below (s₁.setTop (mkF m 9 #[.val (.ref a1), .val (.ref d1), .val (.int (0 : Int32)), .val (.int n), .val (.int (0 : Int32)), .unset, .unset, .unset] [])) _
    refine XS.aloadN X0.here hx rfl (hb hby d6_9) rfl rfl ?_
    show Steps p.tables e below (s₁.setTop (mkF m 10 #[.val (.ref a1), .val (.ref d1), .val (.int (0 : Int32)), .val (.int n), .val (.int (0 : Int32)), .unset, .unset, .unset] [(.ref a1)])) _
    refine XS.iloadN X0.here hx rfl (hb hby d6_10) rfl ?_
    show Steps p.tables e below (s₁.setTop (mkF m 11 #[.val (.ref a1), .val (.ref d1), .val (.int (0 : Int32)), .val (.int n), .val (.int (0 : Int32)), .unset, .unset, .unset] [(.int n), (.ref a1)])) _
    refine XS.iload X0.here hx rfl (hb hby d6_11) rfl ?_
    show Steps p.tables e below (s₁.setTop (mkF m 13 #[.val (.ref a1), .val (.ref d1), .val (.int (0 : Int32)), .val (.int n), .val (.int (0 : Int32)), .unset, .unset, .unset] [(.int (0 : Int32)), (.int n), (.ref a1)])) _
    refine XS.isub X0.here hx rfl (hb hby d6_13) rfl ?_
    show Steps p.tables e below (s₁.setTop (mkF m 14 #[.val (.ref a1), .val (.ref d1), .val (.int (0 : Int32)), .val (.int n), .val (.int (0 : Int32)), .unset, .unset, .unset] [(.int (n - (0 : Int32))), (.ref a1)])) _
    rw [(own_sub0 n)]
    show Steps p.tables e below (s₁.setTop (mkF m 14 #[.val (.ref a1), .val (.ref d1), .val (.int (0 : Int32)), .val (.int n), .val (.int (0 : Int32)), .unset, .unset, .unset] [(.int n), (.ref a1)])) _
    refine st65.trans ?_
    show Steps p.tables e below (T65.setTop (mkF m 17 #[.val (.ref a1), .val (.ref d1), .val (.int (0 : Int32)), .val (.int n), .val (.int (0 : Int32)), .unset, .unset, .unset] [])) _
    refine XS.aloadN X65.here hx rfl (hb hby d6_17) rfl rfl ?_
    show Steps p.tables e below (T65.setTop (mkF m 18 #[.val (.ref a1), .val (.ref d1), .val (.int (0 : Int32)), .val (.int n), .val (.int (0 : Int32)), .unset, .unset, .unset] [(.ref a1)])) _
    refine st67 _ ?_
    show Steps p.tables e below (T67.setTop (mkF m 21 #[.val (.ref a1), .val (.ref d1), .val (.int (0 : Int32)), .val (.int n), .val (.int (0 : Int32)), .unset, .unset, .unset] [(.ref b1)])) _
    refine XS.aloadN X67.here hx rfl (hb hby d6_21) rfl rfl ?_
    show Steps p.tables e below (T67.setTop (mkF m 22 #[.val (.ref a1), .val (.ref d1), .val (.int (0 : Int32)), .val (.int n), .val (.int (0 : Int32)), .unset, .unset, .unset] [(.ref a1), (.ref b1)])) _
    refine st68 _ ?_
    show Steps p.tables e below (T68.setTop (mkF m 25 #[.val (.ref a1), .val (.ref d1), .val (.int (0 : Int32)), .val (.int n), .val (.int (0 : Int32)), .unset, .unset, .unset] [(.ref b1), (.ref b1)])) _
    refine X68.arraylength hx (by rw [e68]; exact Ar69.1) (State.isArrayOf_alike hZ.alike Ar69.2.1) (g := (mkF m 25 #[.val (.ref a1), .val (.ref d1), .val (.int (0 : Int32)), .val (.int n), .val (.int (0 : Int32)), .unset, .unset, .unset] [(.ref b1), (.ref b1)])) rfl rfl (hb hby d6_25) _ ?_
    rw [len_of S69 N69_]
    show Steps p.tables e below (T68.setTop (mkF m 26 #[.val (.ref a1), .val (.ref d1), .val (.int (0 : Int32)), .val (.int n), .val (.int (0 : Int32)), .unset, .unset, .unset] [(.int (1 : Int32)), (.ref b1)])) _
    refine XS.iconst X68.here hx rfl (hb hby d6_26) ?_
    show Steps p.tables e below (T68.setTop (mkF m 27 #[.val (.ref a1), .val (.ref d1), .val (.int (0 : Int32)), .val (.int n), .val (.int (0 : Int32)), .unset, .unset, .unset] [(.int (1 : Int32)), (.int (1 : Int32)), (.ref b1)])) _
    refine XS.isub X68.here hx rfl (hb hby d6_27) rfl ?_
    show Steps p.tables e below (T68.setTop (mkF m 28 #[.val (.ref a1), .val (.ref d1), .val (.int (0 : Int32)), .val (.int n), .val (.int (0 : Int32)), .unset, .unset, .unset] [(.int (0 : Int32)), (.ref b1)])) _
    refine X68.aaload hx (j := (0 : Int32)) (v := (.ref bR)) (by rw [e68]; exact Ar70.1) (State.isArrayOf_alike hZ.alike Ar70.2.1) rfl Ar70.2.2 hin70 hat70 (g := (mkF m 28 #[.val (.ref a1), .val (.ref d1), .val (.int (0 : Int32)), .val (.int n), .val (.int (0 : Int32)), .unset, .unset, .unset] [(.int (0 : Int32)), (.ref b1)])) rfl rfl (hb hby d6_28) _ ?_
    show Steps p.tables e below (T68.setTop (mkF m 29 #[.val (.ref a1), .val (.ref d1), .val (.int (0 : Int32)), .val (.int n), .val (.int (0 : Int32)), .unset, .unset, .unset] [(.ref bR)])) _
    refine XS.astore X68.here hx rfl (hb hby d6_29) rfl rfl (l' := #[.val (.ref a1), .val (.ref d1), .val (.int (0 : Int32)), .val (.int n), .val (.int (0 : Int32)), .val (.ref bR), .unset, .unset]) rfl ?_
    show Steps p.tables e below (T68.setTop (mkF m 31 #[.val (.ref a1), .val (.ref d1), .val (.int (0 : Int32)), .val (.int n), .val (.int (0 : Int32)), .val (.ref bR), .unset, .unset] [])) _
    refine XS.aloadN X68.here hx rfl (hb hby d6_31) rfl rfl ?_
    show Steps p.tables e below (T68.setTop (mkF m 32 #[.val (.ref a1), .val (.ref d1), .val (.int (0 : Int32)), .val (.int n), .val (.int (0 : Int32)), .val (.ref bR), .unset, .unset] [(.ref a1)])) _
    refine st72 _ ?_
    show Steps p.tables e below (T72.setTop (mkF m 35 #[.val (.ref a1), .val (.ref d1), .val (.int (0 : Int32)), .val (.int n), .val (.int (0 : Int32)), .val (.ref bR), .unset, .unset] [(.long (0 : Int64))])) _
    refine XS.l2i X72.here hx rfl (hb hby d6_35) rfl ?_
    show Steps p.tables e below (T72.setTop (mkF m 36 #[.val (.ref a1), .val (.ref d1), .val (.int (0 : Int32)), .val (.int n), .val (.int (0 : Int32)), .val (.ref bR), .unset, .unset] [(.int (0 : Int32))])) _
    refine X72.ldcInt hx hown (mvT hZ (hw _ (List.mem_of_getElem? (i := 46) rfl))) (g := (mkF m 36 #[.val (.ref a1), .val (.ref d1), .val (.int (0 : Int32)), .val (.int n), .val (.int (0 : Int32)), .val (.ref bR), .unset, .unset] [(.int (0 : Int32))])) rfl (hb hby d6_36) _ ?_
    show Steps p.tables e below (T72.setTop (mkF m 38 #[.val (.ref a1), .val (.ref d1), .val (.int (0 : Int32)), .val (.int n), .val (.int (0 : Int32)), .val (.ref bR), .unset, .unset] [(.int (134217727 : Int32)), (.int (0 : Int32))])) _
    refine XS.iand X72.here hx rfl (hb hby d6_38) rfl ?_
    show Steps p.tables e below (T72.setTop (mkF m 39 #[.val (.ref a1), .val (.ref d1), .val (.int (0 : Int32)), .val (.int n), .val (.int (0 : Int32)), .val (.ref bR), .unset, .unset] [(.int (0 : Int32))])) _
    refine XS.istore X72.here hx rfl (hb hby d6_39) rfl (l' := #[.val (.ref a1), .val (.ref d1), .val (.int (0 : Int32)), .val (.int n), .val (.int (0 : Int32)), .val (.ref bR), .val (.int (0 : Int32)), .unset]) rfl ?_
    show Steps p.tables e below (T72.setTop (mkF m 41 #[.val (.ref a1), .val (.ref d1), .val (.int (0 : Int32)), .val (.int n), .val (.int (0 : Int32)), .val (.ref bR), .val (.int (0 : Int32)), .unset] [])) _
    refine XS.iloadN X72.here hx rfl (hb hby d6_41) rfl ?_
    show Steps p.tables e below (T72.setTop (mkF m 42 #[.val (.ref a1), .val (.ref d1), .val (.int (0 : Int32)), .val (.int n), .val (.int (0 : Int32)), .val (.ref bR), .val (.int (0 : Int32)), .unset] [(.int n)])) _
    refine XS.iload X72.here hx rfl (hb hby d6_42) rfl ?_
    show Steps p.tables e below (T72.setTop (mkF m 44 #[.val (.ref a1), .val (.ref d1), .val (.int (0 : Int32)), .val (.int n), .val (.int (0 : Int32)), .val (.ref bR), .val (.int (0 : Int32)), .unset] [(.int (0 : Int32)), (.int n)])) _
    refine XS.isub X72.here hx rfl (hb hby d6_44) rfl ?_
    show Steps p.tables e below (T72.setTop (mkF m 45 #[.val (.ref a1), .val (.ref d1), .val (.int (0 : Int32)), .val (.int n), .val (.int (0 : Int32)), .val (.ref bR), .val (.int (0 : Int32)), .unset] [(.int (n - (0 : Int32)))])) _
    rw [(own_sub0 n)]
    show Steps p.tables e below (T72.setTop (mkF m 45 #[.val (.ref a1), .val (.ref d1), .val (.int (0 : Int32)), .val (.int n), .val (.int (0 : Int32)), .val (.ref bR), .val (.int (0 : Int32)), .unset] [(.int n)])) _
    refine XS.aload X72.here hx rfl (hb hby d6_45) rfl rfl ?_
    show Steps p.tables e below (T72.setTop (mkF m 47 #[.val (.ref a1), .val (.ref d1), .val (.int (0 : Int32)), .val (.int n), .val (.int (0 : Int32)), .val (.ref bR), .val (.int (0 : Int32)), .unset] [(.ref bR), (.int n)])) _
    refine X72.arraylength hx (by rw [e72]; exact Ar73.1) (State.isArrayOf_alike hZ.alike Ar73.2.1) (g := (mkF m 47 #[.val (.ref a1), .val (.ref d1), .val (.int (0 : Int32)), .val (.int n), .val (.int (0 : Int32)), .val (.ref bR), .val (.int (0 : Int32)), .unset] [(.ref bR), (.int n)])) rfl rfl (hb hby d6_47) _ ?_
    rw [len_of S73 N73_]
    show Steps p.tables e below (T72.setTop (mkF m 48 #[.val (.ref a1), .val (.ref d1), .val (.int (0 : Int32)), .val (.int n), .val (.int (0 : Int32)), .val (.ref bR), .val (.int (0 : Int32)), .unset] [(.int zR), (.int n)])) _
    refine XS.iload X72.here hx rfl (hb hby d6_48) rfl ?_
    show Steps p.tables e below (T72.setTop (mkF m 50 #[.val (.ref a1), .val (.ref d1), .val (.int (0 : Int32)), .val (.int n), .val (.int (0 : Int32)), .val (.ref bR), .val (.int (0 : Int32)), .unset] [(.int (0 : Int32)), (.int zR), (.int n)])) _
    refine XS.isub X72.here hx rfl (hb hby d6_50) rfl ?_
    show Steps p.tables e below (T72.setTop (mkF m 51 #[.val (.ref a1), .val (.ref d1), .val (.int (0 : Int32)), .val (.int n), .val (.int (0 : Int32)), .val (.ref bR), .val (.int (0 : Int32)), .unset] [(.int (zR - (0 : Int32))), (.int n)])) _
    rw [(own_sub0 zR)]
    show Steps p.tables e below (T72.setTop (mkF m 51 #[.val (.ref a1), .val (.ref d1), .val (.int (0 : Int32)), .val (.int n), .val (.int (0 : Int32)), .val (.ref bR), .val (.int (0 : Int32)), .unset] [(.int zR), (.int n)])) _
    refine st74 _ ?_
    show Steps p.tables e below (T74.setTop (mkF m 54 #[.val (.ref a1), .val (.ref d1), .val (.int (0 : Int32)), .val (.int n), .val (.int (0 : Int32)), .val (.ref bR), .val (.int (0 : Int32)), .unset] [(.int (if zR < n then zR else n))])) _
    rw [(if_neg hzn : (if zR < n then zR else n) = n)]
    show Steps p.tables e below (T74.setTop (mkF m 54 #[.val (.ref a1), .val (.ref d1), .val (.int (0 : Int32)), .val (.int n), .val (.int (0 : Int32)), .val (.ref bR), .val (.int (0 : Int32)), .unset] [(.int n)])) _
    refine XS.istore X74.here hx rfl (hb hby d6_54) rfl (l' := #[.val (.ref a1), .val (.ref d1), .val (.int (0 : Int32)), .val (.int n), .val (.int (0 : Int32)), .val (.ref bR), .val (.int (0 : Int32)), .val (.int n)]) rfl ?_
    show Steps p.tables e below (T74.setTop (mkF m 56 #[.val (.ref a1), .val (.ref d1), .val (.int (0 : Int32)), .val (.int n), .val (.int (0 : Int32)), .val (.ref bR), .val (.int (0 : Int32)), .val (.int n)] [])) _
    refine XS.aloadN X74.here hx rfl (hb hby d6_56) rfl rfl ?_
    show Steps p.tables e below (T74.setTop (mkF m 57 #[.val (.ref a1), .val (.ref d1), .val (.int (0 : Int32)), .val (.int n), .val (.int (0 : Int32)), .val (.ref bR), .val (.int (0 : Int32)), .val (.int n)] [(.ref d1)])) _
    refine XS.iloadN X74.here hx rfl (hb hby d6_57) rfl ?_
    show Steps p.tables e below (T74.setTop (mkF m 58 #[.val (.ref a1), .val (.ref d1), .val (.int (0 : Int32)), .val (.int n), .val (.int (0 : Int32)), .val (.ref bR), .val (.int (0 : Int32)), .val (.int n)] [(.int (0 : Int32)), (.ref d1)])) _
    refine XS.iload X74.here hx rfl (hb hby d6_58) rfl ?_
    show Steps p.tables e below (T74.setTop (mkF m 60 #[.val (.ref a1), .val (.ref d1), .val (.int (0 : Int32)), .val (.int n), .val (.int (0 : Int32)), .val (.ref bR), .val (.int (0 : Int32)), .val (.int n)] [(.int (0 : Int32)), (.int (0 : Int32)), (.ref d1)])) _
    refine XS.iadd X74.here hx rfl (hb hby d6_60) rfl ?_
    show Steps p.tables e below (T74.setTop (mkF m 61 #[.val (.ref a1), .val (.ref d1), .val (.int (0 : Int32)), .val (.int n), .val (.int (0 : Int32)), .val (.ref bR), .val (.int (0 : Int32)), .val (.int n)] [(.int (0 : Int32)), (.ref d1)])) _
    refine XS.aload X74.here hx rfl (hb hby d6_61) rfl rfl ?_
    show Steps p.tables e below (T74.setTop (mkF m 63 #[.val (.ref a1), .val (.ref d1), .val (.int (0 : Int32)), .val (.int n), .val (.int (0 : Int32)), .val (.ref bR), .val (.int (0 : Int32)), .val (.int n)] [(.ref bR), (.int (0 : Int32)), (.ref d1)])) _
    refine XS.iload X74.here hx rfl (hb hby d6_63) rfl ?_
    show Steps p.tables e below (T74.setTop (mkF m 65 #[.val (.ref a1), .val (.ref d1), .val (.int (0 : Int32)), .val (.int n), .val (.int (0 : Int32)), .val (.ref bR), .val (.int (0 : Int32)), .val (.int n)] [(.int (0 : Int32)), (.ref bR), (.int (0 : Int32)), (.ref d1)])) _
    refine XS.iload X74.here hx rfl (hb hby d6_65) rfl ?_
    show Steps p.tables e below (T74.setTop (mkF m 67 #[.val (.ref a1), .val (.ref d1), .val (.int (0 : Int32)), .val (.int n), .val (.int (0 : Int32)), .val (.ref bR), .val (.int (0 : Int32)), .val (.int n)] [(.int n), (.int (0 : Int32)), (.ref bR), (.int (0 : Int32)), (.ref d1)])) _
    refine st76 _ ?_
    show Steps p.tables e below (T76.setTop (mkF m 70 #[.val (.ref a1), .val (.ref d1), .val (.int (0 : Int32)), .val (.int n), .val (.int (0 : Int32)), .val (.ref bR), .val (.int (0 : Int32)), .val (.int n)] [])) _
    refine XS.iload X76.here hx rfl (hb hby d6_70) rfl ?_
    show Steps p.tables e below (T76.setTop (mkF m 72 #[.val (.ref a1), .val (.ref d1), .val (.int (0 : Int32)), .val (.int n), .val (.int (0 : Int32)), .val (.ref bR), .val (.int (0 : Int32)), .val (.int n)] [(.int (0 : Int32))])) _
    refine XS.iload X76.here hx rfl (hb hby d6_72) rfl ?_
    show Steps p.tables e below (T76.setTop (mkF m 74 #[.val (.ref a1), .val (.ref d1), .val (.int (0 : Int32)), .val (.int n), .val (.int (0 : Int32)), .val (.ref bR), .val (.int (0 : Int32)), .val (.int n)] [(.int n), (.int (0 : Int32))])) _
    refine XS.iadd X76.here hx rfl (hb hby d6_74) rfl ?_
    show Steps p.tables e below (T76.setTop (mkF m 75 #[.val (.ref a1), .val (.ref d1), .val (.int (0 : Int32)), .val (.int n), .val (.int (0 : Int32)), .val (.ref bR), .val (.int (0 : Int32)), .val (.int n)] [(.int ((0 : Int32) + n))])) _
    rw [(own_add0 n)]
    show Steps p.tables e below (T76.setTop (mkF m 75 #[.val (.ref a1), .val (.ref d1), .val (.int (0 : Int32)), .val (.int n), .val (.int (0 : Int32)), .val (.ref bR), .val (.int (0 : Int32)), .val (.int n)] [(.int n)])) _
    refine XS.istore X76.here hx rfl (hb hby d6_75) rfl (l' := #[.val (.ref a1), .val (.ref d1), .val (.int (0 : Int32)), .val (.int n), .val (.int n), .val (.ref bR), .val (.int (0 : Int32)), .val (.int n)]) rfl ?_
    show Steps p.tables e below (T76.setTop (mkF m 77 #[.val (.ref a1), .val (.ref d1), .val (.int (0 : Int32)), .val (.int n), .val (.int n), .val (.ref bR), .val (.int (0 : Int32)), .val (.int n)] [])) _
    refine XS.aloadN X76.here hx rfl (hb hby d6_77) rfl rfl ?_
    show Steps p.tables e below (T76.setTop (mkF m 78 #[.val (.ref a1), .val (.ref d1), .val (.int (0 : Int32)), .val (.int n), .val (.int n), .val (.ref bR), .val (.int (0 : Int32)), .val (.int n)] [(.ref a1)])) _
    refine XS.dup X76.here hx rfl (hb hby d6_78) rfl rfl ?_
    show Steps p.tables e below (T76.setTop (mkF m 79 #[.val (.ref a1), .val (.ref d1), .val (.int (0 : Int32)), .val (.int n), .val (.int n), .val (.ref bR), .val (.int (0 : Int32)), .val (.int n)] [(.ref a1), (.ref a1)])) _
    refine st78 _ ?_
    show Steps p.tables e below (T78.setTop (mkF m 82 #[.val (.ref a1), .val (.ref d1), .val (.int (0 : Int32)), .val (.int n), .val (.int n), .val (.ref bR), .val (.int (0 : Int32)), .val (.int n)] [(.long (0 : Int64)), (.ref a1)])) _
    refine XS.iload X78.here hx rfl (hb hby d6_82) rfl ?_
    show Steps p.tables e below (T78.setTop (mkF m 84 #[.val (.ref a1), .val (.ref d1), .val (.int (0 : Int32)), .val (.int n), .val (.int n), .val (.ref bR), .val (.int (0 : Int32)), .val (.int n)] [(.int n), (.long (0 : Int64)), (.ref a1)])) _
    refine XS.i2l X78.here hx rfl (hb hby d6_84) rfl ?_
    show Steps p.tables e below (T78.setTop (mkF m 85 #[.val (.ref a1), .val (.ref d1), .val (.int (0 : Int32)), .val (.int n), .val (.int n), .val (.ref bR), .val (.int (0 : Int32)), .val (.int n)] [(.long (n.toInt64)), (.long (0 : Int64)), (.ref a1)])) _
    refine XS.ladd X78.here hx rfl (hb hby d6_85) rfl ?_
    show Steps p.tables e below (T78.setTop (mkF m 86 #[.val (.ref a1), .val (.ref d1), .val (.int (0 : Int32)), .val (.int n), .val (.int n), .val (.ref bR), .val (.int (0 : Int32)), .val (.int n)] [(.long ((0 : Int64) + (n.toInt64))), (.ref a1)])) _
    rw [h_ln]
    show Steps p.tables e below (T78.setTop (mkF m 86 #[.val (.ref a1), .val (.ref d1), .val (.int (0 : Int32)), .val (.int n), .val (.int n), .val (.ref bR), .val (.int (0 : Int32)), .val (.int n)] [(.long ln), (.ref a1)])) _
    refine st80 _ ?_
    show Steps p.tables e below (T80.setTop (mkF m 89 #[.val (.ref a1), .val (.ref d1), .val (.int (0 : Int32)), .val (.int n), .val (.int n), .val (.ref bR), .val (.int (0 : Int32)), .val (.int n)] [])) _
    refine XS.goto X80.here hx rfl (pc0 := 89) (pc' := 3) rfl (hb hby d6_89) (by decide) (by decide) ?_
    show Steps p.tables e below (T80.setTop (mkF m 3 #[.val (.ref a1), .val (.ref d1), .val (.int (0 : Int32)), .val (.int n), .val (.int n), .val (.ref bR), .val (.int (0 : Int32)), .val (.int n)] [])) _
    refine XS.iload X80.here hx rfl (hb hby d6_3) rfl ?_
    show Steps p.tables e below (T80.setTop (mkF m 5 #[.val (.ref a1), .val (.ref d1), .val (.int (0 : Int32)), .val (.int n), .val (.int n), .val (.ref bR), .val (.int (0 : Int32)), .val (.int n)] [(.int n)])) _
    refine XS.iloadN X80.here hx rfl (hb hby d6_5) rfl ?_
    show Steps p.tables e below (T80.setTop (mkF m 6 #[.val (.ref a1), .val (.ref d1), .val (.int (0 : Int32)), .val (.int n), .val (.int n), .val (.ref bR), .val (.int (0 : Int32)), .val (.int n)] [(.int n), (.int n)])) _
    refine XS.icmpYes X80.here hx rfl (pc0 := 6) (pc' := 92) rfl (hb hby d6_6) rfl (flt (Int32.lt_irrefl : ¬ (n < n))).2.1 (by decide) (by decide) ?_
    show Steps p.tables e below (T80.setTop (mkF m 92 #[.val (.ref a1), .val (.ref d1), .val (.int (0 : Int32)), .val (.int n), .val (.int n), .val (.ref bR), .val (.int (0 : Int32)), .val (.int n)] [])) _
    exact X80.returnOut hx Bd.returns (hb hby d6_92) hr
  · show own_Wrote Z a1 b1 b2 k1 n.toInt (fun f' => ∀ i, i < n.toNatClampNeg → f' i = fd i) h0 n0 _ T80.heap _
    rw [e80]
    exact ⟨rfl, N80, KP80, bR, kR, zR, _, ln, Fx81, Fx82, Fw80, Fx83, Fx84, hb65, hln, hzR, hr265, fun i hi => if_pos hi⟩
theorem d9_0 : decode prog_20_method_7_code 0 = .ok (.aload_n 0, 1) := by decide +kernel
theorem d9_1 : decode prog_20_method_7_code 1 = .ok (.iconst 1, 1) := by decide +kernel
theorem d9_2 : decode prog_20_method_7_code 2 = .ok (.invokevirtual 38, 3) := by decide +kernel
theorem d9_5 : decode prog_20_method_7_code 5 = .ok (.aload_n 0, 1) := by decide +kernel
theorem d9_6 : decode prog_20_method_7_code 6 = .ok (.getfield 27, 3) := by decide +kernel
theorem d9_9 : decode prog_20_method_7_code 9 = .ok (.aload_n 0, 1) := by decide +kernel
theorem d9_10 : decode prog_20_method_7_code 10 = .ok (.getfield 31, 3) := by decide +kernel
theorem d9_13 : decode prog_20_method_7_code 13 = .ok (.bipush 27, 2) := by decide +kernel
theorem d9_15 : decode prog_20_method_7_code 15 = .ok (.lushr, 1) := by decide +kernel
theorem d9_16 : decode prog_20_method_7_code 16 = .ok (.l2i, 1) := by decide +kernel
theorem d9_17 : decode prog_20_method_7_code 17 = .ok (.aaload, 1) := by decide +kernel
theorem d9_18 : decode prog_20_method_7_code 18 = .ok (.aload_n 0, 1) := by decide +kernel
theorem d9_19 : decode prog_20_method_7_code 19 = .ok (.getfield 31, 3) := by decide +kernel
theorem d9_22 : decode prog_20_method_7_code 22 = .ok (.l2i, 1) := by decide +kernel
theorem d9_23 : decode prog_20_method_7_code 23 = .ok (.ldc 37, 2) := by decide +kernel
theorem d9_25 : decode prog_20_method_7_code 25 = .ok (.iand, 1) := by decide +kernel
theorem d9_26 : decode prog_20_method_7_code 26 = .ok (.iload_n 1, 1) := by decide +kernel
theorem d9_27 : decode prog_20_method_7_code 27 = .ok (.i2b, 1) := by decide +kernel
theorem d9_28 : decode prog_20_method_7_code 28 = .ok (.bastore, 1) := by decide +kernel
theorem d9_29 : decode prog_20_method_7_code 29 = .ok (.aload_n 0, 1) := by decide +kernel
theorem d9_30 : decode prog_20_method_7_code 30 = .ok (.dup, 1) := by decide +kernel
theorem d9_31 : decode prog_20_method_7_code 31 = .ok (.getfield 31, 3) := by decide +kernel
theorem d9_34 : decode prog_20_method_7_code 34 = .ok (.lconst 1, 1) := by decide +kernel
theorem d9_35 : decode prog_20_method_7_code 35 = .ok (.ladd, 1) := by decide +kernel
theorem d9_36 : decode prog_20_method_7_code 36 = .ok (.putfield 31, 3) := by decide +kernel
theorem d9_39 : decode prog_20_method_7_code 39 = .ok (.return_, 1) := by decide +kernel
theorem ef_rm_wrI (m : MethodId) (x0 : Addr) (x1 : Int32) : entryFrame m #[(.ref x0), (.int x1)] 2 = mkF m 0 #[.val (.ref x0), .val (.int x1)] [] := by first | (simp [entryFrame, mkF, argsToLocals, Value.category]; done) | rfl
set_option maxRecDepth 65536 in
set_option maxHeartbeats 40000000 in
theorem rm_wrI (l : Launch) (Z : State) (a0 : Array Value) (hw : ∀ d ∈ tables_1, d.before a0 Z = true) (ws : List Jvm.Cond) (a1 : Addr) (x : Int32) (h0 : Heap) (n0 : Nat) (Z0 : n0 ≤ h0.size) (b1 b2 : Addr) (k1 k2 : ClassId) (len : Int64) (z : Int32) (f : Nat → Int32) (E_a : Exa Z h0 a1 "com/example/cubelet/cubelet/Chunks") (F_c : Fld Z h0 a1 "com/example/cubelet/cubelet/Chunks" "chunks" "[[B" (.ref b1)) (F_l : Fld Z h0 a1 "com/example/cubelet/cubelet/Chunks" "length" "J" (.long len)) (A_1 : Arv Z h0 b1 k1 (.array .byte) (1 : Int32) [(.ref b2)] .null) (O_1 : OvrA Z k1 .byte "[B") (B_2 : own_FB Z h0 b2 k2 z f) (na1 : a1 ≠ b1) (na2 : a1 ≠ b2) (n12 : b1 ≠ b2) (gn_1 : n0 ≤ b1) (gn_a : n0 ≤ a1) (gn_2 : n0 ≤ b2) (hu : 0 ≤ len.toInt ∧ len.toInt ≤ 8192) (hz : 1 ≤ z.toInt ∧ z.toInt ≤ 16384) (hlz : len.toInt ≤ z.toInt) :
    MetFree l (⟨"com/example/cubelet/cubelet/Chunks", "write", "(I)V"⟩ : MethodName) (head1 (Jvm.Cond.code (⟨"com/example/cubelet/cubelet/Chunks", "write", "(I)V"⟩ : MethodName) prog_20_method_7_code 2 none :: ws) ({ frames := 3, cells := 1, slots := 16384, locals := 50 } : Room)) (fun aQ UQ => aQ = #[(.ref a1), (.int x)] ∧ Z.Warmed39 UQ.vm ∧ UQ.heap = h0) (fun _ _ _ _ _ => True) (fun _ UQ oQ UR => ∃ vQ LQ, oQ = .returned vQ ∧ own_Wrote Z a1 b1 b2 k1 (len.toInt + 1) (fun f' => (∀ i : Nat, (i : Int) < len.toInt → f' i = f i) ∧ f' len.toInt.toNat = nar .byte (x.toInt8.toInt32)) h0 n0 vQ UR.heap LQ ∧ FrameEnd UQ oQ UR LQ ({ frames := 3, cells := 1, slots := 16384, locals := 50 } : Room).cells ({ frames := 3, cells := 1, slots := 16384, locals := 50 } : Room).slots) := by
  refine MetFree.of_bodySF (plainFor_of_name pn_66) hisR ?_
  intro p e s m args below meth c s₁ Bd hml0 hP hK
  obtain ⟨rfl, hZ, hh⟩ := hP
  have hx := Bd.exec
  have hby := Bd.bytes
  have hml : c.maxLocals = 2 := hml0
  have hown : s.vm.findClass "com/example/cubelet/cubelet/Chunks" = some m.cls := findClass_of_methodNamed Bd.named
  have hnm := (name_of_methodNamed Bd.named Bd.method).1
  have X0 : Stand p l e ({ frames := 3, cells := 1, slots := 16384, locals := 50 } : Room) s m #[(.ref a1), (.int x)] below meth c s₁ [] 0 0 := Stand.of_body Bd
  have e0 : s₁.heap = h0 := by rw [← hh, Bd.state]; rfl
  have N0 := Fr.nil n0
  have pre0 : ∀ t, Steps p.tables e below (s₁.setTop (mkF m 0 #[.val (.ref a1), .val (.int x)] [])) t → Steps p.tables e below (s₁.setTop (entryFrame m #[(.ref a1), (.int x)] 2)) t := fun t kq => castTop (ef_rm_wrI m a1 x) kq
  have hu' : 0 ≤ len.toInt ∧ len.toInt ≤ 16384 := by omega
  obtain ⟨cq85, q85, q85'⟩ := Exa.cell (E_a)
  obtain ⟨ci85, ki85, i85a, i85b, -, i85c, -⟩ := Cond.instantiable_spec (mvT (args := #[]) hZ (hw _ (List.mem_of_getElem? (i := 1) rfl)))
  have i85d : ki85.isInterface = false := (Bool.or_eq_false_iff.mp i85c).1
  obtain ⟨_, _, ⟨T85, L85, k85, n85⟩, -, X85, ⟨Lc85, hQ85, l85, y85, z85⟩, st85⟩ := X0.privateBack hx (y := (⟨"com/example/cubelet/cubelet/Chunks", "room", "(I)V"⟩ : MethodName)) hown (mvT hZ (hw _ (List.mem_of_getElem? (i := 36) rfl))) (mvT hZ (hw _ (List.mem_of_getElem? (i := 37) rfl))) (Jvm.Stand.selects_self_of_private i85a i85b i85d (Cond.privateMethod_at (mvP hZ (hw _ (List.mem_of_getElem? (i := 38) rfl)) (args := #[]))) (mvT hZ (hw _ (List.mem_of_getElem? (i := 37) rfl))) (by decide)) (Cond.privateMethod_at (mvP hZ (hw _ (List.mem_of_getElem? (i := 38) rfl)) (args := #[]))) (mvT hZ (hw _ (List.mem_of_getElem? (i := 39) rfl))) (by decide) (backOf (W := 0) (rm_room l Z a0 hw [] a1 (1 : Int32) h0 n0 Z0 b1 b2 k1 k2 len z f E_a F_c F_l A_1 O_1 B_2 na1 na2 n12 gn_1 hu (by decide) (by omega) (by have := own_01; intro _; constructor <;> omega)) hZ (hw _ (List.mem_of_getElem? (i := 39) rfl)) (hw _ (List.mem_of_getElem? (i := 2) rfl)) (by decide) (by decide)) (g := (mkF m 2 #[.val (.ref a1), .val (.int x)] [(.int (1 : Int32)), (.ref a1)])) rfl (by rw [hml]; rfl) (Steps.refl _) (a := a1) (by rw [e0]; exact q85) q85' (argsL := [(.int (1 : Int32))]) (rest := []) (lenOf pd_140 rfl) rfl (by show 2 * 0 + _ ≤ _; exact Nat.le_of_eq rfl) (hb hby d9_2) (fun _ _ => ⟨rfl, e0, (by decide : 0 + 1 ≤ _), (by decide : 0 + 16384 ≤ _)⟩)
  dsimp only [Pt.U, Pt.locs, Pt.cells, Pt.slots] at X85 l85 y85 z85 st85 hQ85
  subst l85 y85 z85
  obtain ⟨rfl, N85q, K85, bR, kR, zR, fR, A85, V85, hb85, hr185, hr285, hr385, hff85⟩ := hQ85
  have N85 := Fr.app N0 N85q
  have e85 : T85.heap = T85.heap := rfl
  have KP85 := Keep.trans (Keep.refl h0 [a1, b1, b2]) K85 (allS (Or.inl (List.mem_of_getElem? (i := 1) rfl)) all0)
  have ne_a1_bR : a1 ≠ bR := own_ne_or hb85 na2 E_a.lt
  have ne_b1_bR : b1 ≠ bR := own_ne_or hb85 n12 A_1.lt
  have gn_bR : n0 ≤ bR := own_ge_or hb85 gn_2 Z0
  have me_bR : bR ∈ [a1, b1, b2] ∨ h0.size ≤ bR := own_me_or hb85
  have hzR : len.toInt + 1 ≤ zR.toInt := by have := hr185; have := own_01; omega
  have Fx86 := (F_c.keep K85 (ninS na1 nin0))
  obtain ⟨T87, X87, e87, st87⟩ := getF X85 hx hZ hown (host := "") (Or.inl (hw _ (List.mem_of_getElem? (i := 28) rfl))) Via.refl e85 Fx86 (g := (mkF m 6 #[.val (.ref a1), .val (.int x)] [(.ref a1)])) rfl rfl (hb hby d9_6)
  have Fx88 := (F_l.keep K85 (ninS na1 nin0))
  obtain ⟨T89, X89, e89, st89⟩ := getF X87 hx hZ hown (host := "") (Or.inl (hw _ (List.mem_of_getElem? (i := 40) rfl))) Via.refl e87 Fx88 (g := (mkF m 10 #[.val (.ref a1), .val (.int x)] [(.ref a1), (.ref b1)])) rfl rfl (hb hby d9_10)
  have Vc90 := A85
  obtain ⟨cl90, Ar90, q90, S90, N90_, H90_, G90⟩ := Vc90
  have hin90 : ¬ ((0 : Int32) < 0 ∨ cl90.slots.size ≤ ((0 : Int32)).toNatClampNeg) := inb_of S90 ⟨by decide, by decide⟩
  have hat90 : cl90.slots[((0 : Int32)).toNatClampNeg]? = some (.ref bR) := Has.at H90_ hin90 rfl
  obtain ⟨T91, X91, e91, st91⟩ := getF X89 hx hZ hown (host := "") (Or.inl (hw _ (List.mem_of_getElem? (i := 40) rfl))) Via.refl e89 Fx88 (g := (mkF m 19 #[.val (.ref a1), .val (.int x)] [(.ref a1), (.ref bR)])) rfl rfl (hb hby d9_19)
  obtain ⟨ix, h_ix⟩ : ∃ zQ : Int32, ((len.toInt32) &&& (134217727 : Int32)) = zQ := ⟨_, rfl⟩
  have hix : ix.toInt = len.toInt := by rw [← h_ix]; exact own_lo hu'
  have hxn : ix.toNatClampNeg = len.toInt.toNat := own_idx hix
  have Vc92 := V85
  obtain ⟨cl92, Ar92, q92, S92, N92_, H92_, G92⟩ := Vc92
  have hin92 : ¬ (ix < 0 ∨ cl92.slots.size ≤ (ix).toNatClampNeg) := inb_of S92 ⟨(own_nn (by omega)), (own_lt32 (by omega))⟩
  obtain ⟨T93, h93, X93, e93, W93, st93⟩ := stB X91 hx hZ e91 Ar92 (j := ix) hin92 (g := (mkF m 28 #[.val (.ref a1), .val (.int x)] [(.int (x.toInt8.toInt32)), (.int ix), (.ref bR)])) rfl rfl (hb hby d9_28)
  have KP93 := Keep.wr KP85 W93 me_bR
  have V93 : own_FB Z h93 bR kR zR (fun i => if i = (ix).toNatClampNeg then (nar .byte (x.toInt8.toInt32)) else fR i) := own_FB.set Ar92 q92 S92 N92_ H92_ G92 (fits_nar_byte _) W93
  have N93 := Fr.snoc X93 N85 gn_bR
  have Fx94 := (Fx88.other W93 (Or.inl ne_a1_bR))
  obtain ⟨T95, X95, e95, st95⟩ := getF X93 hx hZ hown (host := "") (Or.inl (hw _ (List.mem_of_getElem? (i := 40) rfl))) Via.refl e93 Fx94 (g := (mkF m 31 #[.val (.ref a1), .val (.int x)] [(.ref a1), (.ref a1)])) rfl rfl (hb hby d9_31)
  obtain ⟨ln, h_ln⟩ : ∃ zQ : Int64, (len + (1 : Int64)) = zQ := ⟨_, rfl⟩
  have hln : ln.toInt = len.toInt + 1 := by rw [← h_ln]; exact own_ln1 hu
  have Fx96 := ((E_a.keep K85).wr W93)
  obtain ⟨T97, h97, X97, e97, W97, st97⟩ := putF X95 hx hZ hown (host := "") (Or.inl (hw _ (List.mem_of_getElem? (i := 40) rfl))) Via.refl e95 Fx94 Fx96 (Or.inl (hw _ (List.mem_of_getElem? (i := 41) rfl))) (hw _ (List.mem_of_getElem? (i := 1) rfl)) (ty := .long) (by decide) rfl rfl (g := (mkF m 36 #[.val (.ref a1), .val (.int x)] [(.long ln), (.ref a1)])) rfl rfl (hb hby d9_36)
  have KP97 := Keep.wr KP93 W97 (Or.inl (List.mem_of_getElem? (i := 0) rfl))
  have Fw97 := Fx94.same W97
  have N97 := Fr.snoc X97 N93 gn_a
  have Fx98 := (Fx96.wr W97)
  have Fx99 := ((Fx86.other W93 (Or.inl ne_a1_bR)).other W97 (Or.inr (slot_ne (Or.inl (hw _ (List.mem_of_getElem? (i := 29) rfl))) (Or.inl (hw _ (List.mem_of_getElem? (i := 41) rfl))) (by decide) (t := (.array (.array .byte))) (t' := .long) (by decide) (by decide))))
  have Fx100 := ((A85.other W93 ne_b1_bR).other W97 (Ne.symm na1))
  have Fx101 := (V93.other W97 (Ne.symm ne_a1_bR))
  obtain ⟨fs, hr, hrun, hended, hW, hsame⟩ := X97.leave (v := none) (fun _ => rfl)
  refine ⟨_, _, pre0 _ ?_, hrun, hended, _, _, rfl, ?_, ⟨_, rfl⟩, hW, hsame.mono (by decide) (by decide)⟩
  · show Steps p.tables e below (s₁.setTop (mkF m 0 #[.val (.ref a1), .val (.int x)] [])) _
    refine XS.aloadN X0.here hx rfl (hb hby d9_0) rfl rfl ?_
    show Steps p.tables e below (s₁.setTop (mkF m 1 #[.val (.ref a1), .val (.int x)] [(.ref a1)])) _
    refine XS.iconst X0.here hx rfl (hb hby d9_1) ?_
    show Steps p.tables e below (s₁.setTop (mkF m 2 #[.val (.ref a1), .val (.int x)] [(.int (1 : Int32)), (.ref a1)])) _
    refine st85.trans ?_
    show Steps p.tables e below (T85.setTop (mkF m 5 #[.val (.ref a1), .val (.int x)] [])) _
    refine XS.aloadN X85.here hx rfl (hb hby d9_5) rfl rfl ?_
    show Steps p.tables e below (T85.setTop (mkF m 6 #[.val (.ref a1), .val (.int x)] [(.ref a1)])) _
    refine st87 _ ?_
    show Steps p.tables e below (T87.setTop (mkF m 9 #[.val (.ref a1), .val (.int x)] [(.ref b1)])) _
    refine XS.aloadN X87.here hx rfl (hb hby d9_9) rfl rfl ?_
    show Steps p.tables e below (T87.setTop (mkF m 10 #[.val (.ref a1), .val (.int x)] [(.ref a1), (.ref b1)])) _
    refine st89 _ ?_
    show Steps p.tables e below (T89.setTop (mkF m 13 #[.val (.ref a1), .val (.int x)] [(.long len), (.ref b1)])) _
    refine XS.bipush X89.here hx rfl (hb hby d9_13) ?_
    show Steps p.tables e below (T89.setTop (mkF m 15 #[.val (.ref a1), .val (.int x)] [(.int (27 : Int32)), (.long len), (.ref b1)])) _
    refine XS.lushr X89.here hx rfl (hb hby d9_15) rfl ?_
    show Steps p.tables e below (T89.setTop (mkF m 16 #[.val (.ref a1), .val (.int x)] [(.long ((len.toUInt64 >>> ((27 : Int32) &&& 0x3f).toInt64.toUInt64).toInt64)), (.ref b1)])) _
    refine XS.l2i X89.here hx rfl (hb hby d9_16) rfl ?_
    show Steps p.tables e below (T89.setTop (mkF m 17 #[.val (.ref a1), .val (.int x)] [(.int (((len.toUInt64 >>> ((27 : Int32) &&& 0x3f).toInt64.toUInt64).toInt64).toInt32)), (.ref b1)])) _
    rw [(own_hi hu')]
    show Steps p.tables e below (T89.setTop (mkF m 17 #[.val (.ref a1), .val (.int x)] [(.int (0 : Int32)), (.ref b1)])) _
    refine X89.aaload hx (j := (0 : Int32)) (v := (.ref bR)) (by rw [e89]; exact Ar90.1) (State.isArrayOf_alike hZ.alike Ar90.2.1) rfl Ar90.2.2 hin90 hat90 (g := (mkF m 17 #[.val (.ref a1), .val (.int x)] [(.int (0 : Int32)), (.ref b1)])) rfl rfl (hb hby d9_17) _ ?_
    show Steps p.tables e below (T89.setTop (mkF m 18 #[.val (.ref a1), .val (.int x)] [(.ref bR)])) _
    refine XS.aloadN X89.here hx rfl (hb hby d9_18) rfl rfl ?_
    show Steps p.tables e below (T89.setTop (mkF m 19 #[.val (.ref a1), .val (.int x)] [(.ref a1), (.ref bR)])) _
    refine st91 _ ?_
    show Steps p.tables e below (T91.setTop (mkF m 22 #[.val (.ref a1), .val (.int x)] [(.long len), (.ref bR)])) _
    refine XS.l2i X91.here hx rfl (hb hby d9_22) rfl ?_
    show Steps p.tables e below (T91.setTop (mkF m 23 #[.val (.ref a1), .val (.int x)] [(.int (len.toInt32)), (.ref bR)])) _
    refine X91.ldcInt hx hown (mvT hZ (hw _ (List.mem_of_getElem? (i := 46) rfl))) (g := (mkF m 23 #[.val (.ref a1), .val (.int x)] [(.int (len.toInt32)), (.ref bR)])) rfl (hb hby d9_23) _ ?_
    show Steps p.tables e below (T91.setTop (mkF m 25 #[.val (.ref a1), .val (.int x)] [(.int (134217727 : Int32)), (.int (len.toInt32)), (.ref bR)])) _
    refine XS.iand X91.here hx rfl (hb hby d9_25) rfl ?_
    show Steps p.tables e below (T91.setTop (mkF m 26 #[.val (.ref a1), .val (.int x)] [(.int ((len.toInt32) &&& (134217727 : Int32))), (.ref bR)])) _
    rw [h_ix]
    show Steps p.tables e below (T91.setTop (mkF m 26 #[.val (.ref a1), .val (.int x)] [(.int ix), (.ref bR)])) _
    refine XS.iloadN X91.here hx rfl (hb hby d9_26) rfl ?_
    show Steps p.tables e below (T91.setTop (mkF m 27 #[.val (.ref a1), .val (.int x)] [(.int x), (.int ix), (.ref bR)])) _
    refine XS.i2b X91.here hx rfl (hb hby d9_27) rfl ?_
    show Steps p.tables e below (T91.setTop (mkF m 28 #[.val (.ref a1), .val (.int x)] [(.int (x.toInt8.toInt32)), (.int ix), (.ref bR)])) _
    refine st93 _ ?_
    show Steps p.tables e below (T93.setTop (mkF m 29 #[.val (.ref a1), .val (.int x)] [])) _
    refine XS.aloadN X93.here hx rfl (hb hby d9_29) rfl rfl ?_
    show Steps p.tables e below (T93.setTop (mkF m 30 #[.val (.ref a1), .val (.int x)] [(.ref a1)])) _
    refine XS.dup X93.here hx rfl (hb hby d9_30) rfl rfl ?_
    show Steps p.tables e below (T93.setTop (mkF m 31 #[.val (.ref a1), .val (.int x)] [(.ref a1), (.ref a1)])) _
    refine st95 _ ?_
    show Steps p.tables e below (T95.setTop (mkF m 34 #[.val (.ref a1), .val (.int x)] [(.long len), (.ref a1)])) _
    refine XS.lconst X95.here hx rfl (hb hby d9_34) ?_
    show Steps p.tables e below (T95.setTop (mkF m 35 #[.val (.ref a1), .val (.int x)] [(.long (1 : Int64)), (.long len), (.ref a1)])) _
    refine XS.ladd X95.here hx rfl (hb hby d9_35) rfl ?_
    show Steps p.tables e below (T95.setTop (mkF m 36 #[.val (.ref a1), .val (.int x)] [(.long (len + (1 : Int64))), (.ref a1)])) _
    rw [h_ln]
    show Steps p.tables e below (T95.setTop (mkF m 36 #[.val (.ref a1), .val (.int x)] [(.long ln), (.ref a1)])) _
    refine st97 _ ?_
    show Steps p.tables e below (T97.setTop (mkF m 39 #[.val (.ref a1), .val (.int x)] [])) _
    exact X97.returnOut hx Bd.returns (hb hby d9_39) hr
  · show own_Wrote Z a1 b1 b2 k1 (len.toInt + 1) (fun f' => (∀ i : Nat, (i : Int) < len.toInt → f' i = f i) ∧ f' len.toInt.toNat = nar .byte (x.toInt8.toInt32)) h0 n0 _ T97.heap _
    rw [e97]
    exact ⟨rfl, N97, KP97, bR, kR, zR, _, ln, Fx98, Fx99, Fw97, Fx100, Fx101, hb85, hln, hzR, hr285, fun i hi => (if_neg (by omega)).trans (hff85 i (own_lz hi hlz)), if_pos hxn.symm⟩
theorem d10_0 : decode prog_20_method_6_code 0 = .ok (.aload_n 0, 1) := by decide +kernel
theorem d10_1 : decode prog_20_method_6_code 1 = .ok (.getfield 27, 3) := by decide +kernel
theorem d10_4 : decode prog_20_method_6_code 4 = .ok (.lload_n 1, 1) := by decide +kernel
theorem d10_5 : decode prog_20_method_6_code 5 = .ok (.bipush 27, 2) := by decide +kernel
theorem d10_7 : decode prog_20_method_6_code 7 = .ok (.lushr, 1) := by decide +kernel
theorem d10_8 : decode prog_20_method_6_code 8 = .ok (.l2i, 1) := by decide +kernel
theorem d10_9 : decode prog_20_method_6_code 9 = .ok (.aaload, 1) := by decide +kernel
theorem d10_10 : decode prog_20_method_6_code 10 = .ok (.lload_n 1, 1) := by decide +kernel
theorem d10_11 : decode prog_20_method_6_code 11 = .ok (.l2i, 1) := by decide +kernel
theorem d10_12 : decode prog_20_method_6_code 12 = .ok (.ldc 37, 2) := by decide +kernel
theorem d10_14 : decode prog_20_method_6_code 14 = .ok (.iand, 1) := by decide +kernel
theorem d10_15 : decode prog_20_method_6_code 15 = .ok (.baload, 1) := by decide +kernel
theorem d10_16 : decode prog_20_method_6_code 16 = .ok (.ireturn, 1) := by decide +kernel
theorem ef_rm_get (m : MethodId) (x0 : Addr) (x1 : Int64) : entryFrame m #[(.ref x0), (.long x1)] 3 = mkF m 0 #[.val (.ref x0), .val (.long x1), .second] [] := by first | (simp [entryFrame, mkF, argsToLocals, Value.category]; done) | rfl
set_option maxRecDepth 65536 in
set_option maxHeartbeats 40000000 in
theorem rm_get (l : Launch) (Z : State) (a0 : Array Value) (hw : ∀ d ∈ tables_1, d.before a0 Z = true) (ws : List Jvm.Cond) (a1 : Addr) (pos : Int64) (h0 : Heap) (n0 : Nat) (Z0 : n0 ≤ h0.size) (b1 b2 : Addr) (k1 k2 : ClassId) (z : Int32) (f : Nat → Int32) (F_c : Fld Z h0 a1 "com/example/cubelet/cubelet/Chunks" "chunks" "[[B" (.ref b1)) (A_1 : Arv Z h0 b1 k1 (.array .byte) (1 : Int32) [(.ref b2)] .null) (B_2 : own_FB Z h0 b2 k2 z f) (hp : 0 ≤ pos.toInt ∧ pos.toInt < z.toInt) (hz : z.toInt ≤ 16384) :
    MetFree l (⟨"com/example/cubelet/cubelet/Chunks", "get", "(J)B"⟩ : MethodName) (head1 (Jvm.Cond.code (⟨"com/example/cubelet/cubelet/Chunks", "get", "(J)B"⟩ : MethodName) prog_20_method_6_code 3 (some .byte) :: ws) ({ frames := 0, cells := 0, slots := 0, locals := 0 } : Room)) (fun aQ UQ => aQ = #[(.ref a1), (.long pos)] ∧ Z.Warmed39 UQ.vm ∧ UQ.heap = h0) (fun _ _ _ _ _ => True) (fun _ UQ oQ UR => ∃ vQ LQ, oQ = .returned vQ ∧ own_Pure (some (.int (nar .byte (f pos.toInt.toNat)))) h0 n0 vQ UR.heap LQ ∧ FrameEnd UQ oQ UR LQ ({ frames := 0, cells := 0, slots := 0, locals := 0 } : Room).cells ({ frames := 0, cells := 0, slots := 0, locals := 0 } : Room).slots) := by
  refine MetFree.of_bodySF (plainFor_of_name pn_66) hisR ?_
  intro p e s m args below meth c s₁ Bd hml0 hP hK
  obtain ⟨rfl, hZ, hh⟩ := hP
  have hx := Bd.exec
  have hby := Bd.bytes
  have hml : c.maxLocals = 3 := hml0
  have hown : s.vm.findClass "com/example/cubelet/cubelet/Chunks" = some m.cls := findClass_of_methodNamed Bd.named
  have hnm := (name_of_methodNamed Bd.named Bd.method).1
  have X0 : Stand p l e ({ frames := 0, cells := 0, slots := 0, locals := 0 } : Room) s m #[(.ref a1), (.long pos)] below meth c s₁ [] 0 0 := Stand.of_body Bd
  have e0 : s₁.heap = h0 := by rw [← hh, Bd.state]; rfl
  have N0 := Fr.nil n0
  have pre0 : ∀ t, Steps p.tables e below (s₁.setTop (mkF m 0 #[.val (.ref a1), .val (.long pos), .second] [])) t → Steps p.tables e below (s₁.setTop (entryFrame m #[(.ref a1), (.long pos)] 3)) t := fun t kq => castTop (ef_rm_get m a1 pos) kq
  have hp' : 0 ≤ pos.toInt ∧ pos.toInt ≤ 16384 := by omega
  obtain ⟨T102, X102, e102, st102⟩ := getF X0 hx hZ hown (host := "") (Or.inl (hw _ (List.mem_of_getElem? (i := 28) rfl))) Via.refl e0 F_c (g := (mkF m 1 #[.val (.ref a1), .val (.long pos), .second] [(.ref a1)])) rfl rfl (hb hby d10_1)
  have Vc103 := A_1
  obtain ⟨cl103, Ar103, q103, S103, N103_, H103_, G103⟩ := Vc103
  have hin103 : ¬ ((0 : Int32) < 0 ∨ cl103.slots.size ≤ ((0 : Int32)).toNatClampNeg) := inb_of S103 ⟨by decide, by decide⟩
  have hat103 : cl103.slots[((0 : Int32)).toNatClampNeg]? = some (.ref b2) := Has.at H103_ hin103 rfl
  obtain ⟨ix, h_ix⟩ : ∃ zQ : Int32, ((pos.toInt32) &&& (134217727 : Int32)) = zQ := ⟨_, rfl⟩
  have hix : ix.toInt = pos.toInt := by rw [← h_ix]; exact own_lo hp'
  have hxn : ix.toNatClampNeg = pos.toInt.toNat := own_idx hix
  have Vc104 := B_2
  obtain ⟨cl104, Ar104, q104, S104, N104_, H104_, G104⟩ := Vc104
  have hin104 : ¬ (ix < 0 ∨ cl104.slots.size ≤ (ix).toNatClampNeg) := inb_of S104 ⟨(own_nn (by omega)), (own_lt32 (by omega))⟩
  obtain ⟨fs, hr, hrun, hended, hW, hsame⟩ := X102.leave (v := some (.int (nar .byte (f (ix).toNatClampNeg)))) (fun h => by rw [Bd.returns] at h; cases h)
  refine ⟨_, _, pre0 _ ?_, hrun, hended, _, _, rfl, ?_, ⟨_, rfl⟩, hW, hsame.mono (by decide) (by decide)⟩
  · show Steps p.tables e below (s₁.setTop (mkF m 0 #[.val (.ref a1), .val (.long pos), .second] [])) _
    refine XS.aloadN X0.here hx rfl (hb hby d10_0) rfl rfl ?_
    show Steps p.tables e below (s₁.setTop (mkF m 1 #[.val (.ref a1), .val (.long pos), .second] [(.ref a1)])) _
    refine st102 _ ?_
    show Steps p.tables e below (T102.setTop (mkF m 4 #[.val (.ref a1), .val (.long pos), .second] [(.ref b1)])) _
    refine XS.lloadN X102.here hx rfl (hb hby d10_4) rfl ?_
    show Steps p.tables e below (T102.setTop (mkF m 5 #[.val (.ref a1), .val (.long pos), .second] [(.long pos), (.ref b1)])) _
    refine XS.bipush X102.here hx rfl (hb hby d10_5) ?_
    show Steps p.tables e below (T102.setTop (mkF m 7 #[.val (.ref a1), .val (.long pos), .second] [(.int (27 : Int32)), (.long pos), (.ref b1)])) _
    refine XS.lushr X102.here hx rfl (hb hby d10_7) rfl ?_
    show Steps p.tables e below (T102.setTop (mkF m 8 #[.val (.ref a1), .val (.long pos), .second] [(.long ((pos.toUInt64 >>> ((27 : Int32) &&& 0x3f).toInt64.toUInt64).toInt64)), (.ref b1)])) _
    refine XS.l2i X102.here hx rfl (hb hby d10_8) rfl ?_
    show Steps p.tables e below (T102.setTop (mkF m 9 #[.val (.ref a1), .val (.long pos), .second] [(.int (((pos.toUInt64 >>> ((27 : Int32) &&& 0x3f).toInt64.toUInt64).toInt64).toInt32)), (.ref b1)])) _
    rw [(own_hi hp')]
    show Steps p.tables e below (T102.setTop (mkF m 9 #[.val (.ref a1), .val (.long pos), .second] [(.int (0 : Int32)), (.ref b1)])) _
    refine X102.aaload hx (j := (0 : Int32)) (v := (.ref b2)) (by rw [e102]; exact Ar103.1) (State.isArrayOf_alike hZ.alike Ar103.2.1) rfl Ar103.2.2 hin103 hat103 (g := (mkF m 9 #[.val (.ref a1), .val (.long pos), .second] [(.int (0 : Int32)), (.ref b1)])) rfl rfl (hb hby d10_9) _ ?_
    show Steps p.tables e below (T102.setTop (mkF m 10 #[.val (.ref a1), .val (.long pos), .second] [(.ref b2)])) _
    refine XS.lloadN X102.here hx rfl (hb hby d10_10) rfl ?_
    show Steps p.tables e below (T102.setTop (mkF m 11 #[.val (.ref a1), .val (.long pos), .second] [(.long pos), (.ref b2)])) _
    refine XS.l2i X102.here hx rfl (hb hby d10_11) rfl ?_
    show Steps p.tables e below (T102.setTop (mkF m 12 #[.val (.ref a1), .val (.long pos), .second] [(.int (pos.toInt32)), (.ref b2)])) _
    refine X102.ldcInt hx hown (mvT hZ (hw _ (List.mem_of_getElem? (i := 46) rfl))) (g := (mkF m 12 #[.val (.ref a1), .val (.long pos), .second] [(.int (pos.toInt32)), (.ref b2)])) rfl (hb hby d10_12) _ ?_
    show Steps p.tables e below (T102.setTop (mkF m 14 #[.val (.ref a1), .val (.long pos), .second] [(.int (134217727 : Int32)), (.int (pos.toInt32)), (.ref b2)])) _
    refine XS.iand X102.here hx rfl (hb hby d10_14) rfl ?_
    show Steps p.tables e below (T102.setTop (mkF m 15 #[.val (.ref a1), .val (.long pos), .second] [(.int ((pos.toInt32) &&& (134217727 : Int32))), (.ref b2)])) _
    rw [h_ix]
    show Steps p.tables e below (T102.setTop (mkF m 15 #[.val (.ref a1), .val (.long pos), .second] [(.int ix), (.ref b2)])) _
    refine X102.baloadBytes hx (j := ix) (v := (.int (f (ix).toNatClampNeg))) (by rw [e102]; exact Ar104.1) (State.isArrayOf_alike hZ.alike Ar104.2.1) Ar104.2.2 hin104 (own_FB.at H104_ hin104) (g := (mkF m 15 #[.val (.ref a1), .val (.long pos), .second] [(.int ix), (.ref b2)])) rfl rfl (hb hby d10_15) _ ?_
    show Steps p.tables e below (T102.setTop (mkF m 16 #[.val (.ref a1), .val (.long pos), .second] [(.int (f (ix).toNatClampNeg))])) _
    exact retN X102 hx (t := .byte) Bd.returns (by simp) (hb hby d10_16) hr
  · show own_Pure (some (.int (nar .byte (f pos.toInt.toNat)))) h0 n0 _ T102.heap _
    rw [e102]
    exact ⟨by rw [hxn], N0, rfl⟩
theorem pd_226 : parseMethodDescriptor "(J)V" = some ⟨[.long], none⟩ := by decide +kernel
theorem pd_227 : parseMethodDescriptor "([BII)V" = some ⟨[(.array .byte), .int, .int], none⟩ := by decide +kernel
theorem pd_228 : parseMethodDescriptor "(J)B" = some ⟨[.long], some .byte⟩ := by decide +kernel
theorem pn_229 : plainName "com/example/cubelet/cubelet/ChunksGetPinLaw" = true := by first | (simp [plainName, overriddenIn]; done) | decide +kernel
theorem ef_rm_law (m : MethodId) (x0 : Int64) (x1 : Int32) (x2 : Int32) (x3 : Int32) (x4 : Int32) (x5 : Int32) : entryFrame m #[(.long x0), (.int x1), (.int x2), (.int x3), (.int x4), (.int x5)] maxLocals = mkF m 0 #[.val (.long x0), .second, .val (.int x1), .val (.int x2), .val (.int x3), .val (.int x4), .val (.int x5), .unset, .unset, .unset, .unset, .unset, .unset, .unset] [] := by first | (simp [entryFrame, mkF, argsToLocals, Value.category, maxLocals]; done) | rfl
set_option maxRecDepth 65536 in
set_option maxHeartbeats 40000000 in
theorem rm_law (l : Launch) (Z : State) (a0 : Array Value) (hw : ∀ d ∈ tables_1, d.before a0 Z = true) (ws : List Jvm.Cond) (p0 : Int64) (p1 : Int32) (p2 : Int32) (p3 : Int32) (p4 : Int32) (p5 : Int32) (h0 : Heap) (n0 : Nat) (Z0 : n0 ≤ h0.size)  :
    MetFree l x (head1 (Jvm.Cond.code x code maxLocals ret :: ws) room_1) (fun aQ UQ => aQ = #[(.long p0), (.int p1), (.int p2), (.int p3), (.int p4), (.int p5)] ∧ Z.Warmed39 UQ.vm ∧ UQ.heap = h0) (fun _ _ _ _ _ => True) (fun _ UQ oQ UR => ∃ vQ LQ, oQ = .returned vQ ∧ own_Made (some (.int 1)) n0 vQ UR.heap LQ ∧ FrameEnd UQ oQ UR LQ room_1.cells room_1.slots) := by
  refine MetFree.of_bodySF (plainFor_of_name pn_229) hisR ?_
  intro p e s m args below meth c s₁ Bd hml0 hP hK
  obtain ⟨rfl, hZ, hh⟩ := hP
  have hx := Bd.exec
  have hby := Bd.bytes
  have hml : c.maxLocals = 14 := hml0
  have hown : s.vm.findClass "com/example/cubelet/cubelet/ChunksGetPinLaw" = some m.cls := findClass_of_methodNamed Bd.named
  have hnm := (name_of_methodNamed Bd.named Bd.method).1
  have X0 : Stand p l e room_1 s m #[(.long p0), (.int p1), (.int p2), (.int p3), (.int p4), (.int p5)] below meth c s₁ [] 0 0 := Stand.of_body Bd
  have e0 : s₁.heap = h0 := by rw [← hh, Bd.state]; rfl
  have N0 := Fr.nil n0
  have pre0 : ∀ t, Steps p.tables e below (s₁.setTop (mkF m 0 #[.val (.long p0), .second, .val (.int p1), .val (.int p2), .val (.int p3), .val (.int p4), .val (.int p5), .unset, .unset, .unset, .unset, .unset, .unset, .unset] [])) t → Steps p.tables e below (s₁.setTop (entryFrame m #[(.long p0), (.int p1), (.int p2), (.int p3), (.int p4), (.int p5)] maxLocals)) t := fun t kq => castTop (ef_rm_law m p0 p1 p2 p3 p4 p5) kq
  obtain ⟨T105, h105, X105, e105, E105, A105, D105, -, st105⟩ := newO X0 hx hZ hown (hw _ (List.mem_of_getElem? (i := 0) rfl)) (hw _ (List.mem_of_getElem? (i := 1) rfl)) (hw _ (List.mem_of_getElem? (i := 2) rfl)) e0 (g := (mkF m 0 #[.val (.long p0), .second, .val (.int p1), .val (.int p2), .val (.int p3), .val (.int p4), .val (.int p5), .unset, .unset, .unset, .unset, .unset, .unset, .unset] [])) rfl (hb hby at_0) (by decide) (by decide)
  obtain ⟨b105, g105⟩ : ∃ z, z = h0.size := ⟨_, rfl⟩
  rw [← g105] at A105 D105 st105
  have sz_b105 : h0.size ≤ b105 := Nat.le_trans (Keep.refl h0 []).1 (Nat.le_of_eq g105.symm)
  have gn_b105 : n0 ≤ b105 := Nat.le_trans Z0 sz_b105
  have EX105 := own_ext_trans (own_ext_refl h0) E105
  have KP105 := Keep.ext (Keep.refl h0 []) E105
  have F105_chunks : Fld Z h105 b105 "com/example/cubelet/cubelet/Chunks" "chunks" "[[B" .null := D105 (Or.inl (hw _ (List.mem_of_getElem? (i := 29) rfl))) (ty := (.array (.array .byte))) (by decide)
  have F105_length : Fld Z h105 b105 "com/example/cubelet/cubelet/Chunks" "length" "J" (.long (0 : Int64)) := D105 (Or.inl (hw _ (List.mem_of_getElem? (i := 41) rfl))) (ty := .long) (by decide)
  obtain ⟨qv, h_qv⟩ : ∃ zQ : Int64, (p0 % (16384 : Int64)) = zQ := ⟨_, rfl⟩
  have hq : qv.toInt ≤ 16383 := by rw [← h_qv]; exact own_q p0
  obtain ⟨_, _, ⟨T106, L106, k106, n106⟩, -, X106, ⟨Lc106, hQ106, l106, y106, z106⟩, st106⟩ := X105.specialBack hx (y := (⟨"com/example/cubelet/cubelet/Chunks", "<init>", "(J)V"⟩ : MethodName)) rfl hown (mvT hZ (hw _ (List.mem_of_getElem? (i := 4) rfl))) (mvT hZ (hw _ (List.mem_of_getElem? (i := 5) rfl))) (mvT hZ (hw _ (List.mem_of_getElem? (i := 6) rfl))) (by decide) (backOf (W := 1) (rm_init l Z a0 hw [] b105 qv h105 n0 (Nat.le_trans Z0 EX105.1) A105 F105_chunks F105_length gn_b105 hq) hZ (hw _ (List.mem_of_getElem? (i := 6) rfl)) (hw _ (List.mem_of_getElem? (i := 2) rfl)) (by decide) (by decide)) (g := (mkF m 9 #[.val (.long p0), .second, .val (.int p1), .val (.int p2), .val (.int p3), .val (.int p4), .val (.int p5), .unset, .unset, .unset, .unset, .unset, .unset, .unset] [(.long qv), (.ref b105), (.ref b105)])) rfl (by rw [hml]; rfl) (Steps.refl _) (a := b105) (argsL := [(.long qv)]) (rest := [(.ref b105)]) (lenOf pd_226 rfl) rfl (by show 2 * 0 + _ ≤ _; exact Nat.le_of_eq rfl) (hb hby at_9) (fun _ _ => ⟨rfl, e105, (by decide : 1 + 2 ≤ _), (by decide : 2 + 16384 ≤ _)⟩)
  dsimp only [Pt.U, Pt.locs, Pt.cells, Pt.slots] at X106 l106 y106 z106 st106 hQ106
  subst l106 y106 z106
  obtain ⟨rfl, N106q, K106, c1, c2, kc1, kc2, zz, s1106, s2106, n12, E106, Fc106, Fl106, A106, O_1, V106, hz1, hz2⟩ := hQ106
  have N106 := Fr.app N0 N106q
  have sz_c1 : h0.size ≤ c1 := Nat.le_trans KP105.1 s1106
  have gn_c1 : n0 ≤ c1 := Nat.le_trans Z0 sz_c1
  have na_c1 : b105 ≠ c1 := Nat.ne_of_lt (Nat.lt_of_lt_of_le A105.lt s1106)
  have sz_c2 : h0.size ≤ c2 := Nat.le_trans KP105.1 s2106
  have gn_c2 : n0 ≤ c2 := Nat.le_trans Z0 sz_c2
  have na_c2 : b105 ≠ c2 := Nat.ne_of_lt (Nat.lt_of_lt_of_le A105.lt s2106)
  have e106 : T106.heap = T106.heap := rfl
  have EX106 := own_ext_keep EX105 K106 (allS sz_b105 all0)
  have KP106 := Keep.trans KP105 K106 (allS (Or.inr sz_b105) all0)
  obtain ⟨n, h_n⟩ : ∃ zQ : Int32, ((p1 &&& (8191 : Int32)) + (1 : Int32)) = zQ := ⟨_, rfl⟩
  have hn : 1 ≤ n.toInt ∧ n.toInt ≤ 8192 := by rw [← h_n]; exact own_n p1
  have hn1 : (0 : Int32) < n := own_lt32 (by have := own_z32; omega)
  obtain ⟨iI, h_iI⟩ : ∃ zQ : Int32, ((p2 &&& (2147483647 : Int32)) % n) = zQ := ⟨_, rfl⟩
  have hi : 0 ≤ iI.toInt ∧ iI.toInt < n.toInt := by rw [← h_iI]; exact own_im p2 n hn.1
  obtain ⟨jJ, h_jJ⟩ : ∃ zQ : Int32, ((p3 &&& (2147483647 : Int32)) % n) = zQ := ⟨_, rfl⟩
  have hj : 0 ≤ jJ.toInt ∧ jJ.toInt < n.toInt := by rw [← h_jJ]; exact own_im p3 n hn.1
  obtain ⟨T107, h107, k107, X107, e107, E107, A107, Ea107, st107⟩ := newPE X106 hx hZ (hw _ (List.mem_of_getElem? (i := 26) rfl)) e106 (g := (mkF m 45 #[.val (.long p0), .second, .val (.int p1), .val (.int p2), .val (.int p3), .val (.int p4), .val (.int p5), .val (.ref b105), .val (.int n), .val (.int iI), .val (.int jJ), .unset, .unset, .unset] [(.int (8192 : Int32))])) rfl (hb hby at_45) rfl (by decide) (cap := 8192) (by decide) (by decide) (by decide) (by decide) (ad := "[B") (by decide)
  obtain ⟨b107, g107⟩ : ∃ z, z = T106.heap.size := ⟨_, rfl⟩
  rw [← g107] at A107 Ea107 st107
  have sz_b107 : h0.size ≤ b107 := Nat.le_trans KP106.1 (Nat.le_of_eq g107.symm)
  have gn_b107 : n0 ≤ b107 := Nat.le_trans Z0 sz_b107
  have ne_b105_b107 : b105 ≠ b107 := Nat.ne_of_lt (Nat.lt_of_lt_of_le E106.lt (Nat.le_of_eq g107.symm))
  have ne_c1_b107 : c1 ≠ b107 := Nat.ne_of_lt (Nat.lt_of_lt_of_le A106.lt (Nat.le_of_eq g107.symm))
  have ne_c2_b107 : c2 ≠ b107 := Nat.ne_of_lt (Nat.lt_of_lt_of_le V106.lt (Nat.le_of_eq g107.symm))
  have EX107 := own_ext_trans EX106 E107
  have KP107 := Keep.ext KP106 E107
  have V107 : own_FB Z h107 b107 k107 (8192 : Int32) (fun _ => (0 : Int32)) := own_FB.new A107 (by decide)
  have Vc108 := V107
  obtain ⟨cl108, Ar108, q108, S108, N108_, H108_, G108⟩ := Vc108
  have hin108 : ¬ (iI < 0 ∨ cl108.slots.size ≤ (iI).toNatClampNeg) := inb_of S108 ⟨(own_nn (by omega)), (own_lt32 (by have := own_8192; omega))⟩
  obtain ⟨T109, h109, X109, e109, W109, st109⟩ := stB X107 hx hZ e107 Ar108 (j := iI) hin108 (g := (mkF m 56 #[.val (.long p0), .second, .val (.int p1), .val (.int p2), .val (.int p3), .val (.int p4), .val (.int p5), .val (.ref b105), .val (.int n), .val (.int iI), .val (.int jJ), .val (.ref b107), .unset, .unset] [(.int (p4.toInt8.toInt32)), (.int iI), (.ref b107)])) rfl rfl (hb hby at_56)
  have EX109 := own_ext_wr EX107 W109 sz_b107
  have KP109 := Keep.wr KP107 W109 (Or.inr sz_b107)
  have V109 : own_FB Z h109 b107 k107 (8192 : Int32) (fun i => if i = (iI).toNatClampNeg then (nar .byte (p4.toInt8.toInt32)) else (fun _ => (0 : Int32)) i) := own_FB.set Ar108 q108 S108 N108_ H108_ G108 (fits_nar_byte _) W109
  have N109 := Fr.snoc X109 N106 gn_b107
  have Vc110 := V109
  obtain ⟨cl110, Ar110, q110, S110, N110_, H110_, G110⟩ := Vc110
  have hin110 : ¬ (jJ < 0 ∨ cl110.slots.size ≤ (jJ).toNatClampNeg) := inb_of S110 ⟨(own_nn (by omega)), (own_lt32 (by have := own_8192; omega))⟩
  obtain ⟨T111, h111, X111, e111, W111, st111⟩ := stB X109 hx hZ e109 Ar110 (j := jJ) hin110 (g := (mkF m 64 #[.val (.long p0), .second, .val (.int p1), .val (.int p2), .val (.int p3), .val (.int p4), .val (.int p5), .val (.ref b105), .val (.int n), .val (.int iI), .val (.int jJ), .val (.ref b107), .unset, .unset] [(.int (p5.toInt8.toInt32)), (.int jJ), (.ref b107)])) rfl rfl (hb hby at_64)
  have EX111 := own_ext_wr EX109 W111 sz_b107
  have KP111 := Keep.wr KP109 W111 (Or.inr sz_b107)
  have V111 : own_FB Z h111 b107 k107 (8192 : Int32) (fun i => if i = (jJ).toNatClampNeg then (nar .byte (p5.toInt8.toInt32)) else (fun i => if i = (iI).toNatClampNeg then (nar .byte (p4.toInt8.toInt32)) else (fun _ => (0 : Int32)) i) i) := own_FB.set Ar110 q110 S110 N110_ H110_ G110 (fits_nar_byte _) W111
  have N111 := Fr.snoc X111 N109 gn_b107
  have Fx112 := (((E106.ext E107).wr W109).wr W111)
  have Fx113 := (((Fc106.ext E107).other W109 (Or.inl ne_b105_b107)).other W111 (Or.inl ne_b105_b107))
  have Fx114 := (((Fl106.ext E107).other W109 (Or.inl ne_b105_b107)).other W111 (Or.inl ne_b105_b107))
  have Fx115 := (((A106.ext E107).other W109 ne_c1_b107).other W111 ne_c1_b107)
  have Fx116 := (((V106.ext E107).other W109 ne_c2_b107).other W111 ne_c2_b107)
  obtain ⟨cq117, kq117, q117a, q117b, q117c⟩ := isOf hZ e111 (Fx112)
  obtain ⟨_, _, ⟨T117, L117, k117, n117⟩, -, X117, ⟨Lc117, hQ117, l117, y117, z117⟩, st117⟩ := X111.virtualBack hx (y := (⟨"com/example/cubelet/cubelet/Chunks", "write", "([BII)V"⟩ : MethodName)) (z := (⟨"com/example/cubelet/cubelet/Chunks", "write", "([BII)V"⟩ : MethodName)) hown (mvT hZ (hw _ (List.mem_of_getElem? (i := 31) rfl))) (mvT hZ (hw _ (List.mem_of_getElem? (i := 32) rfl))) (notFace_of_selects (args := #[]) (mvT hZ (hw _ (List.mem_of_getElem? (i := 34) rfl)))) (mvT hZ (hw _ (List.mem_of_getElem? (i := 34) rfl))) (mvT hZ (hw _ (List.mem_of_getElem? (i := 33) rfl))) (by decide) (backOf (W := 0) (rm_wrA l Z a0 hw [] b105 b107 n h111 n0 (Nat.le_trans Z0 EX111.1) c1 c2 kc1 kc2 zz (fun _ => (0 : Int32)) Fx112 Fx113 Fx114 Fx115  O_1 Fx116 na_c1 na_c2 n12 gn_c1 gn_b105 gn_c2 k107 (fun i => if i = (jJ).toNatClampNeg then (nar .byte (p5.toInt8.toInt32)) else (fun i => if i = (iI).toNatClampNeg then (nar .byte (p4.toInt8.toInt32)) else (fun _ => (0 : Int32)) i) i) V111 (Ne.symm ne_c1_b107) (Ne.symm ne_c2_b107) hn ⟨hz1, hz2⟩ hn1) hZ (hw _ (List.mem_of_getElem? (i := 35) rfl)) (hw _ (List.mem_of_getElem? (i := 2) rfl)) (by decide) (by decide)) q117a q117c (g := (mkF m 72 #[.val (.long p0), .second, .val (.int p1), .val (.int p2), .val (.int p3), .val (.int p4), .val (.int p5), .val (.ref b105), .val (.int n), .val (.int iI), .val (.int jJ), .val (.ref b107), .unset, .unset] [(.int n), (.int (0 : Int32)), (.ref b107), (.ref b105)])) rfl (by rw [hml]; rfl) (Steps.refl _) (argsL := [(.ref b107), (.int (0 : Int32)), (.int n)]) (rest := []) (lenOf pd_227 rfl) rfl (by show 2 * 0 + _ ≤ _; exact Nat.le_of_eq rfl) (hb hby at_72) (fun _ _ => ⟨rfl, e111, (by decide : 4 + 1 ≤ _), (by decide : 24578 + 16384 ≤ _)⟩)
  dsimp only [Pt.U, Pt.locs, Pt.cells, Pt.slots] at X117 l117 y117 z117 st117 hQ117
  subst l117 y117 z117
  obtain ⟨rfl, N117q, K117, c3, kc3, z3, f3, l3, E117, Fc117, Fl117, A117, V117, hb117, hl3, hle117, hlf117, hP3⟩ := hQ117
  have N117 := Fr.app N111 N117q
  have sz_c3 : h0.size ≤ c3 := own_ge_or hb117 sz_c2 KP111.1
  have gn_c3 : n0 ≤ c3 := Nat.le_trans Z0 sz_c3
  have ne_b105_c3 : b105 ≠ c3 := own_ne_or hb117 na_c2 Fx112.lt
  have ne_c1_c3 : c1 ≠ c3 := own_ne_or hb117 n12 Fx115.lt
  have e117 : T117.heap = T117.heap := rfl
  have EX117 := own_ext_keep EX111 K117 (allS sz_b105 (allS sz_c1 (allS sz_c2 all0)))
  have KP117 := Keep.trans KP111 K117 (allS (Or.inr sz_b105) (allS (Or.inr sz_c1) (allS (Or.inr sz_c2) all0)))
  obtain ⟨cq118, kq118, q118a, q118b, q118c⟩ := isOf hZ e117 (E117)
  obtain ⟨_, _, ⟨T118, L118, k118, n118⟩, -, X118, ⟨Lc118, hQ118, l118, y118, z118⟩, st118⟩ := X117.virtualBack hx (y := (⟨"com/example/cubelet/cubelet/Chunks", "write", "(I)V"⟩ : MethodName)) (z := (⟨"com/example/cubelet/cubelet/Chunks", "write", "(I)V"⟩ : MethodName)) hown (mvT hZ (hw _ (List.mem_of_getElem? (i := 51) rfl))) (mvT hZ (hw _ (List.mem_of_getElem? (i := 52) rfl))) (notFace_of_selects (args := #[]) (mvT hZ (hw _ (List.mem_of_getElem? (i := 54) rfl)))) (mvT hZ (hw _ (List.mem_of_getElem? (i := 54) rfl))) (mvT hZ (hw _ (List.mem_of_getElem? (i := 53) rfl))) (by decide) (backOf (W := 0) (rm_wrI l Z a0 hw [] b105 (p4 >>> ((8 : Int32) &&& 31)) T117.heap n0 (Nat.le_trans Z0 EX117.1) c1 c3 kc1 kc3 l3 z3 f3 E117 Fc117 Fl117 A117  O_1 V117 na_c1 ne_b105_c3 ne_c1_c3 gn_c1 gn_b105 gn_c3 (by omega) (by omega) (by omega)) hZ (hw _ (List.mem_of_getElem? (i := 55) rfl)) (hw _ (List.mem_of_getElem? (i := 2) rfl)) (by decide) (by decide)) q118a q118c (g := (mkF m 82 #[.val (.long p0), .second, .val (.int p1), .val (.int p2), .val (.int p3), .val (.int p4), .val (.int p5), .val (.ref b105), .val (.int n), .val (.int iI), .val (.int jJ), .val (.ref b107), .unset, .unset] [(.int (p4 >>> ((8 : Int32) &&& 31))), (.ref b105)])) rfl (by rw [hml]; rfl) (Steps.refl _) (argsL := [(.int (p4 >>> ((8 : Int32) &&& 31)))]) (rest := []) (lenOf pd_140 rfl) rfl (by show 2 * 0 + _ ≤ _; exact Nat.le_of_eq rfl) (hb hby at_82) (fun _ _ => ⟨rfl, e117, (by decide : 5 + 1 ≤ _), (by decide : 40962 + 16384 ≤ _)⟩)
  dsimp only [Pt.U, Pt.locs, Pt.cells, Pt.slots] at X118 l118 y118 z118 st118 hQ118
  subst l118 y118 z118
  obtain ⟨rfl, N118q, K118, c4, kc4, z4, f4, l4, E118, Fc118, Fl118, A118, V118, hb118, hl4, hle118, hlf118, hP4⟩ := hQ118
  have N118 := Fr.app N117 N118q
  have sz_c4 : h0.size ≤ c4 := own_ge_or hb118 sz_c3 KP117.1
  have gn_c4 : n0 ≤ c4 := Nat.le_trans Z0 sz_c4
  have ne_b105_c4 : b105 ≠ c4 := own_ne_or hb118 ne_b105_c3 E117.lt
  have ne_c1_c4 : c1 ≠ c4 := own_ne_or hb118 ne_c1_c3 A117.lt
  have e118 : T118.heap = T118.heap := rfl
  have EX118 := own_ext_keep EX117 K118 (allS sz_b105 (allS sz_c1 (allS sz_c3 all0)))
  have KP118 := Keep.trans KP117 K118 (allS (Or.inr sz_b105) (allS (Or.inr sz_c1) (allS (Or.inr sz_c3) all0)))
  have hA : ∀ k : Nat, (k : Int) < n.toInt → f4 k = (fun i => if i = (jJ).toNatClampNeg then (nar .byte (p5.toInt8.toInt32)) else (fun i => if i = (iI).toNatClampNeg then (nar .byte (p4.toInt8.toInt32)) else (fun _ => (0 : Int32)) i) i) k := fun k hk => (hP4.1 k (by omega)).trans (hP3 k (own_kn hk))
  have hz4 : n.toInt + 1 ≤ z4.toInt := by omega
  have hz4' := hlf118
  have ck120 : ∀ t, Steps p.tables e below (T118.setTop (mkF m 89 #[.val (.long p0), .second, .val (.int p1), .val (.int p2), .val (.int p3), .val (.int p4), .val (.int p5), .val (.ref b105), .val (.int n), .val (.int iI), .val (.int jJ), .val (.ref b107), .unset, .unset] [(.int jJ), (.int iI)])) t → Steps p.tables e below (s₁.setTop (entryFrame m #[(.long p0), (.int p1), (.int p2), (.int p3), (.int p4), (.int p5)] maxLocals)) t := by
    intro t kt
    refine pre0 _ ?_
    show Steps p.tables e below (s₁.setTop (mkF m 0 #[.val (.long p0), .second, .val (.int p1), .val (.int p2), .val (.int p3), .val (.int p4), .val (.int p5), .unset, .unset, .unset, .unset, .unset, .unset, .unset] [])) _
    refine st105 _ ?_
    show Steps p.tables e below (T105.setTop (mkF m 3 #[.val (.long p0), .second, .val (.int p1), .val (.int p2), .val (.int p3), .val (.int p4), .val (.int p5), .unset, .unset, .unset, .unset, .unset, .unset, .unset] [(.ref b105)])) _
    refine XS.dup X105.here hx rfl (hb hby at_3) rfl rfl ?_
    show Steps p.tables e below (T105.setTop (mkF m 4 #[.val (.long p0), .second, .val (.int p1), .val (.int p2), .val (.int p3), .val (.int p4), .val (.int p5), .unset, .unset, .unset, .unset, .unset, .unset, .unset] [(.ref b105), (.ref b105)])) _
    refine XS.lloadN X105.here hx rfl (hb hby at_4) rfl ?_
    show Steps p.tables e below (T105.setTop (mkF m 5 #[.val (.long p0), .second, .val (.int p1), .val (.int p2), .val (.int p3), .val (.int p4), .val (.int p5), .unset, .unset, .unset, .unset, .unset, .unset, .unset] [(.long p0), (.ref b105), (.ref b105)])) _
    refine X105.ldc2Long hx hown (mvT hZ (hw _ (List.mem_of_getElem? (i := 3) rfl))) (g := (mkF m 5 #[.val (.long p0), .second, .val (.int p1), .val (.int p2), .val (.int p3), .val (.int p4), .val (.int p5), .unset, .unset, .unset, .unset, .unset, .unset, .unset] [(.long p0), (.ref b105), (.ref b105)])) rfl (hb hby at_5) _ ?_
    show Steps p.tables e below (T105.setTop (mkF m 8 #[.val (.long p0), .second, .val (.int p1), .val (.int p2), .val (.int p3), .val (.int p4), .val (.int p5), .unset, .unset, .unset, .unset, .unset, .unset, .unset] [(.long (16384 : Int64)), (.long p0), (.ref b105), (.ref b105)])) _
    refine XS.lrem X105.here hx rfl (hb hby at_8) rfl (by decide) ?_
    show Steps p.tables e below (T105.setTop (mkF m 9 #[.val (.long p0), .second, .val (.int p1), .val (.int p2), .val (.int p3), .val (.int p4), .val (.int p5), .unset, .unset, .unset, .unset, .unset, .unset, .unset] [(.long (p0 - (p0 / (16384 : Int64)) * (16384 : Int64))), (.ref b105), (.ref b105)])) _
    rw [lrem_mod]
    show Steps p.tables e below (T105.setTop (mkF m 9 #[.val (.long p0), .second, .val (.int p1), .val (.int p2), .val (.int p3), .val (.int p4), .val (.int p5), .unset, .unset, .unset, .unset, .unset, .unset, .unset] [(.long (p0 % (16384 : Int64))), (.ref b105), (.ref b105)])) _
    rw [h_qv]
    show Steps p.tables e below (T105.setTop (mkF m 9 #[.val (.long p0), .second, .val (.int p1), .val (.int p2), .val (.int p3), .val (.int p4), .val (.int p5), .unset, .unset, .unset, .unset, .unset, .unset, .unset] [(.long qv), (.ref b105), (.ref b105)])) _
    refine st106.trans ?_
    show Steps p.tables e below (T106.setTop (mkF m 12 #[.val (.long p0), .second, .val (.int p1), .val (.int p2), .val (.int p3), .val (.int p4), .val (.int p5), .unset, .unset, .unset, .unset, .unset, .unset, .unset] [(.ref b105)])) _
    refine XS.astore X106.here hx rfl (hb hby at_12) rfl rfl (l' := #[.val (.long p0), .second, .val (.int p1), .val (.int p2), .val (.int p3), .val (.int p4), .val (.int p5), .val (.ref b105), .unset, .unset, .unset, .unset, .unset, .unset]) rfl ?_
    show Steps p.tables e below (T106.setTop (mkF m 14 #[.val (.long p0), .second, .val (.int p1), .val (.int p2), .val (.int p3), .val (.int p4), .val (.int p5), .val (.ref b105), .unset, .unset, .unset, .unset, .unset, .unset] [])) _
    refine XS.iloadN X106.here hx rfl (hb hby at_14) rfl ?_
    show Steps p.tables e below (T106.setTop (mkF m 15 #[.val (.long p0), .second, .val (.int p1), .val (.int p2), .val (.int p3), .val (.int p4), .val (.int p5), .val (.ref b105), .unset, .unset, .unset, .unset, .unset, .unset] [(.int p1)])) _
    refine XS.sipush X106.here hx rfl (hb hby at_15) ?_
    show Steps p.tables e below (T106.setTop (mkF m 18 #[.val (.long p0), .second, .val (.int p1), .val (.int p2), .val (.int p3), .val (.int p4), .val (.int p5), .val (.ref b105), .unset, .unset, .unset, .unset, .unset, .unset] [(.int (8191 : Int32)), (.int p1)])) _
    refine XS.iand X106.here hx rfl (hb hby at_18) rfl ?_
    show Steps p.tables e below (T106.setTop (mkF m 19 #[.val (.long p0), .second, .val (.int p1), .val (.int p2), .val (.int p3), .val (.int p4), .val (.int p5), .val (.ref b105), .unset, .unset, .unset, .unset, .unset, .unset] [(.int (p1 &&& (8191 : Int32)))])) _
    refine XS.iconst X106.here hx rfl (hb hby at_19) ?_
    show Steps p.tables e below (T106.setTop (mkF m 20 #[.val (.long p0), .second, .val (.int p1), .val (.int p2), .val (.int p3), .val (.int p4), .val (.int p5), .val (.ref b105), .unset, .unset, .unset, .unset, .unset, .unset] [(.int (1 : Int32)), (.int (p1 &&& (8191 : Int32)))])) _
    refine XS.iadd X106.here hx rfl (hb hby at_20) rfl ?_
    show Steps p.tables e below (T106.setTop (mkF m 21 #[.val (.long p0), .second, .val (.int p1), .val (.int p2), .val (.int p3), .val (.int p4), .val (.int p5), .val (.ref b105), .unset, .unset, .unset, .unset, .unset, .unset] [(.int ((p1 &&& (8191 : Int32)) + (1 : Int32)))])) _
    rw [h_n]
    show Steps p.tables e below (T106.setTop (mkF m 21 #[.val (.long p0), .second, .val (.int p1), .val (.int p2), .val (.int p3), .val (.int p4), .val (.int p5), .val (.ref b105), .unset, .unset, .unset, .unset, .unset, .unset] [(.int n)])) _
    refine XS.istore X106.here hx rfl (hb hby at_21) rfl (l' := #[.val (.long p0), .second, .val (.int p1), .val (.int p2), .val (.int p3), .val (.int p4), .val (.int p5), .val (.ref b105), .val (.int n), .unset, .unset, .unset, .unset, .unset]) rfl ?_
    show Steps p.tables e below (T106.setTop (mkF m 23 #[.val (.long p0), .second, .val (.int p1), .val (.int p2), .val (.int p3), .val (.int p4), .val (.int p5), .val (.ref b105), .val (.int n), .unset, .unset, .unset, .unset, .unset] [])) _
    refine XS.iloadN X106.here hx rfl (hb hby at_23) rfl ?_
    show Steps p.tables e below (T106.setTop (mkF m 24 #[.val (.long p0), .second, .val (.int p1), .val (.int p2), .val (.int p3), .val (.int p4), .val (.int p5), .val (.ref b105), .val (.int n), .unset, .unset, .unset, .unset, .unset] [(.int p2)])) _
    refine X106.ldcInt hx hown (mvT hZ (hw _ (List.mem_of_getElem? (i := 30) rfl))) (g := (mkF m 24 #[.val (.long p0), .second, .val (.int p1), .val (.int p2), .val (.int p3), .val (.int p4), .val (.int p5), .val (.ref b105), .val (.int n), .unset, .unset, .unset, .unset, .unset] [(.int p2)])) rfl (hb hby at_24) _ ?_
    show Steps p.tables e below (T106.setTop (mkF m 26 #[.val (.long p0), .second, .val (.int p1), .val (.int p2), .val (.int p3), .val (.int p4), .val (.int p5), .val (.ref b105), .val (.int n), .unset, .unset, .unset, .unset, .unset] [(.int (2147483647 : Int32)), (.int p2)])) _
    refine XS.iand X106.here hx rfl (hb hby at_26) rfl ?_
    show Steps p.tables e below (T106.setTop (mkF m 27 #[.val (.long p0), .second, .val (.int p1), .val (.int p2), .val (.int p3), .val (.int p4), .val (.int p5), .val (.ref b105), .val (.int n), .unset, .unset, .unset, .unset, .unset] [(.int (p2 &&& (2147483647 : Int32)))])) _
    refine XS.iload X106.here hx rfl (hb hby at_27) rfl ?_
    show Steps p.tables e below (T106.setTop (mkF m 29 #[.val (.long p0), .second, .val (.int p1), .val (.int p2), .val (.int p3), .val (.int p4), .val (.int p5), .val (.ref b105), .val (.int n), .unset, .unset, .unset, .unset, .unset] [(.int n), (.int (p2 &&& (2147483647 : Int32)))])) _
    refine Jvm.RoadKit.iremM (g := (mkF m 29 #[.val (.long p0), .second, .val (.int p1), .val (.int p2), .val (.int p3), .val (.int p4), .val (.int p5), .val (.ref b105), .val (.int n), .unset, .unset, .unset, .unset, .unset] [(.int n), (.int (p2 &&& (2147483647 : Int32)))])) X106 hx rfl (hb hby at_29) rfl (own_ne0 hn.1) ?_
    show Steps p.tables e below (T106.setTop (mkF m 30 #[.val (.long p0), .second, .val (.int p1), .val (.int p2), .val (.int p3), .val (.int p4), .val (.int p5), .val (.ref b105), .val (.int n), .unset, .unset, .unset, .unset, .unset] [(.int ((p2 &&& (2147483647 : Int32)) % n))])) _
    rw [h_iI]
    show Steps p.tables e below (T106.setTop (mkF m 30 #[.val (.long p0), .second, .val (.int p1), .val (.int p2), .val (.int p3), .val (.int p4), .val (.int p5), .val (.ref b105), .val (.int n), .unset, .unset, .unset, .unset, .unset] [(.int iI)])) _
    refine XS.istore X106.here hx rfl (hb hby at_30) rfl (l' := #[.val (.long p0), .second, .val (.int p1), .val (.int p2), .val (.int p3), .val (.int p4), .val (.int p5), .val (.ref b105), .val (.int n), .val (.int iI), .unset, .unset, .unset, .unset]) rfl ?_
    show Steps p.tables e below (T106.setTop (mkF m 32 #[.val (.long p0), .second, .val (.int p1), .val (.int p2), .val (.int p3), .val (.int p4), .val (.int p5), .val (.ref b105), .val (.int n), .val (.int iI), .unset, .unset, .unset, .unset] [])) _
    refine XS.iload X106.here hx rfl (hb hby at_32) rfl ?_
    show Steps p.tables e below (T106.setTop (mkF m 34 #[.val (.long p0), .second, .val (.int p1), .val (.int p2), .val (.int p3), .val (.int p4), .val (.int p5), .val (.ref b105), .val (.int n), .val (.int iI), .unset, .unset, .unset, .unset] [(.int p3)])) _
    refine X106.ldcInt hx hown (mvT hZ (hw _ (List.mem_of_getElem? (i := 30) rfl))) (g := (mkF m 34 #[.val (.long p0), .second, .val (.int p1), .val (.int p2), .val (.int p3), .val (.int p4), .val (.int p5), .val (.ref b105), .val (.int n), .val (.int iI), .unset, .unset, .unset, .unset] [(.int p3)])) rfl (hb hby at_34) _ ?_
    show Steps p.tables e below (T106.setTop (mkF m 36 #[.val (.long p0), .second, .val (.int p1), .val (.int p2), .val (.int p3), .val (.int p4), .val (.int p5), .val (.ref b105), .val (.int n), .val (.int iI), .unset, .unset, .unset, .unset] [(.int (2147483647 : Int32)), (.int p3)])) _
    refine XS.iand X106.here hx rfl (hb hby at_36) rfl ?_
    show Steps p.tables e below (T106.setTop (mkF m 37 #[.val (.long p0), .second, .val (.int p1), .val (.int p2), .val (.int p3), .val (.int p4), .val (.int p5), .val (.ref b105), .val (.int n), .val (.int iI), .unset, .unset, .unset, .unset] [(.int (p3 &&& (2147483647 : Int32)))])) _
    refine XS.iload X106.here hx rfl (hb hby at_37) rfl ?_
    show Steps p.tables e below (T106.setTop (mkF m 39 #[.val (.long p0), .second, .val (.int p1), .val (.int p2), .val (.int p3), .val (.int p4), .val (.int p5), .val (.ref b105), .val (.int n), .val (.int iI), .unset, .unset, .unset, .unset] [(.int n), (.int (p3 &&& (2147483647 : Int32)))])) _
    refine Jvm.RoadKit.iremM (g := (mkF m 39 #[.val (.long p0), .second, .val (.int p1), .val (.int p2), .val (.int p3), .val (.int p4), .val (.int p5), .val (.ref b105), .val (.int n), .val (.int iI), .unset, .unset, .unset, .unset] [(.int n), (.int (p3 &&& (2147483647 : Int32)))])) X106 hx rfl (hb hby at_39) rfl (own_ne0 hn.1) ?_
    show Steps p.tables e below (T106.setTop (mkF m 40 #[.val (.long p0), .second, .val (.int p1), .val (.int p2), .val (.int p3), .val (.int p4), .val (.int p5), .val (.ref b105), .val (.int n), .val (.int iI), .unset, .unset, .unset, .unset] [(.int ((p3 &&& (2147483647 : Int32)) % n))])) _
    rw [h_jJ]
    show Steps p.tables e below (T106.setTop (mkF m 40 #[.val (.long p0), .second, .val (.int p1), .val (.int p2), .val (.int p3), .val (.int p4), .val (.int p5), .val (.ref b105), .val (.int n), .val (.int iI), .unset, .unset, .unset, .unset] [(.int jJ)])) _
    refine XS.istore X106.here hx rfl (hb hby at_40) rfl (l' := #[.val (.long p0), .second, .val (.int p1), .val (.int p2), .val (.int p3), .val (.int p4), .val (.int p5), .val (.ref b105), .val (.int n), .val (.int iI), .val (.int jJ), .unset, .unset, .unset]) rfl ?_
    show Steps p.tables e below (T106.setTop (mkF m 42 #[.val (.long p0), .second, .val (.int p1), .val (.int p2), .val (.int p3), .val (.int p4), .val (.int p5), .val (.ref b105), .val (.int n), .val (.int iI), .val (.int jJ), .unset, .unset, .unset] [])) _
    refine XS.sipush X106.here hx rfl (hb hby at_42) ?_
    show Steps p.tables e below (T106.setTop (mkF m 45 #[.val (.long p0), .second, .val (.int p1), .val (.int p2), .val (.int p3), .val (.int p4), .val (.int p5), .val (.ref b105), .val (.int n), .val (.int iI), .val (.int jJ), .unset, .unset, .unset] [(.int (8192 : Int32))])) _
    refine st107 _ ?_
    show Steps p.tables e below (T107.setTop (mkF m 47 #[.val (.long p0), .second, .val (.int p1), .val (.int p2), .val (.int p3), .val (.int p4), .val (.int p5), .val (.ref b105), .val (.int n), .val (.int iI), .val (.int jJ), .unset, .unset, .unset] [(.ref b107)])) _
    refine XS.astore X107.here hx rfl (hb hby at_47) rfl rfl (l' := #[.val (.long p0), .second, .val (.int p1), .val (.int p2), .val (.int p3), .val (.int p4), .val (.int p5), .val (.ref b105), .val (.int n), .val (.int iI), .val (.int jJ), .val (.ref b107), .unset, .unset]) rfl ?_
    show Steps p.tables e below (T107.setTop (mkF m 49 #[.val (.long p0), .second, .val (.int p1), .val (.int p2), .val (.int p3), .val (.int p4), .val (.int p5), .val (.ref b105), .val (.int n), .val (.int iI), .val (.int jJ), .val (.ref b107), .unset, .unset] [])) _
    refine XS.aload X107.here hx rfl (hb hby at_49) rfl rfl ?_
    show Steps p.tables e below (T107.setTop (mkF m 51 #[.val (.long p0), .second, .val (.int p1), .val (.int p2), .val (.int p3), .val (.int p4), .val (.int p5), .val (.ref b105), .val (.int n), .val (.int iI), .val (.int jJ), .val (.ref b107), .unset, .unset] [(.ref b107)])) _
    refine XS.iload X107.here hx rfl (hb hby at_51) rfl ?_
    show Steps p.tables e below (T107.setTop (mkF m 53 #[.val (.long p0), .second, .val (.int p1), .val (.int p2), .val (.int p3), .val (.int p4), .val (.int p5), .val (.ref b105), .val (.int n), .val (.int iI), .val (.int jJ), .val (.ref b107), .unset, .unset] [(.int iI), (.ref b107)])) _
    refine XS.iload X107.here hx rfl (hb hby at_53) rfl ?_
    show Steps p.tables e below (T107.setTop (mkF m 55 #[.val (.long p0), .second, .val (.int p1), .val (.int p2), .val (.int p3), .val (.int p4), .val (.int p5), .val (.ref b105), .val (.int n), .val (.int iI), .val (.int jJ), .val (.ref b107), .unset, .unset] [(.int p4), (.int iI), (.ref b107)])) _
    refine XS.i2b X107.here hx rfl (hb hby at_55) rfl ?_
    show Steps p.tables e below (T107.setTop (mkF m 56 #[.val (.long p0), .second, .val (.int p1), .val (.int p2), .val (.int p3), .val (.int p4), .val (.int p5), .val (.ref b105), .val (.int n), .val (.int iI), .val (.int jJ), .val (.ref b107), .unset, .unset] [(.int (p4.toInt8.toInt32)), (.int iI), (.ref b107)])) _
    refine st109 _ ?_
    show Steps p.tables e below (T109.setTop (mkF m 57 #[.val (.long p0), .second, .val (.int p1), .val (.int p2), .val (.int p3), .val (.int p4), .val (.int p5), .val (.ref b105), .val (.int n), .val (.int iI), .val (.int jJ), .val (.ref b107), .unset, .unset] [])) _
    refine XS.aload X109.here hx rfl (hb hby at_57) rfl rfl ?_
    show Steps p.tables e below (T109.setTop (mkF m 59 #[.val (.long p0), .second, .val (.int p1), .val (.int p2), .val (.int p3), .val (.int p4), .val (.int p5), .val (.ref b105), .val (.int n), .val (.int iI), .val (.int jJ), .val (.ref b107), .unset, .unset] [(.ref b107)])) _
    refine XS.iload X109.here hx rfl (hb hby at_59) rfl ?_
    show Steps p.tables e below (T109.setTop (mkF m 61 #[.val (.long p0), .second, .val (.int p1), .val (.int p2), .val (.int p3), .val (.int p4), .val (.int p5), .val (.ref b105), .val (.int n), .val (.int iI), .val (.int jJ), .val (.ref b107), .unset, .unset] [(.int jJ), (.ref b107)])) _
    refine XS.iload X109.here hx rfl (hb hby at_61) rfl ?_
    show Steps p.tables e below (T109.setTop (mkF m 63 #[.val (.long p0), .second, .val (.int p1), .val (.int p2), .val (.int p3), .val (.int p4), .val (.int p5), .val (.ref b105), .val (.int n), .val (.int iI), .val (.int jJ), .val (.ref b107), .unset, .unset] [(.int p5), (.int jJ), (.ref b107)])) _
    refine XS.i2b X109.here hx rfl (hb hby at_63) rfl ?_
    show Steps p.tables e below (T109.setTop (mkF m 64 #[.val (.long p0), .second, .val (.int p1), .val (.int p2), .val (.int p3), .val (.int p4), .val (.int p5), .val (.ref b105), .val (.int n), .val (.int iI), .val (.int jJ), .val (.ref b107), .unset, .unset] [(.int (p5.toInt8.toInt32)), (.int jJ), (.ref b107)])) _
    refine st111 _ ?_
    show Steps p.tables e below (T111.setTop (mkF m 65 #[.val (.long p0), .second, .val (.int p1), .val (.int p2), .val (.int p3), .val (.int p4), .val (.int p5), .val (.ref b105), .val (.int n), .val (.int iI), .val (.int jJ), .val (.ref b107), .unset, .unset] [])) _
    refine XS.aload X111.here hx rfl (hb hby at_65) rfl rfl ?_
    show Steps p.tables e below (T111.setTop (mkF m 67 #[.val (.long p0), .second, .val (.int p1), .val (.int p2), .val (.int p3), .val (.int p4), .val (.int p5), .val (.ref b105), .val (.int n), .val (.int iI), .val (.int jJ), .val (.ref b107), .unset, .unset] [(.ref b105)])) _
    refine XS.aload X111.here hx rfl (hb hby at_67) rfl rfl ?_
    show Steps p.tables e below (T111.setTop (mkF m 69 #[.val (.long p0), .second, .val (.int p1), .val (.int p2), .val (.int p3), .val (.int p4), .val (.int p5), .val (.ref b105), .val (.int n), .val (.int iI), .val (.int jJ), .val (.ref b107), .unset, .unset] [(.ref b107), (.ref b105)])) _
    refine XS.iconst X111.here hx rfl (hb hby at_69) ?_
    show Steps p.tables e below (T111.setTop (mkF m 70 #[.val (.long p0), .second, .val (.int p1), .val (.int p2), .val (.int p3), .val (.int p4), .val (.int p5), .val (.ref b105), .val (.int n), .val (.int iI), .val (.int jJ), .val (.ref b107), .unset, .unset] [(.int (0 : Int32)), (.ref b107), (.ref b105)])) _
    refine XS.iload X111.here hx rfl (hb hby at_70) rfl ?_
    show Steps p.tables e below (T111.setTop (mkF m 72 #[.val (.long p0), .second, .val (.int p1), .val (.int p2), .val (.int p3), .val (.int p4), .val (.int p5), .val (.ref b105), .val (.int n), .val (.int iI), .val (.int jJ), .val (.ref b107), .unset, .unset] [(.int n), (.int (0 : Int32)), (.ref b107), (.ref b105)])) _
    refine st117.trans ?_
    show Steps p.tables e below (T117.setTop (mkF m 75 #[.val (.long p0), .second, .val (.int p1), .val (.int p2), .val (.int p3), .val (.int p4), .val (.int p5), .val (.ref b105), .val (.int n), .val (.int iI), .val (.int jJ), .val (.ref b107), .unset, .unset] [])) _
    refine XS.aload X117.here hx rfl (hb hby at_75) rfl rfl ?_
    show Steps p.tables e below (T117.setTop (mkF m 77 #[.val (.long p0), .second, .val (.int p1), .val (.int p2), .val (.int p3), .val (.int p4), .val (.int p5), .val (.ref b105), .val (.int n), .val (.int iI), .val (.int jJ), .val (.ref b107), .unset, .unset] [(.ref b105)])) _
    refine XS.iload X117.here hx rfl (hb hby at_77) rfl ?_
    show Steps p.tables e below (T117.setTop (mkF m 79 #[.val (.long p0), .second, .val (.int p1), .val (.int p2), .val (.int p3), .val (.int p4), .val (.int p5), .val (.ref b105), .val (.int n), .val (.int iI), .val (.int jJ), .val (.ref b107), .unset, .unset] [(.int p4), (.ref b105)])) _
    refine XS.bipush X117.here hx rfl (hb hby at_79) ?_
    show Steps p.tables e below (T117.setTop (mkF m 81 #[.val (.long p0), .second, .val (.int p1), .val (.int p2), .val (.int p3), .val (.int p4), .val (.int p5), .val (.ref b105), .val (.int n), .val (.int iI), .val (.int jJ), .val (.ref b107), .unset, .unset] [(.int (8 : Int32)), (.int p4), (.ref b105)])) _
    refine XS.ishr X117.here hx rfl (hb hby at_81) rfl ?_
    show Steps p.tables e below (T117.setTop (mkF m 82 #[.val (.long p0), .second, .val (.int p1), .val (.int p2), .val (.int p3), .val (.int p4), .val (.int p5), .val (.ref b105), .val (.int n), .val (.int iI), .val (.int jJ), .val (.ref b107), .unset, .unset] [(.int (p4 >>> ((8 : Int32) &&& 31))), (.ref b105)])) _
    refine st118.trans ?_
    show Steps p.tables e below (T118.setTop (mkF m 85 #[.val (.long p0), .second, .val (.int p1), .val (.int p2), .val (.int p3), .val (.int p4), .val (.int p5), .val (.ref b105), .val (.int n), .val (.int iI), .val (.int jJ), .val (.ref b107), .unset, .unset] [])) _
    refine XS.iload X118.here hx rfl (hb hby at_85) rfl ?_
    show Steps p.tables e below (T118.setTop (mkF m 87 #[.val (.long p0), .second, .val (.int p1), .val (.int p2), .val (.int p3), .val (.int p4), .val (.int p5), .val (.ref b105), .val (.int n), .val (.int iI), .val (.int jJ), .val (.ref b107), .unset, .unset] [(.int iI)])) _
    refine XS.iload X118.here hx rfl (hb hby at_87) rfl ?_
    exact kt
  (try clear K118); (try clear N118q); (try clear st118); (try clear Lc118); (try clear n118); (try clear k118); (try clear L118); (try clear q118c); (try clear q118b); (try clear q118a); (try clear kq118); (try clear cq118); (try clear KP117); (try clear EX117); (try clear e117); (try clear N117); (try clear V117); (try clear A117); (try clear E117); (try clear K117); (try clear N117q); (try clear st117); (try clear Lc117); (try clear X117); (try clear n117); (try clear k117); (try clear L117); (try clear T117); (try clear q117c); (try clear q117b); (try clear q117a); (try clear kq117); (try clear cq117); (try clear Fx116); (try clear Fx115); (try clear Fx114); (try clear Fx113); (try clear Fx112); (try clear N111); (try clear KP111); (try clear EX111); (try clear st111); (try clear W111); (try clear e111); (try clear X111); (try clear h111); (try clear T111); (try clear hin110); (try clear G110); (try clear H110_); (try clear N110_); (try clear S110); (try clear q110); (try clear Ar110); (try clear cl110); (try clear N109); (try clear V109); (try clear KP109); (try clear EX109); (try clear st109); (try clear W109); (try clear e109); (try clear X109); (try clear h109); (try clear T109); (try clear hin108); (try clear G108); (try clear H108_); (try clear N108_); (try clear S108); (try clear q108); (try clear Ar108); (try clear cl108); (try clear V107); (try clear KP107); (try clear EX107); (try clear st107); (try clear A107); (try clear E107); (try clear e107); (try clear X107); (try clear h107); (try clear T107); (try clear KP106); (try clear EX106); (try clear e106); (try clear N106); (try clear V106); (try clear A106); (try clear E106); (try clear K106); (try clear N106q); (try clear st106); (try clear Lc106); (try clear X106); (try clear n106); (try clear k106); (try clear L106); (try clear T106); (try clear F105_length); (try clear F105_chunks); (try clear KP105); (try clear EX105); (try clear st105); (try clear D105); (try clear A105); (try clear E105); (try clear e105); (try clear X105); (try clear h105); (try clear T105)
  by_cases hc89_119 : iI = jJ
  · -- pc 89: iI = jJ
    have ck122 : ∀ t, Steps p.tables e below (T118.setTop (mkF m 106 #[.val (.long p0), .second, .val (.int p1), .val (.int p2), .val (.int p3), .val (.int p4), .val (.int p5), .val (.ref b105), .val (.int n), .val (.int iI), .val (.int jJ), .val (.ref b107), .val (.int (p5.toInt8.toInt32)), .unset] [(.int jJ), (.int (0 : Int32))])) t → Steps p.tables e below (s₁.setTop (entryFrame m #[(.long p0), (.int p1), (.int p2), (.int p3), (.int p4), (.int p5)] maxLocals)) t := by
      intro t kt
      refine ck120 _ ?_
      show Steps p.tables e below (T118.setTop (mkF m 89 #[.val (.long p0), .second, .val (.int p1), .val (.int p2), .val (.int p3), .val (.int p4), .val (.int p5), .val (.ref b105), .val (.int n), .val (.int iI), .val (.int jJ), .val (.ref b107), .unset, .unset] [(.int jJ), (.int iI)])) _
      refine XS.icmpNo X118.here hx rfl (hb hby at_89) rfl (teq hc89_119).2 ?_
      show Steps p.tables e below (T118.setTop (mkF m 92 #[.val (.long p0), .second, .val (.int p1), .val (.int p2), .val (.int p3), .val (.int p4), .val (.int p5), .val (.ref b105), .val (.int n), .val (.int iI), .val (.int jJ), .val (.ref b107), .unset, .unset] [])) _
      refine XS.iload X118.here hx rfl (hb hby at_92) rfl ?_
      show Steps p.tables e below (T118.setTop (mkF m 94 #[.val (.long p0), .second, .val (.int p1), .val (.int p2), .val (.int p3), .val (.int p4), .val (.int p5), .val (.ref b105), .val (.int n), .val (.int iI), .val (.int jJ), .val (.ref b107), .unset, .unset] [(.int p5)])) _
      refine XS.i2b X118.here hx rfl (hb hby at_94) rfl ?_
      show Steps p.tables e below (T118.setTop (mkF m 95 #[.val (.long p0), .second, .val (.int p1), .val (.int p2), .val (.int p3), .val (.int p4), .val (.int p5), .val (.ref b105), .val (.int n), .val (.int iI), .val (.int jJ), .val (.ref b107), .unset, .unset] [(.int (p5.toInt8.toInt32))])) _
      refine XS.goto X118.here hx rfl (pc0 := 95) (pc' := 101) rfl (hb hby at_95) (by decide) (by decide) ?_
      show Steps p.tables e below (T118.setTop (mkF m 101 #[.val (.long p0), .second, .val (.int p1), .val (.int p2), .val (.int p3), .val (.int p4), .val (.int p5), .val (.ref b105), .val (.int n), .val (.int iI), .val (.int jJ), .val (.ref b107), .unset, .unset] [(.int (p5.toInt8.toInt32))])) _
      refine XS.istore X118.here hx rfl (hb hby at_101) rfl (l' := #[.val (.long p0), .second, .val (.int p1), .val (.int p2), .val (.int p3), .val (.int p4), .val (.int p5), .val (.ref b105), .val (.int n), .val (.int iI), .val (.int jJ), .val (.ref b107), .val (.int (p5.toInt8.toInt32)), .unset]) rfl ?_
      show Steps p.tables e below (T118.setTop (mkF m 103 #[.val (.long p0), .second, .val (.int p1), .val (.int p2), .val (.int p3), .val (.int p4), .val (.int p5), .val (.ref b105), .val (.int n), .val (.int iI), .val (.int jJ), .val (.ref b107), .val (.int (p5.toInt8.toInt32)), .unset] [])) _
      refine XS.iconst X118.here hx rfl (hb hby at_103) ?_
      show Steps p.tables e below (T118.setTop (mkF m 104 #[.val (.long p0), .second, .val (.int p1), .val (.int p2), .val (.int p3), .val (.int p4), .val (.int p5), .val (.ref b105), .val (.int n), .val (.int iI), .val (.int jJ), .val (.ref b107), .val (.int (p5.toInt8.toInt32)), .unset] [(.int (0 : Int32))])) _
      refine XS.iload X118.here hx rfl (hb hby at_104) rfl ?_
      exact kt
    by_cases hc106_121 : (0 : Int32) = jJ
    · -- pc 106: (0 : Int32) = jJ
      obtain ⟨cq123, kq123, q123a, q123b, q123c⟩ := isOf hZ e118 (E118)
      obtain ⟨_, _, ⟨T123, L123, k123, n123⟩, -, X123, ⟨Lc123, hQ123, l123, y123, z123⟩, st123⟩ := X118.virtualBack hx (y := (⟨"com/example/cubelet/cubelet/Chunks", "get", "(J)B"⟩ : MethodName)) (z := (⟨"com/example/cubelet/cubelet/Chunks", "get", "(J)B"⟩ : MethodName)) hown (mvT hZ (hw _ (List.mem_of_getElem? (i := 56) rfl))) (mvT hZ (hw _ (List.mem_of_getElem? (i := 57) rfl))) (notFace_of_selects (args := #[]) (mvT hZ (hw _ (List.mem_of_getElem? (i := 59) rfl)))) (mvT hZ (hw _ (List.mem_of_getElem? (i := 59) rfl))) (mvT hZ (hw _ (List.mem_of_getElem? (i := 58) rfl))) (by decide) (backOf (W := 0) (rm_get l Z a0 hw [] b105 (iI.toInt64) T118.heap n0 (Nat.le_trans Z0 EX118.1) c1 c4 kc1 kc4 z4 f4 Fc118 A118 V118 (by have := c_i2l iI; omega) hz4') hZ (hw _ (List.mem_of_getElem? (i := 60) rfl)) (hw _ (List.mem_of_getElem? (i := 2) rfl)) (by decide) (by decide)) q123a q123c (g := (mkF m 135 #[.val (.long p0), .second, .val (.int p1), .val (.int p2), .val (.int p3), .val (.int p4), .val (.int p5), .val (.ref b105), .val (.int n), .val (.int iI), .val (.int jJ), .val (.ref b107), .val (.int (p5.toInt8.toInt32)), .val (.int (p5.toInt8.toInt32))] [(.long (iI.toInt64)), (.ref b105)])) rfl (by rw [hml]; rfl) (Steps.refl _) (argsL := [(.long (iI.toInt64))]) (rest := []) (lenOf pd_228 rfl) rfl (by show 2 * 0 + _ ≤ _; exact Nat.le_of_eq rfl) (hb hby at_135) (fun _ _ => ⟨rfl, e118, (by decide : 6 + 0 ≤ _), (by decide : 57346 + 0 ≤ _)⟩)
      dsimp only [Pt.U, Pt.locs, Pt.cells, Pt.slots] at X123 l123 y123 z123 st123 hQ123
      subst l123 y123 z123
      obtain ⟨rfl, N123q, e123⟩ := hQ123
      have N123 := Fr.app N118 N123q
      have G135_124 : (nar .byte (f4 (iI.toInt64).toInt.toNat)) = (p5.toInt8.toInt32) := by
        rw [own_i64, hA _ (own_ki hi)]
        refine (congrArg (nar .byte) (if_pos (congrArg Int32.toNatClampNeg hc89_119))).trans (own_nar _)
      obtain ⟨cq125, kq125, q125a, q125b, q125c⟩ := isOf hZ e123 (E118)
      obtain ⟨_, _, ⟨T125, L125, k125, n125⟩, -, X125, ⟨Lc125, hQ125, l125, y125, z125⟩, st125⟩ := X123.virtualBack hx (y := (⟨"com/example/cubelet/cubelet/Chunks", "get", "(J)B"⟩ : MethodName)) (z := (⟨"com/example/cubelet/cubelet/Chunks", "get", "(J)B"⟩ : MethodName)) hown (mvT hZ (hw _ (List.mem_of_getElem? (i := 56) rfl))) (mvT hZ (hw _ (List.mem_of_getElem? (i := 57) rfl))) (notFace_of_selects (args := #[]) (mvT hZ (hw _ (List.mem_of_getElem? (i := 59) rfl)))) (mvT hZ (hw _ (List.mem_of_getElem? (i := 59) rfl))) (mvT hZ (hw _ (List.mem_of_getElem? (i := 58) rfl))) (by decide) (backOf (W := 0) (rm_get l Z a0 hw [] b105 (jJ.toInt64) T118.heap n0 (Nat.le_trans Z0 EX118.1) c1 c4 kc1 kc4 z4 f4 Fc118 A118 V118 (by have := c_i2l jJ; omega) hz4') hZ (hw _ (List.mem_of_getElem? (i := 60) rfl)) (hw _ (List.mem_of_getElem? (i := 2) rfl)) (by decide) (by decide)) q125a q125c (g := (mkF m 148 #[.val (.long p0), .second, .val (.int p1), .val (.int p2), .val (.int p3), .val (.int p4), .val (.int p5), .val (.ref b105), .val (.int n), .val (.int iI), .val (.int jJ), .val (.ref b107), .val (.int (p5.toInt8.toInt32)), .val (.int (p5.toInt8.toInt32))] [(.long (jJ.toInt64)), (.ref b105)])) rfl (by rw [hml]; rfl) (Steps.refl _) (argsL := [(.long (jJ.toInt64))]) (rest := []) (lenOf pd_228 rfl) rfl (by show 2 * 0 + _ ≤ _; exact Nat.le_of_eq rfl) (hb hby at_148) (fun _ _ => ⟨rfl, e123, (by decide : 6 + 0 ≤ _), (by decide : 57346 + 0 ≤ _)⟩)
      dsimp only [Pt.U, Pt.locs, Pt.cells, Pt.slots] at X125 l125 y125 z125 st125 hQ125
      subst l125 y125 z125
      obtain ⟨rfl, N125q, e125⟩ := hQ125
      have N125 := Fr.app N123 N125q
      have G148_126 : (nar .byte (f4 (jJ.toInt64).toInt.toNat)) = (p5.toInt8.toInt32) := by
        rw [own_i64, hA _ (own_ki hj)]
        refine (congrArg (nar .byte) (if_pos rfl)).trans (own_nar _)
      obtain ⟨cq127, kq127, q127a, q127b, q127c⟩ := isOf hZ e125 (E118)
      obtain ⟨_, _, ⟨T127, L127, k127, n127⟩, -, X127, ⟨Lc127, hQ127, l127, y127, z127⟩, st127⟩ := X125.virtualBack hx (y := (⟨"com/example/cubelet/cubelet/Chunks", "get", "(J)B"⟩ : MethodName)) (z := (⟨"com/example/cubelet/cubelet/Chunks", "get", "(J)B"⟩ : MethodName)) hown (mvT hZ (hw _ (List.mem_of_getElem? (i := 56) rfl))) (mvT hZ (hw _ (List.mem_of_getElem? (i := 57) rfl))) (notFace_of_selects (args := #[]) (mvT hZ (hw _ (List.mem_of_getElem? (i := 59) rfl)))) (mvT hZ (hw _ (List.mem_of_getElem? (i := 59) rfl))) (mvT hZ (hw _ (List.mem_of_getElem? (i := 58) rfl))) (by decide) (backOf (W := 0) (rm_get l Z a0 hw [] b105 (0 : Int64) T118.heap n0 (Nat.le_trans Z0 EX118.1) c1 c4 kc1 kc4 z4 f4 Fc118 A118 V118 ⟨by decide, by have := own_00; omega⟩ hz4') hZ (hw _ (List.mem_of_getElem? (i := 60) rfl)) (hw _ (List.mem_of_getElem? (i := 2) rfl)) (by decide) (by decide)) q127a q127c (g := (mkF m 160 #[.val (.long p0), .second, .val (.int p1), .val (.int p2), .val (.int p3), .val (.int p4), .val (.int p5), .val (.ref b105), .val (.int n), .val (.int iI), .val (.int jJ), .val (.ref b107), .val (.int (p5.toInt8.toInt32)), .val (.int (p5.toInt8.toInt32))] [(.long (0 : Int64)), (.ref b105)])) rfl (by rw [hml]; rfl) (Steps.refl _) (argsL := [(.long (0 : Int64))]) (rest := []) (lenOf pd_228 rfl) rfl (by show 2 * 0 + _ ≤ _; exact Nat.le_of_eq rfl) (hb hby at_160) (fun _ _ => ⟨rfl, e125, (by decide : 6 + 0 ≤ _), (by decide : 57346 + 0 ≤ _)⟩)
      dsimp only [Pt.U, Pt.locs, Pt.cells, Pt.slots] at X127 l127 y127 z127 st127 hQ127
      subst l127 y127 z127
      obtain ⟨rfl, N127q, e127⟩ := hQ127
      have N127 := Fr.app N125 N127q
      have G160_128 : (nar .byte (f4 (0 : Int64).toInt.toNat)) = (p5.toInt8.toInt32) := by
        rw [show ((0 : Int64).toInt.toNat) = 0 from rfl, hA 0 (by omega)]
        refine (congrArg (nar .byte) (if_pos (own_0jt hc106_121))).trans (own_nar _)
      obtain ⟨cq129, kq129, q129a, q129b, q129c⟩ := isOf hZ e127 (E118)
      obtain ⟨_, _, ⟨T129, L129, k129, n129⟩, -, X129, ⟨Lc129, hQ129, l129, y129, z129⟩, st129⟩ := X127.virtualBack hx (y := (⟨"com/example/cubelet/cubelet/Chunks", "get", "(J)B"⟩ : MethodName)) (z := (⟨"com/example/cubelet/cubelet/Chunks", "get", "(J)B"⟩ : MethodName)) hown (mvT hZ (hw _ (List.mem_of_getElem? (i := 56) rfl))) (mvT hZ (hw _ (List.mem_of_getElem? (i := 57) rfl))) (notFace_of_selects (args := #[]) (mvT hZ (hw _ (List.mem_of_getElem? (i := 59) rfl)))) (mvT hZ (hw _ (List.mem_of_getElem? (i := 59) rfl))) (mvT hZ (hw _ (List.mem_of_getElem? (i := 58) rfl))) (by decide) (backOf (W := 0) (rm_get l Z a0 hw [] b105 (n.toInt64) T118.heap n0 (Nat.le_trans Z0 EX118.1) c1 c4 kc1 kc4 z4 f4 Fc118 A118 V118 (by have := c_i2l n; omega) hz4') hZ (hw _ (List.mem_of_getElem? (i := 60) rfl)) (hw _ (List.mem_of_getElem? (i := 2) rfl)) (by decide) (by decide)) q129a q129c (g := (mkF m 173 #[.val (.long p0), .second, .val (.int p1), .val (.int p2), .val (.int p3), .val (.int p4), .val (.int p5), .val (.ref b105), .val (.int n), .val (.int iI), .val (.int jJ), .val (.ref b107), .val (.int (p5.toInt8.toInt32)), .val (.int (p5.toInt8.toInt32))] [(.long (n.toInt64)), (.ref b105)])) rfl (by rw [hml]; rfl) (Steps.refl _) (argsL := [(.long (n.toInt64))]) (rest := []) (lenOf pd_228 rfl) rfl (by show 2 * 0 + _ ≤ _; exact Nat.le_of_eq rfl) (hb hby at_173) (fun _ _ => ⟨rfl, e127, (by decide : 6 + 0 ≤ _), (by decide : 57346 + 0 ≤ _)⟩)
      dsimp only [Pt.U, Pt.locs, Pt.cells, Pt.slots] at X129 l129 y129 z129 st129 hQ129
      subst l129 y129 z129
      obtain ⟨rfl, N129q, e129⟩ := hQ129
      have N129 := Fr.app N127 N129q
      have G173_130 : (nar .byte (f4 (n.toInt64).toInt.toNat)) = ((p4 >>> ((8 : Int32) &&& 31)).toInt8.toInt32) := by
        rw [own_ln2 hl3, hP4.2]
        exact own_nar _
      obtain ⟨fs, hr, hrun, hended, hW, hsame⟩ := X129.leave (v := some (.int (1 : Int32))) (fun h => by rw [Bd.returns] at h; cases h)
      refine ⟨_, _, ck122 _ ?_, hrun, hended, _, _, rfl, ?_, ⟨_, rfl⟩, hW, hsame.mono (by decide) (by decide)⟩
      · show Steps p.tables e below (T118.setTop (mkF m 106 #[.val (.long p0), .second, .val (.int p1), .val (.int p2), .val (.int p3), .val (.int p4), .val (.int p5), .val (.ref b105), .val (.int n), .val (.int iI), .val (.int jJ), .val (.ref b107), .val (.int (p5.toInt8.toInt32)), .unset] [(.int jJ), (.int (0 : Int32))])) _
        refine XS.icmpNo X118.here hx rfl (hb hby at_106) rfl (teq hc106_121).2 ?_
        show Steps p.tables e below (T118.setTop (mkF m 109 #[.val (.long p0), .second, .val (.int p1), .val (.int p2), .val (.int p3), .val (.int p4), .val (.int p5), .val (.ref b105), .val (.int n), .val (.int iI), .val (.int jJ), .val (.ref b107), .val (.int (p5.toInt8.toInt32)), .unset] [])) _
        refine XS.iload X118.here hx rfl (hb hby at_109) rfl ?_
        show Steps p.tables e below (T118.setTop (mkF m 111 #[.val (.long p0), .second, .val (.int p1), .val (.int p2), .val (.int p3), .val (.int p4), .val (.int p5), .val (.ref b105), .val (.int n), .val (.int iI), .val (.int jJ), .val (.ref b107), .val (.int (p5.toInt8.toInt32)), .unset] [(.int p5)])) _
        refine XS.i2b X118.here hx rfl (hb hby at_111) rfl ?_
        show Steps p.tables e below (T118.setTop (mkF m 112 #[.val (.long p0), .second, .val (.int p1), .val (.int p2), .val (.int p3), .val (.int p4), .val (.int p5), .val (.ref b105), .val (.int n), .val (.int iI), .val (.int jJ), .val (.ref b107), .val (.int (p5.toInt8.toInt32)), .unset] [(.int (p5.toInt8.toInt32))])) _
        refine XS.goto X118.here hx rfl (pc0 := 112) (pc' := 128) rfl (hb hby at_112) (by decide) (by decide) ?_
        show Steps p.tables e below (T118.setTop (mkF m 128 #[.val (.long p0), .second, .val (.int p1), .val (.int p2), .val (.int p3), .val (.int p4), .val (.int p5), .val (.ref b105), .val (.int n), .val (.int iI), .val (.int jJ), .val (.ref b107), .val (.int (p5.toInt8.toInt32)), .unset] [(.int (p5.toInt8.toInt32))])) _
        refine XS.istore X118.here hx rfl (hb hby at_128) rfl (l' := #[.val (.long p0), .second, .val (.int p1), .val (.int p2), .val (.int p3), .val (.int p4), .val (.int p5), .val (.ref b105), .val (.int n), .val (.int iI), .val (.int jJ), .val (.ref b107), .val (.int (p5.toInt8.toInt32)), .val (.int (p5.toInt8.toInt32))]) rfl ?_
        show Steps p.tables e below (T118.setTop (mkF m 130 #[.val (.long p0), .second, .val (.int p1), .val (.int p2), .val (.int p3), .val (.int p4), .val (.int p5), .val (.ref b105), .val (.int n), .val (.int iI), .val (.int jJ), .val (.ref b107), .val (.int (p5.toInt8.toInt32)), .val (.int (p5.toInt8.toInt32))] [])) _
        refine XS.aload X118.here hx rfl (hb hby at_130) rfl rfl ?_
        show Steps p.tables e below (T118.setTop (mkF m 132 #[.val (.long p0), .second, .val (.int p1), .val (.int p2), .val (.int p3), .val (.int p4), .val (.int p5), .val (.ref b105), .val (.int n), .val (.int iI), .val (.int jJ), .val (.ref b107), .val (.int (p5.toInt8.toInt32)), .val (.int (p5.toInt8.toInt32))] [(.ref b105)])) _
        refine XS.iload X118.here hx rfl (hb hby at_132) rfl ?_
        show Steps p.tables e below (T118.setTop (mkF m 134 #[.val (.long p0), .second, .val (.int p1), .val (.int p2), .val (.int p3), .val (.int p4), .val (.int p5), .val (.ref b105), .val (.int n), .val (.int iI), .val (.int jJ), .val (.ref b107), .val (.int (p5.toInt8.toInt32)), .val (.int (p5.toInt8.toInt32))] [(.int iI), (.ref b105)])) _
        refine XS.i2l X118.here hx rfl (hb hby at_134) rfl ?_
        show Steps p.tables e below (T118.setTop (mkF m 135 #[.val (.long p0), .second, .val (.int p1), .val (.int p2), .val (.int p3), .val (.int p4), .val (.int p5), .val (.ref b105), .val (.int n), .val (.int iI), .val (.int jJ), .val (.ref b107), .val (.int (p5.toInt8.toInt32)), .val (.int (p5.toInt8.toInt32))] [(.long (iI.toInt64)), (.ref b105)])) _
        refine st123.trans ?_
        show Steps p.tables e below (T123.setTop (mkF m 138 #[.val (.long p0), .second, .val (.int p1), .val (.int p2), .val (.int p3), .val (.int p4), .val (.int p5), .val (.ref b105), .val (.int n), .val (.int iI), .val (.int jJ), .val (.ref b107), .val (.int (p5.toInt8.toInt32)), .val (.int (p5.toInt8.toInt32))] [(.int (nar .byte (f4 (iI.toInt64).toInt.toNat)))])) _
        rw [G135_124]
        show Steps p.tables e below (T123.setTop (mkF m 138 #[.val (.long p0), .second, .val (.int p1), .val (.int p2), .val (.int p3), .val (.int p4), .val (.int p5), .val (.ref b105), .val (.int n), .val (.int iI), .val (.int jJ), .val (.ref b107), .val (.int (p5.toInt8.toInt32)), .val (.int (p5.toInt8.toInt32))] [(.int (p5.toInt8.toInt32))])) _
        refine XS.iload X123.here hx rfl (hb hby at_138) rfl ?_
        show Steps p.tables e below (T123.setTop (mkF m 140 #[.val (.long p0), .second, .val (.int p1), .val (.int p2), .val (.int p3), .val (.int p4), .val (.int p5), .val (.ref b105), .val (.int n), .val (.int iI), .val (.int jJ), .val (.ref b107), .val (.int (p5.toInt8.toInt32)), .val (.int (p5.toInt8.toInt32))] [(.int (p5.toInt8.toInt32)), (.int (p5.toInt8.toInt32))])) _
        refine XS.icmpNo X123.here hx rfl (hb hby at_140) rfl (teq (rfl : (p5.toInt8.toInt32) = (p5.toInt8.toInt32))).2 ?_
        show Steps p.tables e below (T123.setTop (mkF m 143 #[.val (.long p0), .second, .val (.int p1), .val (.int p2), .val (.int p3), .val (.int p4), .val (.int p5), .val (.ref b105), .val (.int n), .val (.int iI), .val (.int jJ), .val (.ref b107), .val (.int (p5.toInt8.toInt32)), .val (.int (p5.toInt8.toInt32))] [])) _
        refine XS.aload X123.here hx rfl (hb hby at_143) rfl rfl ?_
        show Steps p.tables e below (T123.setTop (mkF m 145 #[.val (.long p0), .second, .val (.int p1), .val (.int p2), .val (.int p3), .val (.int p4), .val (.int p5), .val (.ref b105), .val (.int n), .val (.int iI), .val (.int jJ), .val (.ref b107), .val (.int (p5.toInt8.toInt32)), .val (.int (p5.toInt8.toInt32))] [(.ref b105)])) _
        refine XS.iload X123.here hx rfl (hb hby at_145) rfl ?_
        show Steps p.tables e below (T123.setTop (mkF m 147 #[.val (.long p0), .second, .val (.int p1), .val (.int p2), .val (.int p3), .val (.int p4), .val (.int p5), .val (.ref b105), .val (.int n), .val (.int iI), .val (.int jJ), .val (.ref b107), .val (.int (p5.toInt8.toInt32)), .val (.int (p5.toInt8.toInt32))] [(.int jJ), (.ref b105)])) _
        refine XS.i2l X123.here hx rfl (hb hby at_147) rfl ?_
        show Steps p.tables e below (T123.setTop (mkF m 148 #[.val (.long p0), .second, .val (.int p1), .val (.int p2), .val (.int p3), .val (.int p4), .val (.int p5), .val (.ref b105), .val (.int n), .val (.int iI), .val (.int jJ), .val (.ref b107), .val (.int (p5.toInt8.toInt32)), .val (.int (p5.toInt8.toInt32))] [(.long (jJ.toInt64)), (.ref b105)])) _
        refine st125.trans ?_
        show Steps p.tables e below (T125.setTop (mkF m 151 #[.val (.long p0), .second, .val (.int p1), .val (.int p2), .val (.int p3), .val (.int p4), .val (.int p5), .val (.ref b105), .val (.int n), .val (.int iI), .val (.int jJ), .val (.ref b107), .val (.int (p5.toInt8.toInt32)), .val (.int (p5.toInt8.toInt32))] [(.int (nar .byte (f4 (jJ.toInt64).toInt.toNat)))])) _
        rw [G148_126]
        show Steps p.tables e below (T125.setTop (mkF m 151 #[.val (.long p0), .second, .val (.int p1), .val (.int p2), .val (.int p3), .val (.int p4), .val (.int p5), .val (.ref b105), .val (.int n), .val (.int iI), .val (.int jJ), .val (.ref b107), .val (.int (p5.toInt8.toInt32)), .val (.int (p5.toInt8.toInt32))] [(.int (p5.toInt8.toInt32))])) _
        refine XS.iload X125.here hx rfl (hb hby at_151) rfl ?_
        show Steps p.tables e below (T125.setTop (mkF m 153 #[.val (.long p0), .second, .val (.int p1), .val (.int p2), .val (.int p3), .val (.int p4), .val (.int p5), .val (.ref b105), .val (.int n), .val (.int iI), .val (.int jJ), .val (.ref b107), .val (.int (p5.toInt8.toInt32)), .val (.int (p5.toInt8.toInt32))] [(.int p5), (.int (p5.toInt8.toInt32))])) _
        refine XS.i2b X125.here hx rfl (hb hby at_153) rfl ?_
        show Steps p.tables e below (T125.setTop (mkF m 154 #[.val (.long p0), .second, .val (.int p1), .val (.int p2), .val (.int p3), .val (.int p4), .val (.int p5), .val (.ref b105), .val (.int n), .val (.int iI), .val (.int jJ), .val (.ref b107), .val (.int (p5.toInt8.toInt32)), .val (.int (p5.toInt8.toInt32))] [(.int (p5.toInt8.toInt32)), (.int (p5.toInt8.toInt32))])) _
        refine XS.icmpNo X125.here hx rfl (hb hby at_154) rfl (teq (rfl : (p5.toInt8.toInt32) = (p5.toInt8.toInt32))).2 ?_
        show Steps p.tables e below (T125.setTop (mkF m 157 #[.val (.long p0), .second, .val (.int p1), .val (.int p2), .val (.int p3), .val (.int p4), .val (.int p5), .val (.ref b105), .val (.int n), .val (.int iI), .val (.int jJ), .val (.ref b107), .val (.int (p5.toInt8.toInt32)), .val (.int (p5.toInt8.toInt32))] [])) _
        refine XS.aload X125.here hx rfl (hb hby at_157) rfl rfl ?_
        show Steps p.tables e below (T125.setTop (mkF m 159 #[.val (.long p0), .second, .val (.int p1), .val (.int p2), .val (.int p3), .val (.int p4), .val (.int p5), .val (.ref b105), .val (.int n), .val (.int iI), .val (.int jJ), .val (.ref b107), .val (.int (p5.toInt8.toInt32)), .val (.int (p5.toInt8.toInt32))] [(.ref b105)])) _
        refine XS.lconst X125.here hx rfl (hb hby at_159) ?_
        show Steps p.tables e below (T125.setTop (mkF m 160 #[.val (.long p0), .second, .val (.int p1), .val (.int p2), .val (.int p3), .val (.int p4), .val (.int p5), .val (.ref b105), .val (.int n), .val (.int iI), .val (.int jJ), .val (.ref b107), .val (.int (p5.toInt8.toInt32)), .val (.int (p5.toInt8.toInt32))] [(.long (0 : Int64)), (.ref b105)])) _
        refine st127.trans ?_
        show Steps p.tables e below (T127.setTop (mkF m 163 #[.val (.long p0), .second, .val (.int p1), .val (.int p2), .val (.int p3), .val (.int p4), .val (.int p5), .val (.ref b105), .val (.int n), .val (.int iI), .val (.int jJ), .val (.ref b107), .val (.int (p5.toInt8.toInt32)), .val (.int (p5.toInt8.toInt32))] [(.int (nar .byte (f4 (0 : Int64).toInt.toNat)))])) _
        rw [G160_128]
        show Steps p.tables e below (T127.setTop (mkF m 163 #[.val (.long p0), .second, .val (.int p1), .val (.int p2), .val (.int p3), .val (.int p4), .val (.int p5), .val (.ref b105), .val (.int n), .val (.int iI), .val (.int jJ), .val (.ref b107), .val (.int (p5.toInt8.toInt32)), .val (.int (p5.toInt8.toInt32))] [(.int (p5.toInt8.toInt32))])) _
        refine XS.iload X127.here hx rfl (hb hby at_163) rfl ?_
        show Steps p.tables e below (T127.setTop (mkF m 165 #[.val (.long p0), .second, .val (.int p1), .val (.int p2), .val (.int p3), .val (.int p4), .val (.int p5), .val (.ref b105), .val (.int n), .val (.int iI), .val (.int jJ), .val (.ref b107), .val (.int (p5.toInt8.toInt32)), .val (.int (p5.toInt8.toInt32))] [(.int (p5.toInt8.toInt32)), (.int (p5.toInt8.toInt32))])) _
        refine XS.icmpNo X127.here hx rfl (hb hby at_165) rfl (teq (rfl : (p5.toInt8.toInt32) = (p5.toInt8.toInt32))).2 ?_
        show Steps p.tables e below (T127.setTop (mkF m 168 #[.val (.long p0), .second, .val (.int p1), .val (.int p2), .val (.int p3), .val (.int p4), .val (.int p5), .val (.ref b105), .val (.int n), .val (.int iI), .val (.int jJ), .val (.ref b107), .val (.int (p5.toInt8.toInt32)), .val (.int (p5.toInt8.toInt32))] [])) _
        refine XS.aload X127.here hx rfl (hb hby at_168) rfl rfl ?_
        show Steps p.tables e below (T127.setTop (mkF m 170 #[.val (.long p0), .second, .val (.int p1), .val (.int p2), .val (.int p3), .val (.int p4), .val (.int p5), .val (.ref b105), .val (.int n), .val (.int iI), .val (.int jJ), .val (.ref b107), .val (.int (p5.toInt8.toInt32)), .val (.int (p5.toInt8.toInt32))] [(.ref b105)])) _
        refine XS.iload X127.here hx rfl (hb hby at_170) rfl ?_
        show Steps p.tables e below (T127.setTop (mkF m 172 #[.val (.long p0), .second, .val (.int p1), .val (.int p2), .val (.int p3), .val (.int p4), .val (.int p5), .val (.ref b105), .val (.int n), .val (.int iI), .val (.int jJ), .val (.ref b107), .val (.int (p5.toInt8.toInt32)), .val (.int (p5.toInt8.toInt32))] [(.int n), (.ref b105)])) _
        refine XS.i2l X127.here hx rfl (hb hby at_172) rfl ?_
        show Steps p.tables e below (T127.setTop (mkF m 173 #[.val (.long p0), .second, .val (.int p1), .val (.int p2), .val (.int p3), .val (.int p4), .val (.int p5), .val (.ref b105), .val (.int n), .val (.int iI), .val (.int jJ), .val (.ref b107), .val (.int (p5.toInt8.toInt32)), .val (.int (p5.toInt8.toInt32))] [(.long (n.toInt64)), (.ref b105)])) _
        refine st129.trans ?_
        show Steps p.tables e below (T129.setTop (mkF m 176 #[.val (.long p0), .second, .val (.int p1), .val (.int p2), .val (.int p3), .val (.int p4), .val (.int p5), .val (.ref b105), .val (.int n), .val (.int iI), .val (.int jJ), .val (.ref b107), .val (.int (p5.toInt8.toInt32)), .val (.int (p5.toInt8.toInt32))] [(.int (nar .byte (f4 (n.toInt64).toInt.toNat)))])) _
        rw [G173_130]
        show Steps p.tables e below (T129.setTop (mkF m 176 #[.val (.long p0), .second, .val (.int p1), .val (.int p2), .val (.int p3), .val (.int p4), .val (.int p5), .val (.ref b105), .val (.int n), .val (.int iI), .val (.int jJ), .val (.ref b107), .val (.int (p5.toInt8.toInt32)), .val (.int (p5.toInt8.toInt32))] [(.int ((p4 >>> ((8 : Int32) &&& 31)).toInt8.toInt32))])) _
        refine XS.iload X129.here hx rfl (hb hby at_176) rfl ?_
        show Steps p.tables e below (T129.setTop (mkF m 178 #[.val (.long p0), .second, .val (.int p1), .val (.int p2), .val (.int p3), .val (.int p4), .val (.int p5), .val (.ref b105), .val (.int n), .val (.int iI), .val (.int jJ), .val (.ref b107), .val (.int (p5.toInt8.toInt32)), .val (.int (p5.toInt8.toInt32))] [(.int p4), (.int ((p4 >>> ((8 : Int32) &&& 31)).toInt8.toInt32))])) _
        refine XS.bipush X129.here hx rfl (hb hby at_178) ?_
        show Steps p.tables e below (T129.setTop (mkF m 180 #[.val (.long p0), .second, .val (.int p1), .val (.int p2), .val (.int p3), .val (.int p4), .val (.int p5), .val (.ref b105), .val (.int n), .val (.int iI), .val (.int jJ), .val (.ref b107), .val (.int (p5.toInt8.toInt32)), .val (.int (p5.toInt8.toInt32))] [(.int (8 : Int32)), (.int p4), (.int ((p4 >>> ((8 : Int32) &&& 31)).toInt8.toInt32))])) _
        refine XS.ishr X129.here hx rfl (hb hby at_180) rfl ?_
        show Steps p.tables e below (T129.setTop (mkF m 181 #[.val (.long p0), .second, .val (.int p1), .val (.int p2), .val (.int p3), .val (.int p4), .val (.int p5), .val (.ref b105), .val (.int n), .val (.int iI), .val (.int jJ), .val (.ref b107), .val (.int (p5.toInt8.toInt32)), .val (.int (p5.toInt8.toInt32))] [(.int (p4 >>> ((8 : Int32) &&& 31))), (.int ((p4 >>> ((8 : Int32) &&& 31)).toInt8.toInt32))])) _
        refine XS.i2b X129.here hx rfl (hb hby at_181) rfl ?_
        show Steps p.tables e below (T129.setTop (mkF m 182 #[.val (.long p0), .second, .val (.int p1), .val (.int p2), .val (.int p3), .val (.int p4), .val (.int p5), .val (.ref b105), .val (.int n), .val (.int iI), .val (.int jJ), .val (.ref b107), .val (.int (p5.toInt8.toInt32)), .val (.int (p5.toInt8.toInt32))] [(.int ((p4 >>> ((8 : Int32) &&& 31)).toInt8.toInt32)), (.int ((p4 >>> ((8 : Int32) &&& 31)).toInt8.toInt32))])) _
        refine XS.icmpNo X129.here hx rfl (hb hby at_182) rfl (teq (rfl : ((p4 >>> ((8 : Int32) &&& 31)).toInt8.toInt32) = ((p4 >>> ((8 : Int32) &&& 31)).toInt8.toInt32))).2 ?_
        show Steps p.tables e below (T129.setTop (mkF m 185 #[.val (.long p0), .second, .val (.int p1), .val (.int p2), .val (.int p3), .val (.int p4), .val (.int p5), .val (.ref b105), .val (.int n), .val (.int iI), .val (.int jJ), .val (.ref b107), .val (.int (p5.toInt8.toInt32)), .val (.int (p5.toInt8.toInt32))] [])) _
        refine XS.iconst X129.here hx rfl (hb hby at_185) ?_
        show Steps p.tables e below (T129.setTop (mkF m 186 #[.val (.long p0), .second, .val (.int p1), .val (.int p2), .val (.int p3), .val (.int p4), .val (.int p5), .val (.ref b105), .val (.int n), .val (.int iI), .val (.int jJ), .val (.ref b107), .val (.int (p5.toInt8.toInt32)), .val (.int (p5.toInt8.toInt32))] [(.int (1 : Int32))])) _
        refine XS.goto X129.here hx rfl (pc0 := 186) (pc' := 190) rfl (hb hby at_186) (by decide) (by decide) ?_
        show Steps p.tables e below (T129.setTop (mkF m 190 #[.val (.long p0), .second, .val (.int p1), .val (.int p2), .val (.int p3), .val (.int p4), .val (.int p5), .val (.ref b105), .val (.int n), .val (.int iI), .val (.int jJ), .val (.ref b107), .val (.int (p5.toInt8.toInt32)), .val (.int (p5.toInt8.toInt32))] [(.int (1 : Int32))])) _
        exact retN X129 hx (t := .boolean) Bd.returns (by simp) (hb hby at_190) hr
      · show own_Made (some (.int 1)) n0 _ T129.heap _
        rw [e129]
        exact ⟨rfl, N129, trivial⟩
    · -- pc 106: not (0 : Int32) = jJ
      by_cases hc118_131 : (0 : Int32) = iI
      · -- pc 118: (0 : Int32) = iI
        obtain ⟨cq132, kq132, q132a, q132b, q132c⟩ := isOf hZ e118 (E118)
        obtain ⟨_, _, ⟨T132, L132, k132, n132⟩, -, X132, ⟨Lc132, hQ132, l132, y132, z132⟩, st132⟩ := X118.virtualBack hx (y := (⟨"com/example/cubelet/cubelet/Chunks", "get", "(J)B"⟩ : MethodName)) (z := (⟨"com/example/cubelet/cubelet/Chunks", "get", "(J)B"⟩ : MethodName)) hown (mvT hZ (hw _ (List.mem_of_getElem? (i := 56) rfl))) (mvT hZ (hw _ (List.mem_of_getElem? (i := 57) rfl))) (notFace_of_selects (args := #[]) (mvT hZ (hw _ (List.mem_of_getElem? (i := 59) rfl)))) (mvT hZ (hw _ (List.mem_of_getElem? (i := 59) rfl))) (mvT hZ (hw _ (List.mem_of_getElem? (i := 58) rfl))) (by decide) (backOf (W := 0) (rm_get l Z a0 hw [] b105 (iI.toInt64) T118.heap n0 (Nat.le_trans Z0 EX118.1) c1 c4 kc1 kc4 z4 f4 Fc118 A118 V118 (by have := c_i2l iI; omega) hz4') hZ (hw _ (List.mem_of_getElem? (i := 60) rfl)) (hw _ (List.mem_of_getElem? (i := 2) rfl)) (by decide) (by decide)) q132a q132c (g := (mkF m 135 #[.val (.long p0), .second, .val (.int p1), .val (.int p2), .val (.int p3), .val (.int p4), .val (.int p5), .val (.ref b105), .val (.int n), .val (.int iI), .val (.int jJ), .val (.ref b107), .val (.int (p5.toInt8.toInt32)), .val (.int (p4.toInt8.toInt32))] [(.long (iI.toInt64)), (.ref b105)])) rfl (by rw [hml]; rfl) (Steps.refl _) (argsL := [(.long (iI.toInt64))]) (rest := []) (lenOf pd_228 rfl) rfl (by show 2 * 0 + _ ≤ _; exact Nat.le_of_eq rfl) (hb hby at_135) (fun _ _ => ⟨rfl, e118, (by decide : 6 + 0 ≤ _), (by decide : 57346 + 0 ≤ _)⟩)
        dsimp only [Pt.U, Pt.locs, Pt.cells, Pt.slots] at X132 l132 y132 z132 st132 hQ132
        subst l132 y132 z132
        obtain ⟨rfl, N132q, e132⟩ := hQ132
        have N132 := Fr.app N118 N132q
        have G135_133 : (nar .byte (f4 (iI.toInt64).toInt.toNat)) = (p5.toInt8.toInt32) := by
          rw [own_i64, hA _ (own_ki hi)]
          refine (congrArg (nar .byte) (if_pos (congrArg Int32.toNatClampNeg hc89_119))).trans (own_nar _)
        obtain ⟨cq134, kq134, q134a, q134b, q134c⟩ := isOf hZ e132 (E118)
        obtain ⟨_, _, ⟨T134, L134, k134, n134⟩, -, X134, ⟨Lc134, hQ134, l134, y134, z134⟩, st134⟩ := X132.virtualBack hx (y := (⟨"com/example/cubelet/cubelet/Chunks", "get", "(J)B"⟩ : MethodName)) (z := (⟨"com/example/cubelet/cubelet/Chunks", "get", "(J)B"⟩ : MethodName)) hown (mvT hZ (hw _ (List.mem_of_getElem? (i := 56) rfl))) (mvT hZ (hw _ (List.mem_of_getElem? (i := 57) rfl))) (notFace_of_selects (args := #[]) (mvT hZ (hw _ (List.mem_of_getElem? (i := 59) rfl)))) (mvT hZ (hw _ (List.mem_of_getElem? (i := 59) rfl))) (mvT hZ (hw _ (List.mem_of_getElem? (i := 58) rfl))) (by decide) (backOf (W := 0) (rm_get l Z a0 hw [] b105 (jJ.toInt64) T118.heap n0 (Nat.le_trans Z0 EX118.1) c1 c4 kc1 kc4 z4 f4 Fc118 A118 V118 (by have := c_i2l jJ; omega) hz4') hZ (hw _ (List.mem_of_getElem? (i := 60) rfl)) (hw _ (List.mem_of_getElem? (i := 2) rfl)) (by decide) (by decide)) q134a q134c (g := (mkF m 148 #[.val (.long p0), .second, .val (.int p1), .val (.int p2), .val (.int p3), .val (.int p4), .val (.int p5), .val (.ref b105), .val (.int n), .val (.int iI), .val (.int jJ), .val (.ref b107), .val (.int (p5.toInt8.toInt32)), .val (.int (p4.toInt8.toInt32))] [(.long (jJ.toInt64)), (.ref b105)])) rfl (by rw [hml]; rfl) (Steps.refl _) (argsL := [(.long (jJ.toInt64))]) (rest := []) (lenOf pd_228 rfl) rfl (by show 2 * 0 + _ ≤ _; exact Nat.le_of_eq rfl) (hb hby at_148) (fun _ _ => ⟨rfl, e132, (by decide : 6 + 0 ≤ _), (by decide : 57346 + 0 ≤ _)⟩)
        dsimp only [Pt.U, Pt.locs, Pt.cells, Pt.slots] at X134 l134 y134 z134 st134 hQ134
        subst l134 y134 z134
        obtain ⟨rfl, N134q, e134⟩ := hQ134
        have N134 := Fr.app N132 N134q
        have G148_135 : (nar .byte (f4 (jJ.toInt64).toInt.toNat)) = (p5.toInt8.toInt32) := by
          rw [own_i64, hA _ (own_ki hj)]
          refine (congrArg (nar .byte) (if_pos rfl)).trans (own_nar _)
        obtain ⟨cq136, kq136, q136a, q136b, q136c⟩ := isOf hZ e134 (E118)
        obtain ⟨_, _, ⟨T136, L136, k136, n136⟩, -, X136, ⟨Lc136, hQ136, l136, y136, z136⟩, st136⟩ := X134.virtualBack hx (y := (⟨"com/example/cubelet/cubelet/Chunks", "get", "(J)B"⟩ : MethodName)) (z := (⟨"com/example/cubelet/cubelet/Chunks", "get", "(J)B"⟩ : MethodName)) hown (mvT hZ (hw _ (List.mem_of_getElem? (i := 56) rfl))) (mvT hZ (hw _ (List.mem_of_getElem? (i := 57) rfl))) (notFace_of_selects (args := #[]) (mvT hZ (hw _ (List.mem_of_getElem? (i := 59) rfl)))) (mvT hZ (hw _ (List.mem_of_getElem? (i := 59) rfl))) (mvT hZ (hw _ (List.mem_of_getElem? (i := 58) rfl))) (by decide) (backOf (W := 0) (rm_get l Z a0 hw [] b105 (0 : Int64) T118.heap n0 (Nat.le_trans Z0 EX118.1) c1 c4 kc1 kc4 z4 f4 Fc118 A118 V118 ⟨by decide, by have := own_00; omega⟩ hz4') hZ (hw _ (List.mem_of_getElem? (i := 60) rfl)) (hw _ (List.mem_of_getElem? (i := 2) rfl)) (by decide) (by decide)) q136a q136c (g := (mkF m 160 #[.val (.long p0), .second, .val (.int p1), .val (.int p2), .val (.int p3), .val (.int p4), .val (.int p5), .val (.ref b105), .val (.int n), .val (.int iI), .val (.int jJ), .val (.ref b107), .val (.int (p5.toInt8.toInt32)), .val (.int (p4.toInt8.toInt32))] [(.long (0 : Int64)), (.ref b105)])) rfl (by rw [hml]; rfl) (Steps.refl _) (argsL := [(.long (0 : Int64))]) (rest := []) (lenOf pd_228 rfl) rfl (by show 2 * 0 + _ ≤ _; exact Nat.le_of_eq rfl) (hb hby at_160) (fun _ _ => ⟨rfl, e134, (by decide : 6 + 0 ≤ _), (by decide : 57346 + 0 ≤ _)⟩)
        dsimp only [Pt.U, Pt.locs, Pt.cells, Pt.slots] at X136 l136 y136 z136 st136 hQ136
        subst l136 y136 z136
        obtain ⟨rfl, N136q, e136⟩ := hQ136
        have N136 := Fr.app N134 N136q
        have G160_137 : (nar .byte (f4 (0 : Int64).toInt.toNat)) = (p4.toInt8.toInt32) := by
          rw [show ((0 : Int64).toInt.toNat) = 0 from rfl, hA 0 (by omega)]
          refine (congrArg (nar .byte) ((if_neg (own_0j hj hc106_121)).trans (if_pos (own_0jt hc118_131)))).trans (own_nar _)
        obtain ⟨cq138, kq138, q138a, q138b, q138c⟩ := isOf hZ e136 (E118)
        obtain ⟨_, _, ⟨T138, L138, k138, n138⟩, -, X138, ⟨Lc138, hQ138, l138, y138, z138⟩, st138⟩ := X136.virtualBack hx (y := (⟨"com/example/cubelet/cubelet/Chunks", "get", "(J)B"⟩ : MethodName)) (z := (⟨"com/example/cubelet/cubelet/Chunks", "get", "(J)B"⟩ : MethodName)) hown (mvT hZ (hw _ (List.mem_of_getElem? (i := 56) rfl))) (mvT hZ (hw _ (List.mem_of_getElem? (i := 57) rfl))) (notFace_of_selects (args := #[]) (mvT hZ (hw _ (List.mem_of_getElem? (i := 59) rfl)))) (mvT hZ (hw _ (List.mem_of_getElem? (i := 59) rfl))) (mvT hZ (hw _ (List.mem_of_getElem? (i := 58) rfl))) (by decide) (backOf (W := 0) (rm_get l Z a0 hw [] b105 (n.toInt64) T118.heap n0 (Nat.le_trans Z0 EX118.1) c1 c4 kc1 kc4 z4 f4 Fc118 A118 V118 (by have := c_i2l n; omega) hz4') hZ (hw _ (List.mem_of_getElem? (i := 60) rfl)) (hw _ (List.mem_of_getElem? (i := 2) rfl)) (by decide) (by decide)) q138a q138c (g := (mkF m 173 #[.val (.long p0), .second, .val (.int p1), .val (.int p2), .val (.int p3), .val (.int p4), .val (.int p5), .val (.ref b105), .val (.int n), .val (.int iI), .val (.int jJ), .val (.ref b107), .val (.int (p5.toInt8.toInt32)), .val (.int (p4.toInt8.toInt32))] [(.long (n.toInt64)), (.ref b105)])) rfl (by rw [hml]; rfl) (Steps.refl _) (argsL := [(.long (n.toInt64))]) (rest := []) (lenOf pd_228 rfl) rfl (by show 2 * 0 + _ ≤ _; exact Nat.le_of_eq rfl) (hb hby at_173) (fun _ _ => ⟨rfl, e136, (by decide : 6 + 0 ≤ _), (by decide : 57346 + 0 ≤ _)⟩)
        dsimp only [Pt.U, Pt.locs, Pt.cells, Pt.slots] at X138 l138 y138 z138 st138 hQ138
        subst l138 y138 z138
        obtain ⟨rfl, N138q, e138⟩ := hQ138
        have N138 := Fr.app N136 N138q
        have G173_139 : (nar .byte (f4 (n.toInt64).toInt.toNat)) = ((p4 >>> ((8 : Int32) &&& 31)).toInt8.toInt32) := by
          rw [own_ln2 hl3, hP4.2]
          exact own_nar _
        obtain ⟨fs, hr, hrun, hended, hW, hsame⟩ := X138.leave (v := some (.int (1 : Int32))) (fun h => by rw [Bd.returns] at h; cases h)
        refine ⟨_, _, ck122 _ ?_, hrun, hended, _, _, rfl, ?_, ⟨_, rfl⟩, hW, hsame.mono (by decide) (by decide)⟩
        · show Steps p.tables e below (T118.setTop (mkF m 106 #[.val (.long p0), .second, .val (.int p1), .val (.int p2), .val (.int p3), .val (.int p4), .val (.int p5), .val (.ref b105), .val (.int n), .val (.int iI), .val (.int jJ), .val (.ref b107), .val (.int (p5.toInt8.toInt32)), .unset] [(.int jJ), (.int (0 : Int32))])) _
          refine XS.icmpYes X118.here hx rfl (pc0 := 106) (pc' := 115) rfl (hb hby at_106) rfl (feq hc106_121).2 (by decide) (by decide) ?_
          show Steps p.tables e below (T118.setTop (mkF m 115 #[.val (.long p0), .second, .val (.int p1), .val (.int p2), .val (.int p3), .val (.int p4), .val (.int p5), .val (.ref b105), .val (.int n), .val (.int iI), .val (.int jJ), .val (.ref b107), .val (.int (p5.toInt8.toInt32)), .unset] [])) _
          refine XS.iconst X118.here hx rfl (hb hby at_115) ?_
          show Steps p.tables e below (T118.setTop (mkF m 116 #[.val (.long p0), .second, .val (.int p1), .val (.int p2), .val (.int p3), .val (.int p4), .val (.int p5), .val (.ref b105), .val (.int n), .val (.int iI), .val (.int jJ), .val (.ref b107), .val (.int (p5.toInt8.toInt32)), .unset] [(.int (0 : Int32))])) _
          refine XS.iload X118.here hx rfl (hb hby at_116) rfl ?_
          show Steps p.tables e below (T118.setTop (mkF m 118 #[.val (.long p0), .second, .val (.int p1), .val (.int p2), .val (.int p3), .val (.int p4), .val (.int p5), .val (.ref b105), .val (.int n), .val (.int iI), .val (.int jJ), .val (.ref b107), .val (.int (p5.toInt8.toInt32)), .unset] [(.int iI), (.int (0 : Int32))])) _
          refine XS.icmpNo X118.here hx rfl (hb hby at_118) rfl (teq hc118_131).2 ?_
          show Steps p.tables e below (T118.setTop (mkF m 121 #[.val (.long p0), .second, .val (.int p1), .val (.int p2), .val (.int p3), .val (.int p4), .val (.int p5), .val (.ref b105), .val (.int n), .val (.int iI), .val (.int jJ), .val (.ref b107), .val (.int (p5.toInt8.toInt32)), .unset] [])) _
          refine XS.iload X118.here hx rfl (hb hby at_121) rfl ?_
          show Steps p.tables e below (T118.setTop (mkF m 123 #[.val (.long p0), .second, .val (.int p1), .val (.int p2), .val (.int p3), .val (.int p4), .val (.int p5), .val (.ref b105), .val (.int n), .val (.int iI), .val (.int jJ), .val (.ref b107), .val (.int (p5.toInt8.toInt32)), .unset] [(.int p4)])) _
          refine XS.i2b X118.here hx rfl (hb hby at_123) rfl ?_
          show Steps p.tables e below (T118.setTop (mkF m 124 #[.val (.long p0), .second, .val (.int p1), .val (.int p2), .val (.int p3), .val (.int p4), .val (.int p5), .val (.ref b105), .val (.int n), .val (.int iI), .val (.int jJ), .val (.ref b107), .val (.int (p5.toInt8.toInt32)), .unset] [(.int (p4.toInt8.toInt32))])) _
          refine XS.goto X118.here hx rfl (pc0 := 124) (pc' := 128) rfl (hb hby at_124) (by decide) (by decide) ?_
          show Steps p.tables e below (T118.setTop (mkF m 128 #[.val (.long p0), .second, .val (.int p1), .val (.int p2), .val (.int p3), .val (.int p4), .val (.int p5), .val (.ref b105), .val (.int n), .val (.int iI), .val (.int jJ), .val (.ref b107), .val (.int (p5.toInt8.toInt32)), .unset] [(.int (p4.toInt8.toInt32))])) _
          refine XS.istore X118.here hx rfl (hb hby at_128) rfl (l' := #[.val (.long p0), .second, .val (.int p1), .val (.int p2), .val (.int p3), .val (.int p4), .val (.int p5), .val (.ref b105), .val (.int n), .val (.int iI), .val (.int jJ), .val (.ref b107), .val (.int (p5.toInt8.toInt32)), .val (.int (p4.toInt8.toInt32))]) rfl ?_
          show Steps p.tables e below (T118.setTop (mkF m 130 #[.val (.long p0), .second, .val (.int p1), .val (.int p2), .val (.int p3), .val (.int p4), .val (.int p5), .val (.ref b105), .val (.int n), .val (.int iI), .val (.int jJ), .val (.ref b107), .val (.int (p5.toInt8.toInt32)), .val (.int (p4.toInt8.toInt32))] [])) _
          refine XS.aload X118.here hx rfl (hb hby at_130) rfl rfl ?_
          show Steps p.tables e below (T118.setTop (mkF m 132 #[.val (.long p0), .second, .val (.int p1), .val (.int p2), .val (.int p3), .val (.int p4), .val (.int p5), .val (.ref b105), .val (.int n), .val (.int iI), .val (.int jJ), .val (.ref b107), .val (.int (p5.toInt8.toInt32)), .val (.int (p4.toInt8.toInt32))] [(.ref b105)])) _
          refine XS.iload X118.here hx rfl (hb hby at_132) rfl ?_
          show Steps p.tables e below (T118.setTop (mkF m 134 #[.val (.long p0), .second, .val (.int p1), .val (.int p2), .val (.int p3), .val (.int p4), .val (.int p5), .val (.ref b105), .val (.int n), .val (.int iI), .val (.int jJ), .val (.ref b107), .val (.int (p5.toInt8.toInt32)), .val (.int (p4.toInt8.toInt32))] [(.int iI), (.ref b105)])) _
          refine XS.i2l X118.here hx rfl (hb hby at_134) rfl ?_
          show Steps p.tables e below (T118.setTop (mkF m 135 #[.val (.long p0), .second, .val (.int p1), .val (.int p2), .val (.int p3), .val (.int p4), .val (.int p5), .val (.ref b105), .val (.int n), .val (.int iI), .val (.int jJ), .val (.ref b107), .val (.int (p5.toInt8.toInt32)), .val (.int (p4.toInt8.toInt32))] [(.long (iI.toInt64)), (.ref b105)])) _
          refine st132.trans ?_
          show Steps p.tables e below (T132.setTop (mkF m 138 #[.val (.long p0), .second, .val (.int p1), .val (.int p2), .val (.int p3), .val (.int p4), .val (.int p5), .val (.ref b105), .val (.int n), .val (.int iI), .val (.int jJ), .val (.ref b107), .val (.int (p5.toInt8.toInt32)), .val (.int (p4.toInt8.toInt32))] [(.int (nar .byte (f4 (iI.toInt64).toInt.toNat)))])) _
          rw [G135_133]
          show Steps p.tables e below (T132.setTop (mkF m 138 #[.val (.long p0), .second, .val (.int p1), .val (.int p2), .val (.int p3), .val (.int p4), .val (.int p5), .val (.ref b105), .val (.int n), .val (.int iI), .val (.int jJ), .val (.ref b107), .val (.int (p5.toInt8.toInt32)), .val (.int (p4.toInt8.toInt32))] [(.int (p5.toInt8.toInt32))])) _
          refine XS.iload X132.here hx rfl (hb hby at_138) rfl ?_
          show Steps p.tables e below (T132.setTop (mkF m 140 #[.val (.long p0), .second, .val (.int p1), .val (.int p2), .val (.int p3), .val (.int p4), .val (.int p5), .val (.ref b105), .val (.int n), .val (.int iI), .val (.int jJ), .val (.ref b107), .val (.int (p5.toInt8.toInt32)), .val (.int (p4.toInt8.toInt32))] [(.int (p5.toInt8.toInt32)), (.int (p5.toInt8.toInt32))])) _
          refine XS.icmpNo X132.here hx rfl (hb hby at_140) rfl (teq (rfl : (p5.toInt8.toInt32) = (p5.toInt8.toInt32))).2 ?_
          show Steps p.tables e below (T132.setTop (mkF m 143 #[.val (.long p0), .second, .val (.int p1), .val (.int p2), .val (.int p3), .val (.int p4), .val (.int p5), .val (.ref b105), .val (.int n), .val (.int iI), .val (.int jJ), .val (.ref b107), .val (.int (p5.toInt8.toInt32)), .val (.int (p4.toInt8.toInt32))] [])) _
          refine XS.aload X132.here hx rfl (hb hby at_143) rfl rfl ?_
          show Steps p.tables e below (T132.setTop (mkF m 145 #[.val (.long p0), .second, .val (.int p1), .val (.int p2), .val (.int p3), .val (.int p4), .val (.int p5), .val (.ref b105), .val (.int n), .val (.int iI), .val (.int jJ), .val (.ref b107), .val (.int (p5.toInt8.toInt32)), .val (.int (p4.toInt8.toInt32))] [(.ref b105)])) _
          refine XS.iload X132.here hx rfl (hb hby at_145) rfl ?_
          show Steps p.tables e below (T132.setTop (mkF m 147 #[.val (.long p0), .second, .val (.int p1), .val (.int p2), .val (.int p3), .val (.int p4), .val (.int p5), .val (.ref b105), .val (.int n), .val (.int iI), .val (.int jJ), .val (.ref b107), .val (.int (p5.toInt8.toInt32)), .val (.int (p4.toInt8.toInt32))] [(.int jJ), (.ref b105)])) _
          refine XS.i2l X132.here hx rfl (hb hby at_147) rfl ?_
          show Steps p.tables e below (T132.setTop (mkF m 148 #[.val (.long p0), .second, .val (.int p1), .val (.int p2), .val (.int p3), .val (.int p4), .val (.int p5), .val (.ref b105), .val (.int n), .val (.int iI), .val (.int jJ), .val (.ref b107), .val (.int (p5.toInt8.toInt32)), .val (.int (p4.toInt8.toInt32))] [(.long (jJ.toInt64)), (.ref b105)])) _
          refine st134.trans ?_
          show Steps p.tables e below (T134.setTop (mkF m 151 #[.val (.long p0), .second, .val (.int p1), .val (.int p2), .val (.int p3), .val (.int p4), .val (.int p5), .val (.ref b105), .val (.int n), .val (.int iI), .val (.int jJ), .val (.ref b107), .val (.int (p5.toInt8.toInt32)), .val (.int (p4.toInt8.toInt32))] [(.int (nar .byte (f4 (jJ.toInt64).toInt.toNat)))])) _
          rw [G148_135]
          show Steps p.tables e below (T134.setTop (mkF m 151 #[.val (.long p0), .second, .val (.int p1), .val (.int p2), .val (.int p3), .val (.int p4), .val (.int p5), .val (.ref b105), .val (.int n), .val (.int iI), .val (.int jJ), .val (.ref b107), .val (.int (p5.toInt8.toInt32)), .val (.int (p4.toInt8.toInt32))] [(.int (p5.toInt8.toInt32))])) _
          refine XS.iload X134.here hx rfl (hb hby at_151) rfl ?_
          show Steps p.tables e below (T134.setTop (mkF m 153 #[.val (.long p0), .second, .val (.int p1), .val (.int p2), .val (.int p3), .val (.int p4), .val (.int p5), .val (.ref b105), .val (.int n), .val (.int iI), .val (.int jJ), .val (.ref b107), .val (.int (p5.toInt8.toInt32)), .val (.int (p4.toInt8.toInt32))] [(.int p5), (.int (p5.toInt8.toInt32))])) _
          refine XS.i2b X134.here hx rfl (hb hby at_153) rfl ?_
          show Steps p.tables e below (T134.setTop (mkF m 154 #[.val (.long p0), .second, .val (.int p1), .val (.int p2), .val (.int p3), .val (.int p4), .val (.int p5), .val (.ref b105), .val (.int n), .val (.int iI), .val (.int jJ), .val (.ref b107), .val (.int (p5.toInt8.toInt32)), .val (.int (p4.toInt8.toInt32))] [(.int (p5.toInt8.toInt32)), (.int (p5.toInt8.toInt32))])) _
          refine XS.icmpNo X134.here hx rfl (hb hby at_154) rfl (teq (rfl : (p5.toInt8.toInt32) = (p5.toInt8.toInt32))).2 ?_
          show Steps p.tables e below (T134.setTop (mkF m 157 #[.val (.long p0), .second, .val (.int p1), .val (.int p2), .val (.int p3), .val (.int p4), .val (.int p5), .val (.ref b105), .val (.int n), .val (.int iI), .val (.int jJ), .val (.ref b107), .val (.int (p5.toInt8.toInt32)), .val (.int (p4.toInt8.toInt32))] [])) _
          refine XS.aload X134.here hx rfl (hb hby at_157) rfl rfl ?_
          show Steps p.tables e below (T134.setTop (mkF m 159 #[.val (.long p0), .second, .val (.int p1), .val (.int p2), .val (.int p3), .val (.int p4), .val (.int p5), .val (.ref b105), .val (.int n), .val (.int iI), .val (.int jJ), .val (.ref b107), .val (.int (p5.toInt8.toInt32)), .val (.int (p4.toInt8.toInt32))] [(.ref b105)])) _
          refine XS.lconst X134.here hx rfl (hb hby at_159) ?_
          show Steps p.tables e below (T134.setTop (mkF m 160 #[.val (.long p0), .second, .val (.int p1), .val (.int p2), .val (.int p3), .val (.int p4), .val (.int p5), .val (.ref b105), .val (.int n), .val (.int iI), .val (.int jJ), .val (.ref b107), .val (.int (p5.toInt8.toInt32)), .val (.int (p4.toInt8.toInt32))] [(.long (0 : Int64)), (.ref b105)])) _
          refine st136.trans ?_
          show Steps p.tables e below (T136.setTop (mkF m 163 #[.val (.long p0), .second, .val (.int p1), .val (.int p2), .val (.int p3), .val (.int p4), .val (.int p5), .val (.ref b105), .val (.int n), .val (.int iI), .val (.int jJ), .val (.ref b107), .val (.int (p5.toInt8.toInt32)), .val (.int (p4.toInt8.toInt32))] [(.int (nar .byte (f4 (0 : Int64).toInt.toNat)))])) _
          rw [G160_137]
          show Steps p.tables e below (T136.setTop (mkF m 163 #[.val (.long p0), .second, .val (.int p1), .val (.int p2), .val (.int p3), .val (.int p4), .val (.int p5), .val (.ref b105), .val (.int n), .val (.int iI), .val (.int jJ), .val (.ref b107), .val (.int (p5.toInt8.toInt32)), .val (.int (p4.toInt8.toInt32))] [(.int (p4.toInt8.toInt32))])) _
          refine XS.iload X136.here hx rfl (hb hby at_163) rfl ?_
          show Steps p.tables e below (T136.setTop (mkF m 165 #[.val (.long p0), .second, .val (.int p1), .val (.int p2), .val (.int p3), .val (.int p4), .val (.int p5), .val (.ref b105), .val (.int n), .val (.int iI), .val (.int jJ), .val (.ref b107), .val (.int (p5.toInt8.toInt32)), .val (.int (p4.toInt8.toInt32))] [(.int (p4.toInt8.toInt32)), (.int (p4.toInt8.toInt32))])) _
          refine XS.icmpNo X136.here hx rfl (hb hby at_165) rfl (teq (rfl : (p4.toInt8.toInt32) = (p4.toInt8.toInt32))).2 ?_
          show Steps p.tables e below (T136.setTop (mkF m 168 #[.val (.long p0), .second, .val (.int p1), .val (.int p2), .val (.int p3), .val (.int p4), .val (.int p5), .val (.ref b105), .val (.int n), .val (.int iI), .val (.int jJ), .val (.ref b107), .val (.int (p5.toInt8.toInt32)), .val (.int (p4.toInt8.toInt32))] [])) _
          refine XS.aload X136.here hx rfl (hb hby at_168) rfl rfl ?_
          show Steps p.tables e below (T136.setTop (mkF m 170 #[.val (.long p0), .second, .val (.int p1), .val (.int p2), .val (.int p3), .val (.int p4), .val (.int p5), .val (.ref b105), .val (.int n), .val (.int iI), .val (.int jJ), .val (.ref b107), .val (.int (p5.toInt8.toInt32)), .val (.int (p4.toInt8.toInt32))] [(.ref b105)])) _
          refine XS.iload X136.here hx rfl (hb hby at_170) rfl ?_
          show Steps p.tables e below (T136.setTop (mkF m 172 #[.val (.long p0), .second, .val (.int p1), .val (.int p2), .val (.int p3), .val (.int p4), .val (.int p5), .val (.ref b105), .val (.int n), .val (.int iI), .val (.int jJ), .val (.ref b107), .val (.int (p5.toInt8.toInt32)), .val (.int (p4.toInt8.toInt32))] [(.int n), (.ref b105)])) _
          refine XS.i2l X136.here hx rfl (hb hby at_172) rfl ?_
          show Steps p.tables e below (T136.setTop (mkF m 173 #[.val (.long p0), .second, .val (.int p1), .val (.int p2), .val (.int p3), .val (.int p4), .val (.int p5), .val (.ref b105), .val (.int n), .val (.int iI), .val (.int jJ), .val (.ref b107), .val (.int (p5.toInt8.toInt32)), .val (.int (p4.toInt8.toInt32))] [(.long (n.toInt64)), (.ref b105)])) _
          refine st138.trans ?_
          show Steps p.tables e below (T138.setTop (mkF m 176 #[.val (.long p0), .second, .val (.int p1), .val (.int p2), .val (.int p3), .val (.int p4), .val (.int p5), .val (.ref b105), .val (.int n), .val (.int iI), .val (.int jJ), .val (.ref b107), .val (.int (p5.toInt8.toInt32)), .val (.int (p4.toInt8.toInt32))] [(.int (nar .byte (f4 (n.toInt64).toInt.toNat)))])) _
          rw [G173_139]
          show Steps p.tables e below (T138.setTop (mkF m 176 #[.val (.long p0), .second, .val (.int p1), .val (.int p2), .val (.int p3), .val (.int p4), .val (.int p5), .val (.ref b105), .val (.int n), .val (.int iI), .val (.int jJ), .val (.ref b107), .val (.int (p5.toInt8.toInt32)), .val (.int (p4.toInt8.toInt32))] [(.int ((p4 >>> ((8 : Int32) &&& 31)).toInt8.toInt32))])) _
          refine XS.iload X138.here hx rfl (hb hby at_176) rfl ?_
          show Steps p.tables e below (T138.setTop (mkF m 178 #[.val (.long p0), .second, .val (.int p1), .val (.int p2), .val (.int p3), .val (.int p4), .val (.int p5), .val (.ref b105), .val (.int n), .val (.int iI), .val (.int jJ), .val (.ref b107), .val (.int (p5.toInt8.toInt32)), .val (.int (p4.toInt8.toInt32))] [(.int p4), (.int ((p4 >>> ((8 : Int32) &&& 31)).toInt8.toInt32))])) _
          refine XS.bipush X138.here hx rfl (hb hby at_178) ?_
          show Steps p.tables e below (T138.setTop (mkF m 180 #[.val (.long p0), .second, .val (.int p1), .val (.int p2), .val (.int p3), .val (.int p4), .val (.int p5), .val (.ref b105), .val (.int n), .val (.int iI), .val (.int jJ), .val (.ref b107), .val (.int (p5.toInt8.toInt32)), .val (.int (p4.toInt8.toInt32))] [(.int (8 : Int32)), (.int p4), (.int ((p4 >>> ((8 : Int32) &&& 31)).toInt8.toInt32))])) _
          refine XS.ishr X138.here hx rfl (hb hby at_180) rfl ?_
          show Steps p.tables e below (T138.setTop (mkF m 181 #[.val (.long p0), .second, .val (.int p1), .val (.int p2), .val (.int p3), .val (.int p4), .val (.int p5), .val (.ref b105), .val (.int n), .val (.int iI), .val (.int jJ), .val (.ref b107), .val (.int (p5.toInt8.toInt32)), .val (.int (p4.toInt8.toInt32))] [(.int (p4 >>> ((8 : Int32) &&& 31))), (.int ((p4 >>> ((8 : Int32) &&& 31)).toInt8.toInt32))])) _
          refine XS.i2b X138.here hx rfl (hb hby at_181) rfl ?_
          show Steps p.tables e below (T138.setTop (mkF m 182 #[.val (.long p0), .second, .val (.int p1), .val (.int p2), .val (.int p3), .val (.int p4), .val (.int p5), .val (.ref b105), .val (.int n), .val (.int iI), .val (.int jJ), .val (.ref b107), .val (.int (p5.toInt8.toInt32)), .val (.int (p4.toInt8.toInt32))] [(.int ((p4 >>> ((8 : Int32) &&& 31)).toInt8.toInt32)), (.int ((p4 >>> ((8 : Int32) &&& 31)).toInt8.toInt32))])) _
          refine XS.icmpNo X138.here hx rfl (hb hby at_182) rfl (teq (rfl : ((p4 >>> ((8 : Int32) &&& 31)).toInt8.toInt32) = ((p4 >>> ((8 : Int32) &&& 31)).toInt8.toInt32))).2 ?_
          show Steps p.tables e below (T138.setTop (mkF m 185 #[.val (.long p0), .second, .val (.int p1), .val (.int p2), .val (.int p3), .val (.int p4), .val (.int p5), .val (.ref b105), .val (.int n), .val (.int iI), .val (.int jJ), .val (.ref b107), .val (.int (p5.toInt8.toInt32)), .val (.int (p4.toInt8.toInt32))] [])) _
          refine XS.iconst X138.here hx rfl (hb hby at_185) ?_
          show Steps p.tables e below (T138.setTop (mkF m 186 #[.val (.long p0), .second, .val (.int p1), .val (.int p2), .val (.int p3), .val (.int p4), .val (.int p5), .val (.ref b105), .val (.int n), .val (.int iI), .val (.int jJ), .val (.ref b107), .val (.int (p5.toInt8.toInt32)), .val (.int (p4.toInt8.toInt32))] [(.int (1 : Int32))])) _
          refine XS.goto X138.here hx rfl (pc0 := 186) (pc' := 190) rfl (hb hby at_186) (by decide) (by decide) ?_
          show Steps p.tables e below (T138.setTop (mkF m 190 #[.val (.long p0), .second, .val (.int p1), .val (.int p2), .val (.int p3), .val (.int p4), .val (.int p5), .val (.ref b105), .val (.int n), .val (.int iI), .val (.int jJ), .val (.ref b107), .val (.int (p5.toInt8.toInt32)), .val (.int (p4.toInt8.toInt32))] [(.int (1 : Int32))])) _
          exact retN X138 hx (t := .boolean) Bd.returns (by simp) (hb hby at_190) hr
        · show own_Made (some (.int 1)) n0 _ T138.heap _
          rw [e138]
          exact ⟨rfl, N138, trivial⟩
      · -- pc 118: not (0 : Int32) = iI
        obtain ⟨cq140, kq140, q140a, q140b, q140c⟩ := isOf hZ e118 (E118)
        obtain ⟨_, _, ⟨T140, L140, k140, n140⟩, -, X140, ⟨Lc140, hQ140, l140, y140, z140⟩, st140⟩ := X118.virtualBack hx (y := (⟨"com/example/cubelet/cubelet/Chunks", "get", "(J)B"⟩ : MethodName)) (z := (⟨"com/example/cubelet/cubelet/Chunks", "get", "(J)B"⟩ : MethodName)) hown (mvT hZ (hw _ (List.mem_of_getElem? (i := 56) rfl))) (mvT hZ (hw _ (List.mem_of_getElem? (i := 57) rfl))) (notFace_of_selects (args := #[]) (mvT hZ (hw _ (List.mem_of_getElem? (i := 59) rfl)))) (mvT hZ (hw _ (List.mem_of_getElem? (i := 59) rfl))) (mvT hZ (hw _ (List.mem_of_getElem? (i := 58) rfl))) (by decide) (backOf (W := 0) (rm_get l Z a0 hw [] b105 (iI.toInt64) T118.heap n0 (Nat.le_trans Z0 EX118.1) c1 c4 kc1 kc4 z4 f4 Fc118 A118 V118 (by have := c_i2l iI; omega) hz4') hZ (hw _ (List.mem_of_getElem? (i := 60) rfl)) (hw _ (List.mem_of_getElem? (i := 2) rfl)) (by decide) (by decide)) q140a q140c (g := (mkF m 135 #[.val (.long p0), .second, .val (.int p1), .val (.int p2), .val (.int p3), .val (.int p4), .val (.int p5), .val (.ref b105), .val (.int n), .val (.int iI), .val (.int jJ), .val (.ref b107), .val (.int (p5.toInt8.toInt32)), .val (.int (0 : Int32))] [(.long (iI.toInt64)), (.ref b105)])) rfl (by rw [hml]; rfl) (Steps.refl _) (argsL := [(.long (iI.toInt64))]) (rest := []) (lenOf pd_228 rfl) rfl (by show 2 * 0 + _ ≤ _; exact Nat.le_of_eq rfl) (hb hby at_135) (fun _ _ => ⟨rfl, e118, (by decide : 6 + 0 ≤ _), (by decide : 57346 + 0 ≤ _)⟩)
        dsimp only [Pt.U, Pt.locs, Pt.cells, Pt.slots] at X140 l140 y140 z140 st140 hQ140
        subst l140 y140 z140
        obtain ⟨rfl, N140q, e140⟩ := hQ140
        have N140 := Fr.app N118 N140q
        have G135_141 : (nar .byte (f4 (iI.toInt64).toInt.toNat)) = (p5.toInt8.toInt32) := by
          rw [own_i64, hA _ (own_ki hi)]
          refine (congrArg (nar .byte) (if_pos (congrArg Int32.toNatClampNeg hc89_119))).trans (own_nar _)
        obtain ⟨cq142, kq142, q142a, q142b, q142c⟩ := isOf hZ e140 (E118)
        obtain ⟨_, _, ⟨T142, L142, k142, n142⟩, -, X142, ⟨Lc142, hQ142, l142, y142, z142⟩, st142⟩ := X140.virtualBack hx (y := (⟨"com/example/cubelet/cubelet/Chunks", "get", "(J)B"⟩ : MethodName)) (z := (⟨"com/example/cubelet/cubelet/Chunks", "get", "(J)B"⟩ : MethodName)) hown (mvT hZ (hw _ (List.mem_of_getElem? (i := 56) rfl))) (mvT hZ (hw _ (List.mem_of_getElem? (i := 57) rfl))) (notFace_of_selects (args := #[]) (mvT hZ (hw _ (List.mem_of_getElem? (i := 59) rfl)))) (mvT hZ (hw _ (List.mem_of_getElem? (i := 59) rfl))) (mvT hZ (hw _ (List.mem_of_getElem? (i := 58) rfl))) (by decide) (backOf (W := 0) (rm_get l Z a0 hw [] b105 (jJ.toInt64) T118.heap n0 (Nat.le_trans Z0 EX118.1) c1 c4 kc1 kc4 z4 f4 Fc118 A118 V118 (by have := c_i2l jJ; omega) hz4') hZ (hw _ (List.mem_of_getElem? (i := 60) rfl)) (hw _ (List.mem_of_getElem? (i := 2) rfl)) (by decide) (by decide)) q142a q142c (g := (mkF m 148 #[.val (.long p0), .second, .val (.int p1), .val (.int p2), .val (.int p3), .val (.int p4), .val (.int p5), .val (.ref b105), .val (.int n), .val (.int iI), .val (.int jJ), .val (.ref b107), .val (.int (p5.toInt8.toInt32)), .val (.int (0 : Int32))] [(.long (jJ.toInt64)), (.ref b105)])) rfl (by rw [hml]; rfl) (Steps.refl _) (argsL := [(.long (jJ.toInt64))]) (rest := []) (lenOf pd_228 rfl) rfl (by show 2 * 0 + _ ≤ _; exact Nat.le_of_eq rfl) (hb hby at_148) (fun _ _ => ⟨rfl, e140, (by decide : 6 + 0 ≤ _), (by decide : 57346 + 0 ≤ _)⟩)
        dsimp only [Pt.U, Pt.locs, Pt.cells, Pt.slots] at X142 l142 y142 z142 st142 hQ142
        subst l142 y142 z142
        obtain ⟨rfl, N142q, e142⟩ := hQ142
        have N142 := Fr.app N140 N142q
        have G148_143 : (nar .byte (f4 (jJ.toInt64).toInt.toNat)) = (p5.toInt8.toInt32) := by
          rw [own_i64, hA _ (own_ki hj)]
          refine (congrArg (nar .byte) (if_pos rfl)).trans (own_nar _)
        obtain ⟨cq144, kq144, q144a, q144b, q144c⟩ := isOf hZ e142 (E118)
        obtain ⟨_, _, ⟨T144, L144, k144, n144⟩, -, X144, ⟨Lc144, hQ144, l144, y144, z144⟩, st144⟩ := X142.virtualBack hx (y := (⟨"com/example/cubelet/cubelet/Chunks", "get", "(J)B"⟩ : MethodName)) (z := (⟨"com/example/cubelet/cubelet/Chunks", "get", "(J)B"⟩ : MethodName)) hown (mvT hZ (hw _ (List.mem_of_getElem? (i := 56) rfl))) (mvT hZ (hw _ (List.mem_of_getElem? (i := 57) rfl))) (notFace_of_selects (args := #[]) (mvT hZ (hw _ (List.mem_of_getElem? (i := 59) rfl)))) (mvT hZ (hw _ (List.mem_of_getElem? (i := 59) rfl))) (mvT hZ (hw _ (List.mem_of_getElem? (i := 58) rfl))) (by decide) (backOf (W := 0) (rm_get l Z a0 hw [] b105 (0 : Int64) T118.heap n0 (Nat.le_trans Z0 EX118.1) c1 c4 kc1 kc4 z4 f4 Fc118 A118 V118 ⟨by decide, by have := own_00; omega⟩ hz4') hZ (hw _ (List.mem_of_getElem? (i := 60) rfl)) (hw _ (List.mem_of_getElem? (i := 2) rfl)) (by decide) (by decide)) q144a q144c (g := (mkF m 160 #[.val (.long p0), .second, .val (.int p1), .val (.int p2), .val (.int p3), .val (.int p4), .val (.int p5), .val (.ref b105), .val (.int n), .val (.int iI), .val (.int jJ), .val (.ref b107), .val (.int (p5.toInt8.toInt32)), .val (.int (0 : Int32))] [(.long (0 : Int64)), (.ref b105)])) rfl (by rw [hml]; rfl) (Steps.refl _) (argsL := [(.long (0 : Int64))]) (rest := []) (lenOf pd_228 rfl) rfl (by show 2 * 0 + _ ≤ _; exact Nat.le_of_eq rfl) (hb hby at_160) (fun _ _ => ⟨rfl, e142, (by decide : 6 + 0 ≤ _), (by decide : 57346 + 0 ≤ _)⟩)
        dsimp only [Pt.U, Pt.locs, Pt.cells, Pt.slots] at X144 l144 y144 z144 st144 hQ144
        subst l144 y144 z144
        obtain ⟨rfl, N144q, e144⟩ := hQ144
        have N144 := Fr.app N142 N144q
        have G160_145 : (nar .byte (f4 (0 : Int64).toInt.toNat)) = (0 : Int32) := by
          rw [show ((0 : Int64).toInt.toNat) = 0 from rfl, hA 0 (by omega)]
          refine (congrArg (nar .byte) ((if_neg (own_0j hj hc106_121)).trans (if_neg (own_0j hi hc118_131)))).trans own_nar0
        obtain ⟨cq146, kq146, q146a, q146b, q146c⟩ := isOf hZ e144 (E118)
        obtain ⟨_, _, ⟨T146, L146, k146, n146⟩, -, X146, ⟨Lc146, hQ146, l146, y146, z146⟩, st146⟩ := X144.virtualBack hx (y := (⟨"com/example/cubelet/cubelet/Chunks", "get", "(J)B"⟩ : MethodName)) (z := (⟨"com/example/cubelet/cubelet/Chunks", "get", "(J)B"⟩ : MethodName)) hown (mvT hZ (hw _ (List.mem_of_getElem? (i := 56) rfl))) (mvT hZ (hw _ (List.mem_of_getElem? (i := 57) rfl))) (notFace_of_selects (args := #[]) (mvT hZ (hw _ (List.mem_of_getElem? (i := 59) rfl)))) (mvT hZ (hw _ (List.mem_of_getElem? (i := 59) rfl))) (mvT hZ (hw _ (List.mem_of_getElem? (i := 58) rfl))) (by decide) (backOf (W := 0) (rm_get l Z a0 hw [] b105 (n.toInt64) T118.heap n0 (Nat.le_trans Z0 EX118.1) c1 c4 kc1 kc4 z4 f4 Fc118 A118 V118 (by have := c_i2l n; omega) hz4') hZ (hw _ (List.mem_of_getElem? (i := 60) rfl)) (hw _ (List.mem_of_getElem? (i := 2) rfl)) (by decide) (by decide)) q146a q146c (g := (mkF m 173 #[.val (.long p0), .second, .val (.int p1), .val (.int p2), .val (.int p3), .val (.int p4), .val (.int p5), .val (.ref b105), .val (.int n), .val (.int iI), .val (.int jJ), .val (.ref b107), .val (.int (p5.toInt8.toInt32)), .val (.int (0 : Int32))] [(.long (n.toInt64)), (.ref b105)])) rfl (by rw [hml]; rfl) (Steps.refl _) (argsL := [(.long (n.toInt64))]) (rest := []) (lenOf pd_228 rfl) rfl (by show 2 * 0 + _ ≤ _; exact Nat.le_of_eq rfl) (hb hby at_173) (fun _ _ => ⟨rfl, e144, (by decide : 6 + 0 ≤ _), (by decide : 57346 + 0 ≤ _)⟩)
        dsimp only [Pt.U, Pt.locs, Pt.cells, Pt.slots] at X146 l146 y146 z146 st146 hQ146
        subst l146 y146 z146
        obtain ⟨rfl, N146q, e146⟩ := hQ146
        have N146 := Fr.app N144 N146q
        have G173_147 : (nar .byte (f4 (n.toInt64).toInt.toNat)) = ((p4 >>> ((8 : Int32) &&& 31)).toInt8.toInt32) := by
          rw [own_ln2 hl3, hP4.2]
          exact own_nar _
        obtain ⟨fs, hr, hrun, hended, hW, hsame⟩ := X146.leave (v := some (.int (1 : Int32))) (fun h => by rw [Bd.returns] at h; cases h)
        refine ⟨_, _, ck122 _ ?_, hrun, hended, _, _, rfl, ?_, ⟨_, rfl⟩, hW, hsame.mono (by decide) (by decide)⟩
        · show Steps p.tables e below (T118.setTop (mkF m 106 #[.val (.long p0), .second, .val (.int p1), .val (.int p2), .val (.int p3), .val (.int p4), .val (.int p5), .val (.ref b105), .val (.int n), .val (.int iI), .val (.int jJ), .val (.ref b107), .val (.int (p5.toInt8.toInt32)), .unset] [(.int jJ), (.int (0 : Int32))])) _
          refine XS.icmpYes X118.here hx rfl (pc0 := 106) (pc' := 115) rfl (hb hby at_106) rfl (feq hc106_121).2 (by decide) (by decide) ?_
          show Steps p.tables e below (T118.setTop (mkF m 115 #[.val (.long p0), .second, .val (.int p1), .val (.int p2), .val (.int p3), .val (.int p4), .val (.int p5), .val (.ref b105), .val (.int n), .val (.int iI), .val (.int jJ), .val (.ref b107), .val (.int (p5.toInt8.toInt32)), .unset] [])) _
          refine XS.iconst X118.here hx rfl (hb hby at_115) ?_
          show Steps p.tables e below (T118.setTop (mkF m 116 #[.val (.long p0), .second, .val (.int p1), .val (.int p2), .val (.int p3), .val (.int p4), .val (.int p5), .val (.ref b105), .val (.int n), .val (.int iI), .val (.int jJ), .val (.ref b107), .val (.int (p5.toInt8.toInt32)), .unset] [(.int (0 : Int32))])) _
          refine XS.iload X118.here hx rfl (hb hby at_116) rfl ?_
          show Steps p.tables e below (T118.setTop (mkF m 118 #[.val (.long p0), .second, .val (.int p1), .val (.int p2), .val (.int p3), .val (.int p4), .val (.int p5), .val (.ref b105), .val (.int n), .val (.int iI), .val (.int jJ), .val (.ref b107), .val (.int (p5.toInt8.toInt32)), .unset] [(.int iI), (.int (0 : Int32))])) _
          refine XS.icmpYes X118.here hx rfl (pc0 := 118) (pc' := 127) rfl (hb hby at_118) rfl (feq hc118_131).2 (by decide) (by decide) ?_
          show Steps p.tables e below (T118.setTop (mkF m 127 #[.val (.long p0), .second, .val (.int p1), .val (.int p2), .val (.int p3), .val (.int p4), .val (.int p5), .val (.ref b105), .val (.int n), .val (.int iI), .val (.int jJ), .val (.ref b107), .val (.int (p5.toInt8.toInt32)), .unset] [])) _
          refine XS.iconst X118.here hx rfl (hb hby at_127) ?_
          show Steps p.tables e below (T118.setTop (mkF m 128 #[.val (.long p0), .second, .val (.int p1), .val (.int p2), .val (.int p3), .val (.int p4), .val (.int p5), .val (.ref b105), .val (.int n), .val (.int iI), .val (.int jJ), .val (.ref b107), .val (.int (p5.toInt8.toInt32)), .unset] [(.int (0 : Int32))])) _
          refine XS.istore X118.here hx rfl (hb hby at_128) rfl (l' := #[.val (.long p0), .second, .val (.int p1), .val (.int p2), .val (.int p3), .val (.int p4), .val (.int p5), .val (.ref b105), .val (.int n), .val (.int iI), .val (.int jJ), .val (.ref b107), .val (.int (p5.toInt8.toInt32)), .val (.int (0 : Int32))]) rfl ?_
          show Steps p.tables e below (T118.setTop (mkF m 130 #[.val (.long p0), .second, .val (.int p1), .val (.int p2), .val (.int p3), .val (.int p4), .val (.int p5), .val (.ref b105), .val (.int n), .val (.int iI), .val (.int jJ), .val (.ref b107), .val (.int (p5.toInt8.toInt32)), .val (.int (0 : Int32))] [])) _
          refine XS.aload X118.here hx rfl (hb hby at_130) rfl rfl ?_
          show Steps p.tables e below (T118.setTop (mkF m 132 #[.val (.long p0), .second, .val (.int p1), .val (.int p2), .val (.int p3), .val (.int p4), .val (.int p5), .val (.ref b105), .val (.int n), .val (.int iI), .val (.int jJ), .val (.ref b107), .val (.int (p5.toInt8.toInt32)), .val (.int (0 : Int32))] [(.ref b105)])) _
          refine XS.iload X118.here hx rfl (hb hby at_132) rfl ?_
          show Steps p.tables e below (T118.setTop (mkF m 134 #[.val (.long p0), .second, .val (.int p1), .val (.int p2), .val (.int p3), .val (.int p4), .val (.int p5), .val (.ref b105), .val (.int n), .val (.int iI), .val (.int jJ), .val (.ref b107), .val (.int (p5.toInt8.toInt32)), .val (.int (0 : Int32))] [(.int iI), (.ref b105)])) _
          refine XS.i2l X118.here hx rfl (hb hby at_134) rfl ?_
          show Steps p.tables e below (T118.setTop (mkF m 135 #[.val (.long p0), .second, .val (.int p1), .val (.int p2), .val (.int p3), .val (.int p4), .val (.int p5), .val (.ref b105), .val (.int n), .val (.int iI), .val (.int jJ), .val (.ref b107), .val (.int (p5.toInt8.toInt32)), .val (.int (0 : Int32))] [(.long (iI.toInt64)), (.ref b105)])) _
          refine st140.trans ?_
          show Steps p.tables e below (T140.setTop (mkF m 138 #[.val (.long p0), .second, .val (.int p1), .val (.int p2), .val (.int p3), .val (.int p4), .val (.int p5), .val (.ref b105), .val (.int n), .val (.int iI), .val (.int jJ), .val (.ref b107), .val (.int (p5.toInt8.toInt32)), .val (.int (0 : Int32))] [(.int (nar .byte (f4 (iI.toInt64).toInt.toNat)))])) _
          rw [G135_141]
          show Steps p.tables e below (T140.setTop (mkF m 138 #[.val (.long p0), .second, .val (.int p1), .val (.int p2), .val (.int p3), .val (.int p4), .val (.int p5), .val (.ref b105), .val (.int n), .val (.int iI), .val (.int jJ), .val (.ref b107), .val (.int (p5.toInt8.toInt32)), .val (.int (0 : Int32))] [(.int (p5.toInt8.toInt32))])) _
          refine XS.iload X140.here hx rfl (hb hby at_138) rfl ?_
          show Steps p.tables e below (T140.setTop (mkF m 140 #[.val (.long p0), .second, .val (.int p1), .val (.int p2), .val (.int p3), .val (.int p4), .val (.int p5), .val (.ref b105), .val (.int n), .val (.int iI), .val (.int jJ), .val (.ref b107), .val (.int (p5.toInt8.toInt32)), .val (.int (0 : Int32))] [(.int (p5.toInt8.toInt32)), (.int (p5.toInt8.toInt32))])) _
          refine XS.icmpNo X140.here hx rfl (hb hby at_140) rfl (teq (rfl : (p5.toInt8.toInt32) = (p5.toInt8.toInt32))).2 ?_
          show Steps p.tables e below (T140.setTop (mkF m 143 #[.val (.long p0), .second, .val (.int p1), .val (.int p2), .val (.int p3), .val (.int p4), .val (.int p5), .val (.ref b105), .val (.int n), .val (.int iI), .val (.int jJ), .val (.ref b107), .val (.int (p5.toInt8.toInt32)), .val (.int (0 : Int32))] [])) _
          refine XS.aload X140.here hx rfl (hb hby at_143) rfl rfl ?_
          show Steps p.tables e below (T140.setTop (mkF m 145 #[.val (.long p0), .second, .val (.int p1), .val (.int p2), .val (.int p3), .val (.int p4), .val (.int p5), .val (.ref b105), .val (.int n), .val (.int iI), .val (.int jJ), .val (.ref b107), .val (.int (p5.toInt8.toInt32)), .val (.int (0 : Int32))] [(.ref b105)])) _
          refine XS.iload X140.here hx rfl (hb hby at_145) rfl ?_
          show Steps p.tables e below (T140.setTop (mkF m 147 #[.val (.long p0), .second, .val (.int p1), .val (.int p2), .val (.int p3), .val (.int p4), .val (.int p5), .val (.ref b105), .val (.int n), .val (.int iI), .val (.int jJ), .val (.ref b107), .val (.int (p5.toInt8.toInt32)), .val (.int (0 : Int32))] [(.int jJ), (.ref b105)])) _
          refine XS.i2l X140.here hx rfl (hb hby at_147) rfl ?_
          show Steps p.tables e below (T140.setTop (mkF m 148 #[.val (.long p0), .second, .val (.int p1), .val (.int p2), .val (.int p3), .val (.int p4), .val (.int p5), .val (.ref b105), .val (.int n), .val (.int iI), .val (.int jJ), .val (.ref b107), .val (.int (p5.toInt8.toInt32)), .val (.int (0 : Int32))] [(.long (jJ.toInt64)), (.ref b105)])) _
          refine st142.trans ?_
          show Steps p.tables e below (T142.setTop (mkF m 151 #[.val (.long p0), .second, .val (.int p1), .val (.int p2), .val (.int p3), .val (.int p4), .val (.int p5), .val (.ref b105), .val (.int n), .val (.int iI), .val (.int jJ), .val (.ref b107), .val (.int (p5.toInt8.toInt32)), .val (.int (0 : Int32))] [(.int (nar .byte (f4 (jJ.toInt64).toInt.toNat)))])) _
          rw [G148_143]
          show Steps p.tables e below (T142.setTop (mkF m 151 #[.val (.long p0), .second, .val (.int p1), .val (.int p2), .val (.int p3), .val (.int p4), .val (.int p5), .val (.ref b105), .val (.int n), .val (.int iI), .val (.int jJ), .val (.ref b107), .val (.int (p5.toInt8.toInt32)), .val (.int (0 : Int32))] [(.int (p5.toInt8.toInt32))])) _
          refine XS.iload X142.here hx rfl (hb hby at_151) rfl ?_
          show Steps p.tables e below (T142.setTop (mkF m 153 #[.val (.long p0), .second, .val (.int p1), .val (.int p2), .val (.int p3), .val (.int p4), .val (.int p5), .val (.ref b105), .val (.int n), .val (.int iI), .val (.int jJ), .val (.ref b107), .val (.int (p5.toInt8.toInt32)), .val (.int (0 : Int32))] [(.int p5), (.int (p5.toInt8.toInt32))])) _
          refine XS.i2b X142.here hx rfl (hb hby at_153) rfl ?_
          show Steps p.tables e below (T142.setTop (mkF m 154 #[.val (.long p0), .second, .val (.int p1), .val (.int p2), .val (.int p3), .val (.int p4), .val (.int p5), .val (.ref b105), .val (.int n), .val (.int iI), .val (.int jJ), .val (.ref b107), .val (.int (p5.toInt8.toInt32)), .val (.int (0 : Int32))] [(.int (p5.toInt8.toInt32)), (.int (p5.toInt8.toInt32))])) _
          refine XS.icmpNo X142.here hx rfl (hb hby at_154) rfl (teq (rfl : (p5.toInt8.toInt32) = (p5.toInt8.toInt32))).2 ?_
          show Steps p.tables e below (T142.setTop (mkF m 157 #[.val (.long p0), .second, .val (.int p1), .val (.int p2), .val (.int p3), .val (.int p4), .val (.int p5), .val (.ref b105), .val (.int n), .val (.int iI), .val (.int jJ), .val (.ref b107), .val (.int (p5.toInt8.toInt32)), .val (.int (0 : Int32))] [])) _
          refine XS.aload X142.here hx rfl (hb hby at_157) rfl rfl ?_
          show Steps p.tables e below (T142.setTop (mkF m 159 #[.val (.long p0), .second, .val (.int p1), .val (.int p2), .val (.int p3), .val (.int p4), .val (.int p5), .val (.ref b105), .val (.int n), .val (.int iI), .val (.int jJ), .val (.ref b107), .val (.int (p5.toInt8.toInt32)), .val (.int (0 : Int32))] [(.ref b105)])) _
          refine XS.lconst X142.here hx rfl (hb hby at_159) ?_
          show Steps p.tables e below (T142.setTop (mkF m 160 #[.val (.long p0), .second, .val (.int p1), .val (.int p2), .val (.int p3), .val (.int p4), .val (.int p5), .val (.ref b105), .val (.int n), .val (.int iI), .val (.int jJ), .val (.ref b107), .val (.int (p5.toInt8.toInt32)), .val (.int (0 : Int32))] [(.long (0 : Int64)), (.ref b105)])) _
          refine st144.trans ?_
          show Steps p.tables e below (T144.setTop (mkF m 163 #[.val (.long p0), .second, .val (.int p1), .val (.int p2), .val (.int p3), .val (.int p4), .val (.int p5), .val (.ref b105), .val (.int n), .val (.int iI), .val (.int jJ), .val (.ref b107), .val (.int (p5.toInt8.toInt32)), .val (.int (0 : Int32))] [(.int (nar .byte (f4 (0 : Int64).toInt.toNat)))])) _
          rw [G160_145]
          show Steps p.tables e below (T144.setTop (mkF m 163 #[.val (.long p0), .second, .val (.int p1), .val (.int p2), .val (.int p3), .val (.int p4), .val (.int p5), .val (.ref b105), .val (.int n), .val (.int iI), .val (.int jJ), .val (.ref b107), .val (.int (p5.toInt8.toInt32)), .val (.int (0 : Int32))] [(.int (0 : Int32))])) _
          refine XS.iload X144.here hx rfl (hb hby at_163) rfl ?_
          show Steps p.tables e below (T144.setTop (mkF m 165 #[.val (.long p0), .second, .val (.int p1), .val (.int p2), .val (.int p3), .val (.int p4), .val (.int p5), .val (.ref b105), .val (.int n), .val (.int iI), .val (.int jJ), .val (.ref b107), .val (.int (p5.toInt8.toInt32)), .val (.int (0 : Int32))] [(.int (0 : Int32)), (.int (0 : Int32))])) _
          refine XS.icmpNo X144.here hx rfl (hb hby at_165) rfl (teq (by decide : (0 : Int32) = (0 : Int32))).2 ?_
          show Steps p.tables e below (T144.setTop (mkF m 168 #[.val (.long p0), .second, .val (.int p1), .val (.int p2), .val (.int p3), .val (.int p4), .val (.int p5), .val (.ref b105), .val (.int n), .val (.int iI), .val (.int jJ), .val (.ref b107), .val (.int (p5.toInt8.toInt32)), .val (.int (0 : Int32))] [])) _
          refine XS.aload X144.here hx rfl (hb hby at_168) rfl rfl ?_
          show Steps p.tables e below (T144.setTop (mkF m 170 #[.val (.long p0), .second, .val (.int p1), .val (.int p2), .val (.int p3), .val (.int p4), .val (.int p5), .val (.ref b105), .val (.int n), .val (.int iI), .val (.int jJ), .val (.ref b107), .val (.int (p5.toInt8.toInt32)), .val (.int (0 : Int32))] [(.ref b105)])) _
          refine XS.iload X144.here hx rfl (hb hby at_170) rfl ?_
          show Steps p.tables e below (T144.setTop (mkF m 172 #[.val (.long p0), .second, .val (.int p1), .val (.int p2), .val (.int p3), .val (.int p4), .val (.int p5), .val (.ref b105), .val (.int n), .val (.int iI), .val (.int jJ), .val (.ref b107), .val (.int (p5.toInt8.toInt32)), .val (.int (0 : Int32))] [(.int n), (.ref b105)])) _
          refine XS.i2l X144.here hx rfl (hb hby at_172) rfl ?_
          show Steps p.tables e below (T144.setTop (mkF m 173 #[.val (.long p0), .second, .val (.int p1), .val (.int p2), .val (.int p3), .val (.int p4), .val (.int p5), .val (.ref b105), .val (.int n), .val (.int iI), .val (.int jJ), .val (.ref b107), .val (.int (p5.toInt8.toInt32)), .val (.int (0 : Int32))] [(.long (n.toInt64)), (.ref b105)])) _
          refine st146.trans ?_
          show Steps p.tables e below (T146.setTop (mkF m 176 #[.val (.long p0), .second, .val (.int p1), .val (.int p2), .val (.int p3), .val (.int p4), .val (.int p5), .val (.ref b105), .val (.int n), .val (.int iI), .val (.int jJ), .val (.ref b107), .val (.int (p5.toInt8.toInt32)), .val (.int (0 : Int32))] [(.int (nar .byte (f4 (n.toInt64).toInt.toNat)))])) _
          rw [G173_147]
          show Steps p.tables e below (T146.setTop (mkF m 176 #[.val (.long p0), .second, .val (.int p1), .val (.int p2), .val (.int p3), .val (.int p4), .val (.int p5), .val (.ref b105), .val (.int n), .val (.int iI), .val (.int jJ), .val (.ref b107), .val (.int (p5.toInt8.toInt32)), .val (.int (0 : Int32))] [(.int ((p4 >>> ((8 : Int32) &&& 31)).toInt8.toInt32))])) _
          refine XS.iload X146.here hx rfl (hb hby at_176) rfl ?_
          show Steps p.tables e below (T146.setTop (mkF m 178 #[.val (.long p0), .second, .val (.int p1), .val (.int p2), .val (.int p3), .val (.int p4), .val (.int p5), .val (.ref b105), .val (.int n), .val (.int iI), .val (.int jJ), .val (.ref b107), .val (.int (p5.toInt8.toInt32)), .val (.int (0 : Int32))] [(.int p4), (.int ((p4 >>> ((8 : Int32) &&& 31)).toInt8.toInt32))])) _
          refine XS.bipush X146.here hx rfl (hb hby at_178) ?_
          show Steps p.tables e below (T146.setTop (mkF m 180 #[.val (.long p0), .second, .val (.int p1), .val (.int p2), .val (.int p3), .val (.int p4), .val (.int p5), .val (.ref b105), .val (.int n), .val (.int iI), .val (.int jJ), .val (.ref b107), .val (.int (p5.toInt8.toInt32)), .val (.int (0 : Int32))] [(.int (8 : Int32)), (.int p4), (.int ((p4 >>> ((8 : Int32) &&& 31)).toInt8.toInt32))])) _
          refine XS.ishr X146.here hx rfl (hb hby at_180) rfl ?_
          show Steps p.tables e below (T146.setTop (mkF m 181 #[.val (.long p0), .second, .val (.int p1), .val (.int p2), .val (.int p3), .val (.int p4), .val (.int p5), .val (.ref b105), .val (.int n), .val (.int iI), .val (.int jJ), .val (.ref b107), .val (.int (p5.toInt8.toInt32)), .val (.int (0 : Int32))] [(.int (p4 >>> ((8 : Int32) &&& 31))), (.int ((p4 >>> ((8 : Int32) &&& 31)).toInt8.toInt32))])) _
          refine XS.i2b X146.here hx rfl (hb hby at_181) rfl ?_
          show Steps p.tables e below (T146.setTop (mkF m 182 #[.val (.long p0), .second, .val (.int p1), .val (.int p2), .val (.int p3), .val (.int p4), .val (.int p5), .val (.ref b105), .val (.int n), .val (.int iI), .val (.int jJ), .val (.ref b107), .val (.int (p5.toInt8.toInt32)), .val (.int (0 : Int32))] [(.int ((p4 >>> ((8 : Int32) &&& 31)).toInt8.toInt32)), (.int ((p4 >>> ((8 : Int32) &&& 31)).toInt8.toInt32))])) _
          refine XS.icmpNo X146.here hx rfl (hb hby at_182) rfl (teq (rfl : ((p4 >>> ((8 : Int32) &&& 31)).toInt8.toInt32) = ((p4 >>> ((8 : Int32) &&& 31)).toInt8.toInt32))).2 ?_
          show Steps p.tables e below (T146.setTop (mkF m 185 #[.val (.long p0), .second, .val (.int p1), .val (.int p2), .val (.int p3), .val (.int p4), .val (.int p5), .val (.ref b105), .val (.int n), .val (.int iI), .val (.int jJ), .val (.ref b107), .val (.int (p5.toInt8.toInt32)), .val (.int (0 : Int32))] [])) _
          refine XS.iconst X146.here hx rfl (hb hby at_185) ?_
          show Steps p.tables e below (T146.setTop (mkF m 186 #[.val (.long p0), .second, .val (.int p1), .val (.int p2), .val (.int p3), .val (.int p4), .val (.int p5), .val (.ref b105), .val (.int n), .val (.int iI), .val (.int jJ), .val (.ref b107), .val (.int (p5.toInt8.toInt32)), .val (.int (0 : Int32))] [(.int (1 : Int32))])) _
          refine XS.goto X146.here hx rfl (pc0 := 186) (pc' := 190) rfl (hb hby at_186) (by decide) (by decide) ?_
          show Steps p.tables e below (T146.setTop (mkF m 190 #[.val (.long p0), .second, .val (.int p1), .val (.int p2), .val (.int p3), .val (.int p4), .val (.int p5), .val (.ref b105), .val (.int n), .val (.int iI), .val (.int jJ), .val (.ref b107), .val (.int (p5.toInt8.toInt32)), .val (.int (0 : Int32))] [(.int (1 : Int32))])) _
          exact retN X146 hx (t := .boolean) Bd.returns (by simp) (hb hby at_190) hr
        · show own_Made (some (.int 1)) n0 _ T146.heap _
          rw [e146]
          exact ⟨rfl, N146, trivial⟩
  · -- pc 89: not iI = jJ
    have ck149 : ∀ t, Steps p.tables e below (T118.setTop (mkF m 106 #[.val (.long p0), .second, .val (.int p1), .val (.int p2), .val (.int p3), .val (.int p4), .val (.int p5), .val (.ref b105), .val (.int n), .val (.int iI), .val (.int jJ), .val (.ref b107), .val (.int (p4.toInt8.toInt32)), .unset] [(.int jJ), (.int (0 : Int32))])) t → Steps p.tables e below (s₁.setTop (entryFrame m #[(.long p0), (.int p1), (.int p2), (.int p3), (.int p4), (.int p5)] maxLocals)) t := by
      intro t kt
      refine ck120 _ ?_
      show Steps p.tables e below (T118.setTop (mkF m 89 #[.val (.long p0), .second, .val (.int p1), .val (.int p2), .val (.int p3), .val (.int p4), .val (.int p5), .val (.ref b105), .val (.int n), .val (.int iI), .val (.int jJ), .val (.ref b107), .unset, .unset] [(.int jJ), (.int iI)])) _
      refine XS.icmpYes X118.here hx rfl (pc0 := 89) (pc' := 98) rfl (hb hby at_89) rfl (feq hc89_119).2 (by decide) (by decide) ?_
      show Steps p.tables e below (T118.setTop (mkF m 98 #[.val (.long p0), .second, .val (.int p1), .val (.int p2), .val (.int p3), .val (.int p4), .val (.int p5), .val (.ref b105), .val (.int n), .val (.int iI), .val (.int jJ), .val (.ref b107), .unset, .unset] [])) _
      refine XS.iload X118.here hx rfl (hb hby at_98) rfl ?_
      show Steps p.tables e below (T118.setTop (mkF m 100 #[.val (.long p0), .second, .val (.int p1), .val (.int p2), .val (.int p3), .val (.int p4), .val (.int p5), .val (.ref b105), .val (.int n), .val (.int iI), .val (.int jJ), .val (.ref b107), .unset, .unset] [(.int p4)])) _
      refine XS.i2b X118.here hx rfl (hb hby at_100) rfl ?_
      show Steps p.tables e below (T118.setTop (mkF m 101 #[.val (.long p0), .second, .val (.int p1), .val (.int p2), .val (.int p3), .val (.int p4), .val (.int p5), .val (.ref b105), .val (.int n), .val (.int iI), .val (.int jJ), .val (.ref b107), .unset, .unset] [(.int (p4.toInt8.toInt32))])) _
      refine XS.istore X118.here hx rfl (hb hby at_101) rfl (l' := #[.val (.long p0), .second, .val (.int p1), .val (.int p2), .val (.int p3), .val (.int p4), .val (.int p5), .val (.ref b105), .val (.int n), .val (.int iI), .val (.int jJ), .val (.ref b107), .val (.int (p4.toInt8.toInt32)), .unset]) rfl ?_
      show Steps p.tables e below (T118.setTop (mkF m 103 #[.val (.long p0), .second, .val (.int p1), .val (.int p2), .val (.int p3), .val (.int p4), .val (.int p5), .val (.ref b105), .val (.int n), .val (.int iI), .val (.int jJ), .val (.ref b107), .val (.int (p4.toInt8.toInt32)), .unset] [])) _
      refine XS.iconst X118.here hx rfl (hb hby at_103) ?_
      show Steps p.tables e below (T118.setTop (mkF m 104 #[.val (.long p0), .second, .val (.int p1), .val (.int p2), .val (.int p3), .val (.int p4), .val (.int p5), .val (.ref b105), .val (.int n), .val (.int iI), .val (.int jJ), .val (.ref b107), .val (.int (p4.toInt8.toInt32)), .unset] [(.int (0 : Int32))])) _
      refine XS.iload X118.here hx rfl (hb hby at_104) rfl ?_
      exact kt
    by_cases hc106_148 : (0 : Int32) = jJ
    · -- pc 106: (0 : Int32) = jJ
      obtain ⟨cq150, kq150, q150a, q150b, q150c⟩ := isOf hZ e118 (E118)
      obtain ⟨_, _, ⟨T150, L150, k150, n150⟩, -, X150, ⟨Lc150, hQ150, l150, y150, z150⟩, st150⟩ := X118.virtualBack hx (y := (⟨"com/example/cubelet/cubelet/Chunks", "get", "(J)B"⟩ : MethodName)) (z := (⟨"com/example/cubelet/cubelet/Chunks", "get", "(J)B"⟩ : MethodName)) hown (mvT hZ (hw _ (List.mem_of_getElem? (i := 56) rfl))) (mvT hZ (hw _ (List.mem_of_getElem? (i := 57) rfl))) (notFace_of_selects (args := #[]) (mvT hZ (hw _ (List.mem_of_getElem? (i := 59) rfl)))) (mvT hZ (hw _ (List.mem_of_getElem? (i := 59) rfl))) (mvT hZ (hw _ (List.mem_of_getElem? (i := 58) rfl))) (by decide) (backOf (W := 0) (rm_get l Z a0 hw [] b105 (iI.toInt64) T118.heap n0 (Nat.le_trans Z0 EX118.1) c1 c4 kc1 kc4 z4 f4 Fc118 A118 V118 (by have := c_i2l iI; omega) hz4') hZ (hw _ (List.mem_of_getElem? (i := 60) rfl)) (hw _ (List.mem_of_getElem? (i := 2) rfl)) (by decide) (by decide)) q150a q150c (g := (mkF m 135 #[.val (.long p0), .second, .val (.int p1), .val (.int p2), .val (.int p3), .val (.int p4), .val (.int p5), .val (.ref b105), .val (.int n), .val (.int iI), .val (.int jJ), .val (.ref b107), .val (.int (p4.toInt8.toInt32)), .val (.int (p5.toInt8.toInt32))] [(.long (iI.toInt64)), (.ref b105)])) rfl (by rw [hml]; rfl) (Steps.refl _) (argsL := [(.long (iI.toInt64))]) (rest := []) (lenOf pd_228 rfl) rfl (by show 2 * 0 + _ ≤ _; exact Nat.le_of_eq rfl) (hb hby at_135) (fun _ _ => ⟨rfl, e118, (by decide : 6 + 0 ≤ _), (by decide : 57346 + 0 ≤ _)⟩)
      dsimp only [Pt.U, Pt.locs, Pt.cells, Pt.slots] at X150 l150 y150 z150 st150 hQ150
      subst l150 y150 z150
      obtain ⟨rfl, N150q, e150⟩ := hQ150
      have N150 := Fr.app N118 N150q
      have G135_151 : (nar .byte (f4 (iI.toInt64).toInt.toNat)) = (p4.toInt8.toInt32) := by
        rw [own_i64, hA _ (own_ki hi)]
        refine (congrArg (nar .byte) ((if_neg (own_ij hi hj hc89_119)).trans (if_pos rfl))).trans (own_nar _)
      obtain ⟨cq152, kq152, q152a, q152b, q152c⟩ := isOf hZ e150 (E118)
      obtain ⟨_, _, ⟨T152, L152, k152, n152⟩, -, X152, ⟨Lc152, hQ152, l152, y152, z152⟩, st152⟩ := X150.virtualBack hx (y := (⟨"com/example/cubelet/cubelet/Chunks", "get", "(J)B"⟩ : MethodName)) (z := (⟨"com/example/cubelet/cubelet/Chunks", "get", "(J)B"⟩ : MethodName)) hown (mvT hZ (hw _ (List.mem_of_getElem? (i := 56) rfl))) (mvT hZ (hw _ (List.mem_of_getElem? (i := 57) rfl))) (notFace_of_selects (args := #[]) (mvT hZ (hw _ (List.mem_of_getElem? (i := 59) rfl)))) (mvT hZ (hw _ (List.mem_of_getElem? (i := 59) rfl))) (mvT hZ (hw _ (List.mem_of_getElem? (i := 58) rfl))) (by decide) (backOf (W := 0) (rm_get l Z a0 hw [] b105 (jJ.toInt64) T118.heap n0 (Nat.le_trans Z0 EX118.1) c1 c4 kc1 kc4 z4 f4 Fc118 A118 V118 (by have := c_i2l jJ; omega) hz4') hZ (hw _ (List.mem_of_getElem? (i := 60) rfl)) (hw _ (List.mem_of_getElem? (i := 2) rfl)) (by decide) (by decide)) q152a q152c (g := (mkF m 148 #[.val (.long p0), .second, .val (.int p1), .val (.int p2), .val (.int p3), .val (.int p4), .val (.int p5), .val (.ref b105), .val (.int n), .val (.int iI), .val (.int jJ), .val (.ref b107), .val (.int (p4.toInt8.toInt32)), .val (.int (p5.toInt8.toInt32))] [(.long (jJ.toInt64)), (.ref b105)])) rfl (by rw [hml]; rfl) (Steps.refl _) (argsL := [(.long (jJ.toInt64))]) (rest := []) (lenOf pd_228 rfl) rfl (by show 2 * 0 + _ ≤ _; exact Nat.le_of_eq rfl) (hb hby at_148) (fun _ _ => ⟨rfl, e150, (by decide : 6 + 0 ≤ _), (by decide : 57346 + 0 ≤ _)⟩)
      dsimp only [Pt.U, Pt.locs, Pt.cells, Pt.slots] at X152 l152 y152 z152 st152 hQ152
      subst l152 y152 z152
      obtain ⟨rfl, N152q, e152⟩ := hQ152
      have N152 := Fr.app N150 N152q
      have G148_153 : (nar .byte (f4 (jJ.toInt64).toInt.toNat)) = (p5.toInt8.toInt32) := by
        rw [own_i64, hA _ (own_ki hj)]
        refine (congrArg (nar .byte) (if_pos rfl)).trans (own_nar _)
      obtain ⟨cq154, kq154, q154a, q154b, q154c⟩ := isOf hZ e152 (E118)
      obtain ⟨_, _, ⟨T154, L154, k154, n154⟩, -, X154, ⟨Lc154, hQ154, l154, y154, z154⟩, st154⟩ := X152.virtualBack hx (y := (⟨"com/example/cubelet/cubelet/Chunks", "get", "(J)B"⟩ : MethodName)) (z := (⟨"com/example/cubelet/cubelet/Chunks", "get", "(J)B"⟩ : MethodName)) hown (mvT hZ (hw _ (List.mem_of_getElem? (i := 56) rfl))) (mvT hZ (hw _ (List.mem_of_getElem? (i := 57) rfl))) (notFace_of_selects (args := #[]) (mvT hZ (hw _ (List.mem_of_getElem? (i := 59) rfl)))) (mvT hZ (hw _ (List.mem_of_getElem? (i := 59) rfl))) (mvT hZ (hw _ (List.mem_of_getElem? (i := 58) rfl))) (by decide) (backOf (W := 0) (rm_get l Z a0 hw [] b105 (0 : Int64) T118.heap n0 (Nat.le_trans Z0 EX118.1) c1 c4 kc1 kc4 z4 f4 Fc118 A118 V118 ⟨by decide, by have := own_00; omega⟩ hz4') hZ (hw _ (List.mem_of_getElem? (i := 60) rfl)) (hw _ (List.mem_of_getElem? (i := 2) rfl)) (by decide) (by decide)) q154a q154c (g := (mkF m 160 #[.val (.long p0), .second, .val (.int p1), .val (.int p2), .val (.int p3), .val (.int p4), .val (.int p5), .val (.ref b105), .val (.int n), .val (.int iI), .val (.int jJ), .val (.ref b107), .val (.int (p4.toInt8.toInt32)), .val (.int (p5.toInt8.toInt32))] [(.long (0 : Int64)), (.ref b105)])) rfl (by rw [hml]; rfl) (Steps.refl _) (argsL := [(.long (0 : Int64))]) (rest := []) (lenOf pd_228 rfl) rfl (by show 2 * 0 + _ ≤ _; exact Nat.le_of_eq rfl) (hb hby at_160) (fun _ _ => ⟨rfl, e152, (by decide : 6 + 0 ≤ _), (by decide : 57346 + 0 ≤ _)⟩)
      dsimp only [Pt.U, Pt.locs, Pt.cells, Pt.slots] at X154 l154 y154 z154 st154 hQ154
      subst l154 y154 z154
      obtain ⟨rfl, N154q, e154⟩ := hQ154
      have N154 := Fr.app N152 N154q
      have G160_155 : (nar .byte (f4 (0 : Int64).toInt.toNat)) = (p5.toInt8.toInt32) := by
        rw [show ((0 : Int64).toInt.toNat) = 0 from rfl, hA 0 (by omega)]
        refine (congrArg (nar .byte) (if_pos (own_0jt hc106_148))).trans (own_nar _)
      obtain ⟨cq156, kq156, q156a, q156b, q156c⟩ := isOf hZ e154 (E118)
      obtain ⟨_, _, ⟨T156, L156, k156, n156⟩, -, X156, ⟨Lc156, hQ156, l156, y156, z156⟩, st156⟩ := X154.virtualBack hx (y := (⟨"com/example/cubelet/cubelet/Chunks", "get", "(J)B"⟩ : MethodName)) (z := (⟨"com/example/cubelet/cubelet/Chunks", "get", "(J)B"⟩ : MethodName)) hown (mvT hZ (hw _ (List.mem_of_getElem? (i := 56) rfl))) (mvT hZ (hw _ (List.mem_of_getElem? (i := 57) rfl))) (notFace_of_selects (args := #[]) (mvT hZ (hw _ (List.mem_of_getElem? (i := 59) rfl)))) (mvT hZ (hw _ (List.mem_of_getElem? (i := 59) rfl))) (mvT hZ (hw _ (List.mem_of_getElem? (i := 58) rfl))) (by decide) (backOf (W := 0) (rm_get l Z a0 hw [] b105 (n.toInt64) T118.heap n0 (Nat.le_trans Z0 EX118.1) c1 c4 kc1 kc4 z4 f4 Fc118 A118 V118 (by have := c_i2l n; omega) hz4') hZ (hw _ (List.mem_of_getElem? (i := 60) rfl)) (hw _ (List.mem_of_getElem? (i := 2) rfl)) (by decide) (by decide)) q156a q156c (g := (mkF m 173 #[.val (.long p0), .second, .val (.int p1), .val (.int p2), .val (.int p3), .val (.int p4), .val (.int p5), .val (.ref b105), .val (.int n), .val (.int iI), .val (.int jJ), .val (.ref b107), .val (.int (p4.toInt8.toInt32)), .val (.int (p5.toInt8.toInt32))] [(.long (n.toInt64)), (.ref b105)])) rfl (by rw [hml]; rfl) (Steps.refl _) (argsL := [(.long (n.toInt64))]) (rest := []) (lenOf pd_228 rfl) rfl (by show 2 * 0 + _ ≤ _; exact Nat.le_of_eq rfl) (hb hby at_173) (fun _ _ => ⟨rfl, e154, (by decide : 6 + 0 ≤ _), (by decide : 57346 + 0 ≤ _)⟩)
      dsimp only [Pt.U, Pt.locs, Pt.cells, Pt.slots] at X156 l156 y156 z156 st156 hQ156
      subst l156 y156 z156
      obtain ⟨rfl, N156q, e156⟩ := hQ156
      have N156 := Fr.app N154 N156q
      have G173_157 : (nar .byte (f4 (n.toInt64).toInt.toNat)) = ((p4 >>> ((8 : Int32) &&& 31)).toInt8.toInt32) := by
        rw [own_ln2 hl3, hP4.2]
        exact own_nar _
      obtain ⟨fs, hr, hrun, hended, hW, hsame⟩ := X156.leave (v := some (.int (1 : Int32))) (fun h => by rw [Bd.returns] at h; cases h)
      refine ⟨_, _, ck149 _ ?_, hrun, hended, _, _, rfl, ?_, ⟨_, rfl⟩, hW, hsame.mono (by decide) (by decide)⟩
      · show Steps p.tables e below (T118.setTop (mkF m 106 #[.val (.long p0), .second, .val (.int p1), .val (.int p2), .val (.int p3), .val (.int p4), .val (.int p5), .val (.ref b105), .val (.int n), .val (.int iI), .val (.int jJ), .val (.ref b107), .val (.int (p4.toInt8.toInt32)), .unset] [(.int jJ), (.int (0 : Int32))])) _
        refine XS.icmpNo X118.here hx rfl (hb hby at_106) rfl (teq hc106_148).2 ?_
        show Steps p.tables e below (T118.setTop (mkF m 109 #[.val (.long p0), .second, .val (.int p1), .val (.int p2), .val (.int p3), .val (.int p4), .val (.int p5), .val (.ref b105), .val (.int n), .val (.int iI), .val (.int jJ), .val (.ref b107), .val (.int (p4.toInt8.toInt32)), .unset] [])) _
        refine XS.iload X118.here hx rfl (hb hby at_109) rfl ?_
        show Steps p.tables e below (T118.setTop (mkF m 111 #[.val (.long p0), .second, .val (.int p1), .val (.int p2), .val (.int p3), .val (.int p4), .val (.int p5), .val (.ref b105), .val (.int n), .val (.int iI), .val (.int jJ), .val (.ref b107), .val (.int (p4.toInt8.toInt32)), .unset] [(.int p5)])) _
        refine XS.i2b X118.here hx rfl (hb hby at_111) rfl ?_
        show Steps p.tables e below (T118.setTop (mkF m 112 #[.val (.long p0), .second, .val (.int p1), .val (.int p2), .val (.int p3), .val (.int p4), .val (.int p5), .val (.ref b105), .val (.int n), .val (.int iI), .val (.int jJ), .val (.ref b107), .val (.int (p4.toInt8.toInt32)), .unset] [(.int (p5.toInt8.toInt32))])) _
        refine XS.goto X118.here hx rfl (pc0 := 112) (pc' := 128) rfl (hb hby at_112) (by decide) (by decide) ?_
        show Steps p.tables e below (T118.setTop (mkF m 128 #[.val (.long p0), .second, .val (.int p1), .val (.int p2), .val (.int p3), .val (.int p4), .val (.int p5), .val (.ref b105), .val (.int n), .val (.int iI), .val (.int jJ), .val (.ref b107), .val (.int (p4.toInt8.toInt32)), .unset] [(.int (p5.toInt8.toInt32))])) _
        refine XS.istore X118.here hx rfl (hb hby at_128) rfl (l' := #[.val (.long p0), .second, .val (.int p1), .val (.int p2), .val (.int p3), .val (.int p4), .val (.int p5), .val (.ref b105), .val (.int n), .val (.int iI), .val (.int jJ), .val (.ref b107), .val (.int (p4.toInt8.toInt32)), .val (.int (p5.toInt8.toInt32))]) rfl ?_
        show Steps p.tables e below (T118.setTop (mkF m 130 #[.val (.long p0), .second, .val (.int p1), .val (.int p2), .val (.int p3), .val (.int p4), .val (.int p5), .val (.ref b105), .val (.int n), .val (.int iI), .val (.int jJ), .val (.ref b107), .val (.int (p4.toInt8.toInt32)), .val (.int (p5.toInt8.toInt32))] [])) _
        refine XS.aload X118.here hx rfl (hb hby at_130) rfl rfl ?_
        show Steps p.tables e below (T118.setTop (mkF m 132 #[.val (.long p0), .second, .val (.int p1), .val (.int p2), .val (.int p3), .val (.int p4), .val (.int p5), .val (.ref b105), .val (.int n), .val (.int iI), .val (.int jJ), .val (.ref b107), .val (.int (p4.toInt8.toInt32)), .val (.int (p5.toInt8.toInt32))] [(.ref b105)])) _
        refine XS.iload X118.here hx rfl (hb hby at_132) rfl ?_
        show Steps p.tables e below (T118.setTop (mkF m 134 #[.val (.long p0), .second, .val (.int p1), .val (.int p2), .val (.int p3), .val (.int p4), .val (.int p5), .val (.ref b105), .val (.int n), .val (.int iI), .val (.int jJ), .val (.ref b107), .val (.int (p4.toInt8.toInt32)), .val (.int (p5.toInt8.toInt32))] [(.int iI), (.ref b105)])) _
        refine XS.i2l X118.here hx rfl (hb hby at_134) rfl ?_
        show Steps p.tables e below (T118.setTop (mkF m 135 #[.val (.long p0), .second, .val (.int p1), .val (.int p2), .val (.int p3), .val (.int p4), .val (.int p5), .val (.ref b105), .val (.int n), .val (.int iI), .val (.int jJ), .val (.ref b107), .val (.int (p4.toInt8.toInt32)), .val (.int (p5.toInt8.toInt32))] [(.long (iI.toInt64)), (.ref b105)])) _
        refine st150.trans ?_
        show Steps p.tables e below (T150.setTop (mkF m 138 #[.val (.long p0), .second, .val (.int p1), .val (.int p2), .val (.int p3), .val (.int p4), .val (.int p5), .val (.ref b105), .val (.int n), .val (.int iI), .val (.int jJ), .val (.ref b107), .val (.int (p4.toInt8.toInt32)), .val (.int (p5.toInt8.toInt32))] [(.int (nar .byte (f4 (iI.toInt64).toInt.toNat)))])) _
        rw [G135_151]
        show Steps p.tables e below (T150.setTop (mkF m 138 #[.val (.long p0), .second, .val (.int p1), .val (.int p2), .val (.int p3), .val (.int p4), .val (.int p5), .val (.ref b105), .val (.int n), .val (.int iI), .val (.int jJ), .val (.ref b107), .val (.int (p4.toInt8.toInt32)), .val (.int (p5.toInt8.toInt32))] [(.int (p4.toInt8.toInt32))])) _
        refine XS.iload X150.here hx rfl (hb hby at_138) rfl ?_
        show Steps p.tables e below (T150.setTop (mkF m 140 #[.val (.long p0), .second, .val (.int p1), .val (.int p2), .val (.int p3), .val (.int p4), .val (.int p5), .val (.ref b105), .val (.int n), .val (.int iI), .val (.int jJ), .val (.ref b107), .val (.int (p4.toInt8.toInt32)), .val (.int (p5.toInt8.toInt32))] [(.int (p4.toInt8.toInt32)), (.int (p4.toInt8.toInt32))])) _
        refine XS.icmpNo X150.here hx rfl (hb hby at_140) rfl (teq (rfl : (p4.toInt8.toInt32) = (p4.toInt8.toInt32))).2 ?_
        show Steps p.tables e below (T150.setTop (mkF m 143 #[.val (.long p0), .second, .val (.int p1), .val (.int p2), .val (.int p3), .val (.int p4), .val (.int p5), .val (.ref b105), .val (.int n), .val (.int iI), .val (.int jJ), .val (.ref b107), .val (.int (p4.toInt8.toInt32)), .val (.int (p5.toInt8.toInt32))] [])) _
        refine XS.aload X150.here hx rfl (hb hby at_143) rfl rfl ?_
        show Steps p.tables e below (T150.setTop (mkF m 145 #[.val (.long p0), .second, .val (.int p1), .val (.int p2), .val (.int p3), .val (.int p4), .val (.int p5), .val (.ref b105), .val (.int n), .val (.int iI), .val (.int jJ), .val (.ref b107), .val (.int (p4.toInt8.toInt32)), .val (.int (p5.toInt8.toInt32))] [(.ref b105)])) _
        refine XS.iload X150.here hx rfl (hb hby at_145) rfl ?_
        show Steps p.tables e below (T150.setTop (mkF m 147 #[.val (.long p0), .second, .val (.int p1), .val (.int p2), .val (.int p3), .val (.int p4), .val (.int p5), .val (.ref b105), .val (.int n), .val (.int iI), .val (.int jJ), .val (.ref b107), .val (.int (p4.toInt8.toInt32)), .val (.int (p5.toInt8.toInt32))] [(.int jJ), (.ref b105)])) _
        refine XS.i2l X150.here hx rfl (hb hby at_147) rfl ?_
        show Steps p.tables e below (T150.setTop (mkF m 148 #[.val (.long p0), .second, .val (.int p1), .val (.int p2), .val (.int p3), .val (.int p4), .val (.int p5), .val (.ref b105), .val (.int n), .val (.int iI), .val (.int jJ), .val (.ref b107), .val (.int (p4.toInt8.toInt32)), .val (.int (p5.toInt8.toInt32))] [(.long (jJ.toInt64)), (.ref b105)])) _
        refine st152.trans ?_
        show Steps p.tables e below (T152.setTop (mkF m 151 #[.val (.long p0), .second, .val (.int p1), .val (.int p2), .val (.int p3), .val (.int p4), .val (.int p5), .val (.ref b105), .val (.int n), .val (.int iI), .val (.int jJ), .val (.ref b107), .val (.int (p4.toInt8.toInt32)), .val (.int (p5.toInt8.toInt32))] [(.int (nar .byte (f4 (jJ.toInt64).toInt.toNat)))])) _
        rw [G148_153]
        show Steps p.tables e below (T152.setTop (mkF m 151 #[.val (.long p0), .second, .val (.int p1), .val (.int p2), .val (.int p3), .val (.int p4), .val (.int p5), .val (.ref b105), .val (.int n), .val (.int iI), .val (.int jJ), .val (.ref b107), .val (.int (p4.toInt8.toInt32)), .val (.int (p5.toInt8.toInt32))] [(.int (p5.toInt8.toInt32))])) _
        refine XS.iload X152.here hx rfl (hb hby at_151) rfl ?_
        show Steps p.tables e below (T152.setTop (mkF m 153 #[.val (.long p0), .second, .val (.int p1), .val (.int p2), .val (.int p3), .val (.int p4), .val (.int p5), .val (.ref b105), .val (.int n), .val (.int iI), .val (.int jJ), .val (.ref b107), .val (.int (p4.toInt8.toInt32)), .val (.int (p5.toInt8.toInt32))] [(.int p5), (.int (p5.toInt8.toInt32))])) _
        refine XS.i2b X152.here hx rfl (hb hby at_153) rfl ?_
        show Steps p.tables e below (T152.setTop (mkF m 154 #[.val (.long p0), .second, .val (.int p1), .val (.int p2), .val (.int p3), .val (.int p4), .val (.int p5), .val (.ref b105), .val (.int n), .val (.int iI), .val (.int jJ), .val (.ref b107), .val (.int (p4.toInt8.toInt32)), .val (.int (p5.toInt8.toInt32))] [(.int (p5.toInt8.toInt32)), (.int (p5.toInt8.toInt32))])) _
        refine XS.icmpNo X152.here hx rfl (hb hby at_154) rfl (teq (rfl : (p5.toInt8.toInt32) = (p5.toInt8.toInt32))).2 ?_
        show Steps p.tables e below (T152.setTop (mkF m 157 #[.val (.long p0), .second, .val (.int p1), .val (.int p2), .val (.int p3), .val (.int p4), .val (.int p5), .val (.ref b105), .val (.int n), .val (.int iI), .val (.int jJ), .val (.ref b107), .val (.int (p4.toInt8.toInt32)), .val (.int (p5.toInt8.toInt32))] [])) _
        refine XS.aload X152.here hx rfl (hb hby at_157) rfl rfl ?_
        show Steps p.tables e below (T152.setTop (mkF m 159 #[.val (.long p0), .second, .val (.int p1), .val (.int p2), .val (.int p3), .val (.int p4), .val (.int p5), .val (.ref b105), .val (.int n), .val (.int iI), .val (.int jJ), .val (.ref b107), .val (.int (p4.toInt8.toInt32)), .val (.int (p5.toInt8.toInt32))] [(.ref b105)])) _
        refine XS.lconst X152.here hx rfl (hb hby at_159) ?_
        show Steps p.tables e below (T152.setTop (mkF m 160 #[.val (.long p0), .second, .val (.int p1), .val (.int p2), .val (.int p3), .val (.int p4), .val (.int p5), .val (.ref b105), .val (.int n), .val (.int iI), .val (.int jJ), .val (.ref b107), .val (.int (p4.toInt8.toInt32)), .val (.int (p5.toInt8.toInt32))] [(.long (0 : Int64)), (.ref b105)])) _
        refine st154.trans ?_
        show Steps p.tables e below (T154.setTop (mkF m 163 #[.val (.long p0), .second, .val (.int p1), .val (.int p2), .val (.int p3), .val (.int p4), .val (.int p5), .val (.ref b105), .val (.int n), .val (.int iI), .val (.int jJ), .val (.ref b107), .val (.int (p4.toInt8.toInt32)), .val (.int (p5.toInt8.toInt32))] [(.int (nar .byte (f4 (0 : Int64).toInt.toNat)))])) _
        rw [G160_155]
        show Steps p.tables e below (T154.setTop (mkF m 163 #[.val (.long p0), .second, .val (.int p1), .val (.int p2), .val (.int p3), .val (.int p4), .val (.int p5), .val (.ref b105), .val (.int n), .val (.int iI), .val (.int jJ), .val (.ref b107), .val (.int (p4.toInt8.toInt32)), .val (.int (p5.toInt8.toInt32))] [(.int (p5.toInt8.toInt32))])) _
        refine XS.iload X154.here hx rfl (hb hby at_163) rfl ?_
        show Steps p.tables e below (T154.setTop (mkF m 165 #[.val (.long p0), .second, .val (.int p1), .val (.int p2), .val (.int p3), .val (.int p4), .val (.int p5), .val (.ref b105), .val (.int n), .val (.int iI), .val (.int jJ), .val (.ref b107), .val (.int (p4.toInt8.toInt32)), .val (.int (p5.toInt8.toInt32))] [(.int (p5.toInt8.toInt32)), (.int (p5.toInt8.toInt32))])) _
        refine XS.icmpNo X154.here hx rfl (hb hby at_165) rfl (teq (rfl : (p5.toInt8.toInt32) = (p5.toInt8.toInt32))).2 ?_
        show Steps p.tables e below (T154.setTop (mkF m 168 #[.val (.long p0), .second, .val (.int p1), .val (.int p2), .val (.int p3), .val (.int p4), .val (.int p5), .val (.ref b105), .val (.int n), .val (.int iI), .val (.int jJ), .val (.ref b107), .val (.int (p4.toInt8.toInt32)), .val (.int (p5.toInt8.toInt32))] [])) _
        refine XS.aload X154.here hx rfl (hb hby at_168) rfl rfl ?_
        show Steps p.tables e below (T154.setTop (mkF m 170 #[.val (.long p0), .second, .val (.int p1), .val (.int p2), .val (.int p3), .val (.int p4), .val (.int p5), .val (.ref b105), .val (.int n), .val (.int iI), .val (.int jJ), .val (.ref b107), .val (.int (p4.toInt8.toInt32)), .val (.int (p5.toInt8.toInt32))] [(.ref b105)])) _
        refine XS.iload X154.here hx rfl (hb hby at_170) rfl ?_
        show Steps p.tables e below (T154.setTop (mkF m 172 #[.val (.long p0), .second, .val (.int p1), .val (.int p2), .val (.int p3), .val (.int p4), .val (.int p5), .val (.ref b105), .val (.int n), .val (.int iI), .val (.int jJ), .val (.ref b107), .val (.int (p4.toInt8.toInt32)), .val (.int (p5.toInt8.toInt32))] [(.int n), (.ref b105)])) _
        refine XS.i2l X154.here hx rfl (hb hby at_172) rfl ?_
        show Steps p.tables e below (T154.setTop (mkF m 173 #[.val (.long p0), .second, .val (.int p1), .val (.int p2), .val (.int p3), .val (.int p4), .val (.int p5), .val (.ref b105), .val (.int n), .val (.int iI), .val (.int jJ), .val (.ref b107), .val (.int (p4.toInt8.toInt32)), .val (.int (p5.toInt8.toInt32))] [(.long (n.toInt64)), (.ref b105)])) _
        refine st156.trans ?_
        show Steps p.tables e below (T156.setTop (mkF m 176 #[.val (.long p0), .second, .val (.int p1), .val (.int p2), .val (.int p3), .val (.int p4), .val (.int p5), .val (.ref b105), .val (.int n), .val (.int iI), .val (.int jJ), .val (.ref b107), .val (.int (p4.toInt8.toInt32)), .val (.int (p5.toInt8.toInt32))] [(.int (nar .byte (f4 (n.toInt64).toInt.toNat)))])) _
        rw [G173_157]
        show Steps p.tables e below (T156.setTop (mkF m 176 #[.val (.long p0), .second, .val (.int p1), .val (.int p2), .val (.int p3), .val (.int p4), .val (.int p5), .val (.ref b105), .val (.int n), .val (.int iI), .val (.int jJ), .val (.ref b107), .val (.int (p4.toInt8.toInt32)), .val (.int (p5.toInt8.toInt32))] [(.int ((p4 >>> ((8 : Int32) &&& 31)).toInt8.toInt32))])) _
        refine XS.iload X156.here hx rfl (hb hby at_176) rfl ?_
        show Steps p.tables e below (T156.setTop (mkF m 178 #[.val (.long p0), .second, .val (.int p1), .val (.int p2), .val (.int p3), .val (.int p4), .val (.int p5), .val (.ref b105), .val (.int n), .val (.int iI), .val (.int jJ), .val (.ref b107), .val (.int (p4.toInt8.toInt32)), .val (.int (p5.toInt8.toInt32))] [(.int p4), (.int ((p4 >>> ((8 : Int32) &&& 31)).toInt8.toInt32))])) _
        refine XS.bipush X156.here hx rfl (hb hby at_178) ?_
        show Steps p.tables e below (T156.setTop (mkF m 180 #[.val (.long p0), .second, .val (.int p1), .val (.int p2), .val (.int p3), .val (.int p4), .val (.int p5), .val (.ref b105), .val (.int n), .val (.int iI), .val (.int jJ), .val (.ref b107), .val (.int (p4.toInt8.toInt32)), .val (.int (p5.toInt8.toInt32))] [(.int (8 : Int32)), (.int p4), (.int ((p4 >>> ((8 : Int32) &&& 31)).toInt8.toInt32))])) _
        refine XS.ishr X156.here hx rfl (hb hby at_180) rfl ?_
        show Steps p.tables e below (T156.setTop (mkF m 181 #[.val (.long p0), .second, .val (.int p1), .val (.int p2), .val (.int p3), .val (.int p4), .val (.int p5), .val (.ref b105), .val (.int n), .val (.int iI), .val (.int jJ), .val (.ref b107), .val (.int (p4.toInt8.toInt32)), .val (.int (p5.toInt8.toInt32))] [(.int (p4 >>> ((8 : Int32) &&& 31))), (.int ((p4 >>> ((8 : Int32) &&& 31)).toInt8.toInt32))])) _
        refine XS.i2b X156.here hx rfl (hb hby at_181) rfl ?_
        show Steps p.tables e below (T156.setTop (mkF m 182 #[.val (.long p0), .second, .val (.int p1), .val (.int p2), .val (.int p3), .val (.int p4), .val (.int p5), .val (.ref b105), .val (.int n), .val (.int iI), .val (.int jJ), .val (.ref b107), .val (.int (p4.toInt8.toInt32)), .val (.int (p5.toInt8.toInt32))] [(.int ((p4 >>> ((8 : Int32) &&& 31)).toInt8.toInt32)), (.int ((p4 >>> ((8 : Int32) &&& 31)).toInt8.toInt32))])) _
        refine XS.icmpNo X156.here hx rfl (hb hby at_182) rfl (teq (rfl : ((p4 >>> ((8 : Int32) &&& 31)).toInt8.toInt32) = ((p4 >>> ((8 : Int32) &&& 31)).toInt8.toInt32))).2 ?_
        show Steps p.tables e below (T156.setTop (mkF m 185 #[.val (.long p0), .second, .val (.int p1), .val (.int p2), .val (.int p3), .val (.int p4), .val (.int p5), .val (.ref b105), .val (.int n), .val (.int iI), .val (.int jJ), .val (.ref b107), .val (.int (p4.toInt8.toInt32)), .val (.int (p5.toInt8.toInt32))] [])) _
        refine XS.iconst X156.here hx rfl (hb hby at_185) ?_
        show Steps p.tables e below (T156.setTop (mkF m 186 #[.val (.long p0), .second, .val (.int p1), .val (.int p2), .val (.int p3), .val (.int p4), .val (.int p5), .val (.ref b105), .val (.int n), .val (.int iI), .val (.int jJ), .val (.ref b107), .val (.int (p4.toInt8.toInt32)), .val (.int (p5.toInt8.toInt32))] [(.int (1 : Int32))])) _
        refine XS.goto X156.here hx rfl (pc0 := 186) (pc' := 190) rfl (hb hby at_186) (by decide) (by decide) ?_
        show Steps p.tables e below (T156.setTop (mkF m 190 #[.val (.long p0), .second, .val (.int p1), .val (.int p2), .val (.int p3), .val (.int p4), .val (.int p5), .val (.ref b105), .val (.int n), .val (.int iI), .val (.int jJ), .val (.ref b107), .val (.int (p4.toInt8.toInt32)), .val (.int (p5.toInt8.toInt32))] [(.int (1 : Int32))])) _
        exact retN X156 hx (t := .boolean) Bd.returns (by simp) (hb hby at_190) hr
      · show own_Made (some (.int 1)) n0 _ T156.heap _
        rw [e156]
        exact ⟨rfl, N156, trivial⟩
    · -- pc 106: not (0 : Int32) = jJ
      by_cases hc118_158 : (0 : Int32) = iI
      · -- pc 118: (0 : Int32) = iI
        obtain ⟨cq159, kq159, q159a, q159b, q159c⟩ := isOf hZ e118 (E118)
        obtain ⟨_, _, ⟨T159, L159, k159, n159⟩, -, X159, ⟨Lc159, hQ159, l159, y159, z159⟩, st159⟩ := X118.virtualBack hx (y := (⟨"com/example/cubelet/cubelet/Chunks", "get", "(J)B"⟩ : MethodName)) (z := (⟨"com/example/cubelet/cubelet/Chunks", "get", "(J)B"⟩ : MethodName)) hown (mvT hZ (hw _ (List.mem_of_getElem? (i := 56) rfl))) (mvT hZ (hw _ (List.mem_of_getElem? (i := 57) rfl))) (notFace_of_selects (args := #[]) (mvT hZ (hw _ (List.mem_of_getElem? (i := 59) rfl)))) (mvT hZ (hw _ (List.mem_of_getElem? (i := 59) rfl))) (mvT hZ (hw _ (List.mem_of_getElem? (i := 58) rfl))) (by decide) (backOf (W := 0) (rm_get l Z a0 hw [] b105 (iI.toInt64) T118.heap n0 (Nat.le_trans Z0 EX118.1) c1 c4 kc1 kc4 z4 f4 Fc118 A118 V118 (by have := c_i2l iI; omega) hz4') hZ (hw _ (List.mem_of_getElem? (i := 60) rfl)) (hw _ (List.mem_of_getElem? (i := 2) rfl)) (by decide) (by decide)) q159a q159c (g := (mkF m 135 #[.val (.long p0), .second, .val (.int p1), .val (.int p2), .val (.int p3), .val (.int p4), .val (.int p5), .val (.ref b105), .val (.int n), .val (.int iI), .val (.int jJ), .val (.ref b107), .val (.int (p4.toInt8.toInt32)), .val (.int (p4.toInt8.toInt32))] [(.long (iI.toInt64)), (.ref b105)])) rfl (by rw [hml]; rfl) (Steps.refl _) (argsL := [(.long (iI.toInt64))]) (rest := []) (lenOf pd_228 rfl) rfl (by show 2 * 0 + _ ≤ _; exact Nat.le_of_eq rfl) (hb hby at_135) (fun _ _ => ⟨rfl, e118, (by decide : 6 + 0 ≤ _), (by decide : 57346 + 0 ≤ _)⟩)
        dsimp only [Pt.U, Pt.locs, Pt.cells, Pt.slots] at X159 l159 y159 z159 st159 hQ159
        subst l159 y159 z159
        obtain ⟨rfl, N159q, e159⟩ := hQ159
        have N159 := Fr.app N118 N159q
        have G135_160 : (nar .byte (f4 (iI.toInt64).toInt.toNat)) = (p4.toInt8.toInt32) := by
          rw [own_i64, hA _ (own_ki hi)]
          refine (congrArg (nar .byte) ((if_neg (own_ij hi hj hc89_119)).trans (if_pos rfl))).trans (own_nar _)
        obtain ⟨cq161, kq161, q161a, q161b, q161c⟩ := isOf hZ e159 (E118)
        obtain ⟨_, _, ⟨T161, L161, k161, n161⟩, -, X161, ⟨Lc161, hQ161, l161, y161, z161⟩, st161⟩ := X159.virtualBack hx (y := (⟨"com/example/cubelet/cubelet/Chunks", "get", "(J)B"⟩ : MethodName)) (z := (⟨"com/example/cubelet/cubelet/Chunks", "get", "(J)B"⟩ : MethodName)) hown (mvT hZ (hw _ (List.mem_of_getElem? (i := 56) rfl))) (mvT hZ (hw _ (List.mem_of_getElem? (i := 57) rfl))) (notFace_of_selects (args := #[]) (mvT hZ (hw _ (List.mem_of_getElem? (i := 59) rfl)))) (mvT hZ (hw _ (List.mem_of_getElem? (i := 59) rfl))) (mvT hZ (hw _ (List.mem_of_getElem? (i := 58) rfl))) (by decide) (backOf (W := 0) (rm_get l Z a0 hw [] b105 (jJ.toInt64) T118.heap n0 (Nat.le_trans Z0 EX118.1) c1 c4 kc1 kc4 z4 f4 Fc118 A118 V118 (by have := c_i2l jJ; omega) hz4') hZ (hw _ (List.mem_of_getElem? (i := 60) rfl)) (hw _ (List.mem_of_getElem? (i := 2) rfl)) (by decide) (by decide)) q161a q161c (g := (mkF m 148 #[.val (.long p0), .second, .val (.int p1), .val (.int p2), .val (.int p3), .val (.int p4), .val (.int p5), .val (.ref b105), .val (.int n), .val (.int iI), .val (.int jJ), .val (.ref b107), .val (.int (p4.toInt8.toInt32)), .val (.int (p4.toInt8.toInt32))] [(.long (jJ.toInt64)), (.ref b105)])) rfl (by rw [hml]; rfl) (Steps.refl _) (argsL := [(.long (jJ.toInt64))]) (rest := []) (lenOf pd_228 rfl) rfl (by show 2 * 0 + _ ≤ _; exact Nat.le_of_eq rfl) (hb hby at_148) (fun _ _ => ⟨rfl, e159, (by decide : 6 + 0 ≤ _), (by decide : 57346 + 0 ≤ _)⟩)
        dsimp only [Pt.U, Pt.locs, Pt.cells, Pt.slots] at X161 l161 y161 z161 st161 hQ161
        subst l161 y161 z161
        obtain ⟨rfl, N161q, e161⟩ := hQ161
        have N161 := Fr.app N159 N161q
        have G148_162 : (nar .byte (f4 (jJ.toInt64).toInt.toNat)) = (p5.toInt8.toInt32) := by
          rw [own_i64, hA _ (own_ki hj)]
          refine (congrArg (nar .byte) (if_pos rfl)).trans (own_nar _)
        obtain ⟨cq163, kq163, q163a, q163b, q163c⟩ := isOf hZ e161 (E118)
        obtain ⟨_, _, ⟨T163, L163, k163, n163⟩, -, X163, ⟨Lc163, hQ163, l163, y163, z163⟩, st163⟩ := X161.virtualBack hx (y := (⟨"com/example/cubelet/cubelet/Chunks", "get", "(J)B"⟩ : MethodName)) (z := (⟨"com/example/cubelet/cubelet/Chunks", "get", "(J)B"⟩ : MethodName)) hown (mvT hZ (hw _ (List.mem_of_getElem? (i := 56) rfl))) (mvT hZ (hw _ (List.mem_of_getElem? (i := 57) rfl))) (notFace_of_selects (args := #[]) (mvT hZ (hw _ (List.mem_of_getElem? (i := 59) rfl)))) (mvT hZ (hw _ (List.mem_of_getElem? (i := 59) rfl))) (mvT hZ (hw _ (List.mem_of_getElem? (i := 58) rfl))) (by decide) (backOf (W := 0) (rm_get l Z a0 hw [] b105 (0 : Int64) T118.heap n0 (Nat.le_trans Z0 EX118.1) c1 c4 kc1 kc4 z4 f4 Fc118 A118 V118 ⟨by decide, by have := own_00; omega⟩ hz4') hZ (hw _ (List.mem_of_getElem? (i := 60) rfl)) (hw _ (List.mem_of_getElem? (i := 2) rfl)) (by decide) (by decide)) q163a q163c (g := (mkF m 160 #[.val (.long p0), .second, .val (.int p1), .val (.int p2), .val (.int p3), .val (.int p4), .val (.int p5), .val (.ref b105), .val (.int n), .val (.int iI), .val (.int jJ), .val (.ref b107), .val (.int (p4.toInt8.toInt32)), .val (.int (p4.toInt8.toInt32))] [(.long (0 : Int64)), (.ref b105)])) rfl (by rw [hml]; rfl) (Steps.refl _) (argsL := [(.long (0 : Int64))]) (rest := []) (lenOf pd_228 rfl) rfl (by show 2 * 0 + _ ≤ _; exact Nat.le_of_eq rfl) (hb hby at_160) (fun _ _ => ⟨rfl, e161, (by decide : 6 + 0 ≤ _), (by decide : 57346 + 0 ≤ _)⟩)
        dsimp only [Pt.U, Pt.locs, Pt.cells, Pt.slots] at X163 l163 y163 z163 st163 hQ163
        subst l163 y163 z163
        obtain ⟨rfl, N163q, e163⟩ := hQ163
        have N163 := Fr.app N161 N163q
        have G160_164 : (nar .byte (f4 (0 : Int64).toInt.toNat)) = (p4.toInt8.toInt32) := by
          rw [show ((0 : Int64).toInt.toNat) = 0 from rfl, hA 0 (by omega)]
          refine (congrArg (nar .byte) ((if_neg (own_0j hj hc106_148)).trans (if_pos (own_0jt hc118_158)))).trans (own_nar _)
        obtain ⟨cq165, kq165, q165a, q165b, q165c⟩ := isOf hZ e163 (E118)
        obtain ⟨_, _, ⟨T165, L165, k165, n165⟩, -, X165, ⟨Lc165, hQ165, l165, y165, z165⟩, st165⟩ := X163.virtualBack hx (y := (⟨"com/example/cubelet/cubelet/Chunks", "get", "(J)B"⟩ : MethodName)) (z := (⟨"com/example/cubelet/cubelet/Chunks", "get", "(J)B"⟩ : MethodName)) hown (mvT hZ (hw _ (List.mem_of_getElem? (i := 56) rfl))) (mvT hZ (hw _ (List.mem_of_getElem? (i := 57) rfl))) (notFace_of_selects (args := #[]) (mvT hZ (hw _ (List.mem_of_getElem? (i := 59) rfl)))) (mvT hZ (hw _ (List.mem_of_getElem? (i := 59) rfl))) (mvT hZ (hw _ (List.mem_of_getElem? (i := 58) rfl))) (by decide) (backOf (W := 0) (rm_get l Z a0 hw [] b105 (n.toInt64) T118.heap n0 (Nat.le_trans Z0 EX118.1) c1 c4 kc1 kc4 z4 f4 Fc118 A118 V118 (by have := c_i2l n; omega) hz4') hZ (hw _ (List.mem_of_getElem? (i := 60) rfl)) (hw _ (List.mem_of_getElem? (i := 2) rfl)) (by decide) (by decide)) q165a q165c (g := (mkF m 173 #[.val (.long p0), .second, .val (.int p1), .val (.int p2), .val (.int p3), .val (.int p4), .val (.int p5), .val (.ref b105), .val (.int n), .val (.int iI), .val (.int jJ), .val (.ref b107), .val (.int (p4.toInt8.toInt32)), .val (.int (p4.toInt8.toInt32))] [(.long (n.toInt64)), (.ref b105)])) rfl (by rw [hml]; rfl) (Steps.refl _) (argsL := [(.long (n.toInt64))]) (rest := []) (lenOf pd_228 rfl) rfl (by show 2 * 0 + _ ≤ _; exact Nat.le_of_eq rfl) (hb hby at_173) (fun _ _ => ⟨rfl, e163, (by decide : 6 + 0 ≤ _), (by decide : 57346 + 0 ≤ _)⟩)
        dsimp only [Pt.U, Pt.locs, Pt.cells, Pt.slots] at X165 l165 y165 z165 st165 hQ165
        subst l165 y165 z165
        obtain ⟨rfl, N165q, e165⟩ := hQ165
        have N165 := Fr.app N163 N165q
        have G173_166 : (nar .byte (f4 (n.toInt64).toInt.toNat)) = ((p4 >>> ((8 : Int32) &&& 31)).toInt8.toInt32) := by
          rw [own_ln2 hl3, hP4.2]
          exact own_nar _
        obtain ⟨fs, hr, hrun, hended, hW, hsame⟩ := X165.leave (v := some (.int (1 : Int32))) (fun h => by rw [Bd.returns] at h; cases h)
        refine ⟨_, _, ck149 _ ?_, hrun, hended, _, _, rfl, ?_, ⟨_, rfl⟩, hW, hsame.mono (by decide) (by decide)⟩
        · show Steps p.tables e below (T118.setTop (mkF m 106 #[.val (.long p0), .second, .val (.int p1), .val (.int p2), .val (.int p3), .val (.int p4), .val (.int p5), .val (.ref b105), .val (.int n), .val (.int iI), .val (.int jJ), .val (.ref b107), .val (.int (p4.toInt8.toInt32)), .unset] [(.int jJ), (.int (0 : Int32))])) _
          refine XS.icmpYes X118.here hx rfl (pc0 := 106) (pc' := 115) rfl (hb hby at_106) rfl (feq hc106_148).2 (by decide) (by decide) ?_
          show Steps p.tables e below (T118.setTop (mkF m 115 #[.val (.long p0), .second, .val (.int p1), .val (.int p2), .val (.int p3), .val (.int p4), .val (.int p5), .val (.ref b105), .val (.int n), .val (.int iI), .val (.int jJ), .val (.ref b107), .val (.int (p4.toInt8.toInt32)), .unset] [])) _
          refine XS.iconst X118.here hx rfl (hb hby at_115) ?_
          show Steps p.tables e below (T118.setTop (mkF m 116 #[.val (.long p0), .second, .val (.int p1), .val (.int p2), .val (.int p3), .val (.int p4), .val (.int p5), .val (.ref b105), .val (.int n), .val (.int iI), .val (.int jJ), .val (.ref b107), .val (.int (p4.toInt8.toInt32)), .unset] [(.int (0 : Int32))])) _
          refine XS.iload X118.here hx rfl (hb hby at_116) rfl ?_
          show Steps p.tables e below (T118.setTop (mkF m 118 #[.val (.long p0), .second, .val (.int p1), .val (.int p2), .val (.int p3), .val (.int p4), .val (.int p5), .val (.ref b105), .val (.int n), .val (.int iI), .val (.int jJ), .val (.ref b107), .val (.int (p4.toInt8.toInt32)), .unset] [(.int iI), (.int (0 : Int32))])) _
          refine XS.icmpNo X118.here hx rfl (hb hby at_118) rfl (teq hc118_158).2 ?_
          show Steps p.tables e below (T118.setTop (mkF m 121 #[.val (.long p0), .second, .val (.int p1), .val (.int p2), .val (.int p3), .val (.int p4), .val (.int p5), .val (.ref b105), .val (.int n), .val (.int iI), .val (.int jJ), .val (.ref b107), .val (.int (p4.toInt8.toInt32)), .unset] [])) _
          refine XS.iload X118.here hx rfl (hb hby at_121) rfl ?_
          show Steps p.tables e below (T118.setTop (mkF m 123 #[.val (.long p0), .second, .val (.int p1), .val (.int p2), .val (.int p3), .val (.int p4), .val (.int p5), .val (.ref b105), .val (.int n), .val (.int iI), .val (.int jJ), .val (.ref b107), .val (.int (p4.toInt8.toInt32)), .unset] [(.int p4)])) _
          refine XS.i2b X118.here hx rfl (hb hby at_123) rfl ?_
          show Steps p.tables e below (T118.setTop (mkF m 124 #[.val (.long p0), .second, .val (.int p1), .val (.int p2), .val (.int p3), .val (.int p4), .val (.int p5), .val (.ref b105), .val (.int n), .val (.int iI), .val (.int jJ), .val (.ref b107), .val (.int (p4.toInt8.toInt32)), .unset] [(.int (p4.toInt8.toInt32))])) _
          refine XS.goto X118.here hx rfl (pc0 := 124) (pc' := 128) rfl (hb hby at_124) (by decide) (by decide) ?_
          show Steps p.tables e below (T118.setTop (mkF m 128 #[.val (.long p0), .second, .val (.int p1), .val (.int p2), .val (.int p3), .val (.int p4), .val (.int p5), .val (.ref b105), .val (.int n), .val (.int iI), .val (.int jJ), .val (.ref b107), .val (.int (p4.toInt8.toInt32)), .unset] [(.int (p4.toInt8.toInt32))])) _
          refine XS.istore X118.here hx rfl (hb hby at_128) rfl (l' := #[.val (.long p0), .second, .val (.int p1), .val (.int p2), .val (.int p3), .val (.int p4), .val (.int p5), .val (.ref b105), .val (.int n), .val (.int iI), .val (.int jJ), .val (.ref b107), .val (.int (p4.toInt8.toInt32)), .val (.int (p4.toInt8.toInt32))]) rfl ?_
          show Steps p.tables e below (T118.setTop (mkF m 130 #[.val (.long p0), .second, .val (.int p1), .val (.int p2), .val (.int p3), .val (.int p4), .val (.int p5), .val (.ref b105), .val (.int n), .val (.int iI), .val (.int jJ), .val (.ref b107), .val (.int (p4.toInt8.toInt32)), .val (.int (p4.toInt8.toInt32))] [])) _
          refine XS.aload X118.here hx rfl (hb hby at_130) rfl rfl ?_
          show Steps p.tables e below (T118.setTop (mkF m 132 #[.val (.long p0), .second, .val (.int p1), .val (.int p2), .val (.int p3), .val (.int p4), .val (.int p5), .val (.ref b105), .val (.int n), .val (.int iI), .val (.int jJ), .val (.ref b107), .val (.int (p4.toInt8.toInt32)), .val (.int (p4.toInt8.toInt32))] [(.ref b105)])) _
          refine XS.iload X118.here hx rfl (hb hby at_132) rfl ?_
          show Steps p.tables e below (T118.setTop (mkF m 134 #[.val (.long p0), .second, .val (.int p1), .val (.int p2), .val (.int p3), .val (.int p4), .val (.int p5), .val (.ref b105), .val (.int n), .val (.int iI), .val (.int jJ), .val (.ref b107), .val (.int (p4.toInt8.toInt32)), .val (.int (p4.toInt8.toInt32))] [(.int iI), (.ref b105)])) _
          refine XS.i2l X118.here hx rfl (hb hby at_134) rfl ?_
          show Steps p.tables e below (T118.setTop (mkF m 135 #[.val (.long p0), .second, .val (.int p1), .val (.int p2), .val (.int p3), .val (.int p4), .val (.int p5), .val (.ref b105), .val (.int n), .val (.int iI), .val (.int jJ), .val (.ref b107), .val (.int (p4.toInt8.toInt32)), .val (.int (p4.toInt8.toInt32))] [(.long (iI.toInt64)), (.ref b105)])) _
          refine st159.trans ?_
          show Steps p.tables e below (T159.setTop (mkF m 138 #[.val (.long p0), .second, .val (.int p1), .val (.int p2), .val (.int p3), .val (.int p4), .val (.int p5), .val (.ref b105), .val (.int n), .val (.int iI), .val (.int jJ), .val (.ref b107), .val (.int (p4.toInt8.toInt32)), .val (.int (p4.toInt8.toInt32))] [(.int (nar .byte (f4 (iI.toInt64).toInt.toNat)))])) _
          rw [G135_160]
          show Steps p.tables e below (T159.setTop (mkF m 138 #[.val (.long p0), .second, .val (.int p1), .val (.int p2), .val (.int p3), .val (.int p4), .val (.int p5), .val (.ref b105), .val (.int n), .val (.int iI), .val (.int jJ), .val (.ref b107), .val (.int (p4.toInt8.toInt32)), .val (.int (p4.toInt8.toInt32))] [(.int (p4.toInt8.toInt32))])) _
          refine XS.iload X159.here hx rfl (hb hby at_138) rfl ?_
          show Steps p.tables e below (T159.setTop (mkF m 140 #[.val (.long p0), .second, .val (.int p1), .val (.int p2), .val (.int p3), .val (.int p4), .val (.int p5), .val (.ref b105), .val (.int n), .val (.int iI), .val (.int jJ), .val (.ref b107), .val (.int (p4.toInt8.toInt32)), .val (.int (p4.toInt8.toInt32))] [(.int (p4.toInt8.toInt32)), (.int (p4.toInt8.toInt32))])) _
          refine XS.icmpNo X159.here hx rfl (hb hby at_140) rfl (teq (rfl : (p4.toInt8.toInt32) = (p4.toInt8.toInt32))).2 ?_
          show Steps p.tables e below (T159.setTop (mkF m 143 #[.val (.long p0), .second, .val (.int p1), .val (.int p2), .val (.int p3), .val (.int p4), .val (.int p5), .val (.ref b105), .val (.int n), .val (.int iI), .val (.int jJ), .val (.ref b107), .val (.int (p4.toInt8.toInt32)), .val (.int (p4.toInt8.toInt32))] [])) _
          refine XS.aload X159.here hx rfl (hb hby at_143) rfl rfl ?_
          show Steps p.tables e below (T159.setTop (mkF m 145 #[.val (.long p0), .second, .val (.int p1), .val (.int p2), .val (.int p3), .val (.int p4), .val (.int p5), .val (.ref b105), .val (.int n), .val (.int iI), .val (.int jJ), .val (.ref b107), .val (.int (p4.toInt8.toInt32)), .val (.int (p4.toInt8.toInt32))] [(.ref b105)])) _
          refine XS.iload X159.here hx rfl (hb hby at_145) rfl ?_
          show Steps p.tables e below (T159.setTop (mkF m 147 #[.val (.long p0), .second, .val (.int p1), .val (.int p2), .val (.int p3), .val (.int p4), .val (.int p5), .val (.ref b105), .val (.int n), .val (.int iI), .val (.int jJ), .val (.ref b107), .val (.int (p4.toInt8.toInt32)), .val (.int (p4.toInt8.toInt32))] [(.int jJ), (.ref b105)])) _
          refine XS.i2l X159.here hx rfl (hb hby at_147) rfl ?_
          show Steps p.tables e below (T159.setTop (mkF m 148 #[.val (.long p0), .second, .val (.int p1), .val (.int p2), .val (.int p3), .val (.int p4), .val (.int p5), .val (.ref b105), .val (.int n), .val (.int iI), .val (.int jJ), .val (.ref b107), .val (.int (p4.toInt8.toInt32)), .val (.int (p4.toInt8.toInt32))] [(.long (jJ.toInt64)), (.ref b105)])) _
          refine st161.trans ?_
          show Steps p.tables e below (T161.setTop (mkF m 151 #[.val (.long p0), .second, .val (.int p1), .val (.int p2), .val (.int p3), .val (.int p4), .val (.int p5), .val (.ref b105), .val (.int n), .val (.int iI), .val (.int jJ), .val (.ref b107), .val (.int (p4.toInt8.toInt32)), .val (.int (p4.toInt8.toInt32))] [(.int (nar .byte (f4 (jJ.toInt64).toInt.toNat)))])) _
          rw [G148_162]
          show Steps p.tables e below (T161.setTop (mkF m 151 #[.val (.long p0), .second, .val (.int p1), .val (.int p2), .val (.int p3), .val (.int p4), .val (.int p5), .val (.ref b105), .val (.int n), .val (.int iI), .val (.int jJ), .val (.ref b107), .val (.int (p4.toInt8.toInt32)), .val (.int (p4.toInt8.toInt32))] [(.int (p5.toInt8.toInt32))])) _
          refine XS.iload X161.here hx rfl (hb hby at_151) rfl ?_
          show Steps p.tables e below (T161.setTop (mkF m 153 #[.val (.long p0), .second, .val (.int p1), .val (.int p2), .val (.int p3), .val (.int p4), .val (.int p5), .val (.ref b105), .val (.int n), .val (.int iI), .val (.int jJ), .val (.ref b107), .val (.int (p4.toInt8.toInt32)), .val (.int (p4.toInt8.toInt32))] [(.int p5), (.int (p5.toInt8.toInt32))])) _
          refine XS.i2b X161.here hx rfl (hb hby at_153) rfl ?_
          show Steps p.tables e below (T161.setTop (mkF m 154 #[.val (.long p0), .second, .val (.int p1), .val (.int p2), .val (.int p3), .val (.int p4), .val (.int p5), .val (.ref b105), .val (.int n), .val (.int iI), .val (.int jJ), .val (.ref b107), .val (.int (p4.toInt8.toInt32)), .val (.int (p4.toInt8.toInt32))] [(.int (p5.toInt8.toInt32)), (.int (p5.toInt8.toInt32))])) _
          refine XS.icmpNo X161.here hx rfl (hb hby at_154) rfl (teq (rfl : (p5.toInt8.toInt32) = (p5.toInt8.toInt32))).2 ?_
          show Steps p.tables e below (T161.setTop (mkF m 157 #[.val (.long p0), .second, .val (.int p1), .val (.int p2), .val (.int p3), .val (.int p4), .val (.int p5), .val (.ref b105), .val (.int n), .val (.int iI), .val (.int jJ), .val (.ref b107), .val (.int (p4.toInt8.toInt32)), .val (.int (p4.toInt8.toInt32))] [])) _
          refine XS.aload X161.here hx rfl (hb hby at_157) rfl rfl ?_
          show Steps p.tables e below (T161.setTop (mkF m 159 #[.val (.long p0), .second, .val (.int p1), .val (.int p2), .val (.int p3), .val (.int p4), .val (.int p5), .val (.ref b105), .val (.int n), .val (.int iI), .val (.int jJ), .val (.ref b107), .val (.int (p4.toInt8.toInt32)), .val (.int (p4.toInt8.toInt32))] [(.ref b105)])) _
          refine XS.lconst X161.here hx rfl (hb hby at_159) ?_
          show Steps p.tables e below (T161.setTop (mkF m 160 #[.val (.long p0), .second, .val (.int p1), .val (.int p2), .val (.int p3), .val (.int p4), .val (.int p5), .val (.ref b105), .val (.int n), .val (.int iI), .val (.int jJ), .val (.ref b107), .val (.int (p4.toInt8.toInt32)), .val (.int (p4.toInt8.toInt32))] [(.long (0 : Int64)), (.ref b105)])) _
          refine st163.trans ?_
          show Steps p.tables e below (T163.setTop (mkF m 163 #[.val (.long p0), .second, .val (.int p1), .val (.int p2), .val (.int p3), .val (.int p4), .val (.int p5), .val (.ref b105), .val (.int n), .val (.int iI), .val (.int jJ), .val (.ref b107), .val (.int (p4.toInt8.toInt32)), .val (.int (p4.toInt8.toInt32))] [(.int (nar .byte (f4 (0 : Int64).toInt.toNat)))])) _
          rw [G160_164]
          show Steps p.tables e below (T163.setTop (mkF m 163 #[.val (.long p0), .second, .val (.int p1), .val (.int p2), .val (.int p3), .val (.int p4), .val (.int p5), .val (.ref b105), .val (.int n), .val (.int iI), .val (.int jJ), .val (.ref b107), .val (.int (p4.toInt8.toInt32)), .val (.int (p4.toInt8.toInt32))] [(.int (p4.toInt8.toInt32))])) _
          refine XS.iload X163.here hx rfl (hb hby at_163) rfl ?_
          show Steps p.tables e below (T163.setTop (mkF m 165 #[.val (.long p0), .second, .val (.int p1), .val (.int p2), .val (.int p3), .val (.int p4), .val (.int p5), .val (.ref b105), .val (.int n), .val (.int iI), .val (.int jJ), .val (.ref b107), .val (.int (p4.toInt8.toInt32)), .val (.int (p4.toInt8.toInt32))] [(.int (p4.toInt8.toInt32)), (.int (p4.toInt8.toInt32))])) _
          refine XS.icmpNo X163.here hx rfl (hb hby at_165) rfl (teq (rfl : (p4.toInt8.toInt32) = (p4.toInt8.toInt32))).2 ?_
          show Steps p.tables e below (T163.setTop (mkF m 168 #[.val (.long p0), .second, .val (.int p1), .val (.int p2), .val (.int p3), .val (.int p4), .val (.int p5), .val (.ref b105), .val (.int n), .val (.int iI), .val (.int jJ), .val (.ref b107), .val (.int (p4.toInt8.toInt32)), .val (.int (p4.toInt8.toInt32))] [])) _
          refine XS.aload X163.here hx rfl (hb hby at_168) rfl rfl ?_
          show Steps p.tables e below (T163.setTop (mkF m 170 #[.val (.long p0), .second, .val (.int p1), .val (.int p2), .val (.int p3), .val (.int p4), .val (.int p5), .val (.ref b105), .val (.int n), .val (.int iI), .val (.int jJ), .val (.ref b107), .val (.int (p4.toInt8.toInt32)), .val (.int (p4.toInt8.toInt32))] [(.ref b105)])) _
          refine XS.iload X163.here hx rfl (hb hby at_170) rfl ?_
          show Steps p.tables e below (T163.setTop (mkF m 172 #[.val (.long p0), .second, .val (.int p1), .val (.int p2), .val (.int p3), .val (.int p4), .val (.int p5), .val (.ref b105), .val (.int n), .val (.int iI), .val (.int jJ), .val (.ref b107), .val (.int (p4.toInt8.toInt32)), .val (.int (p4.toInt8.toInt32))] [(.int n), (.ref b105)])) _
          refine XS.i2l X163.here hx rfl (hb hby at_172) rfl ?_
          show Steps p.tables e below (T163.setTop (mkF m 173 #[.val (.long p0), .second, .val (.int p1), .val (.int p2), .val (.int p3), .val (.int p4), .val (.int p5), .val (.ref b105), .val (.int n), .val (.int iI), .val (.int jJ), .val (.ref b107), .val (.int (p4.toInt8.toInt32)), .val (.int (p4.toInt8.toInt32))] [(.long (n.toInt64)), (.ref b105)])) _
          refine st165.trans ?_
          show Steps p.tables e below (T165.setTop (mkF m 176 #[.val (.long p0), .second, .val (.int p1), .val (.int p2), .val (.int p3), .val (.int p4), .val (.int p5), .val (.ref b105), .val (.int n), .val (.int iI), .val (.int jJ), .val (.ref b107), .val (.int (p4.toInt8.toInt32)), .val (.int (p4.toInt8.toInt32))] [(.int (nar .byte (f4 (n.toInt64).toInt.toNat)))])) _
          rw [G173_166]
          show Steps p.tables e below (T165.setTop (mkF m 176 #[.val (.long p0), .second, .val (.int p1), .val (.int p2), .val (.int p3), .val (.int p4), .val (.int p5), .val (.ref b105), .val (.int n), .val (.int iI), .val (.int jJ), .val (.ref b107), .val (.int (p4.toInt8.toInt32)), .val (.int (p4.toInt8.toInt32))] [(.int ((p4 >>> ((8 : Int32) &&& 31)).toInt8.toInt32))])) _
          refine XS.iload X165.here hx rfl (hb hby at_176) rfl ?_
          show Steps p.tables e below (T165.setTop (mkF m 178 #[.val (.long p0), .second, .val (.int p1), .val (.int p2), .val (.int p3), .val (.int p4), .val (.int p5), .val (.ref b105), .val (.int n), .val (.int iI), .val (.int jJ), .val (.ref b107), .val (.int (p4.toInt8.toInt32)), .val (.int (p4.toInt8.toInt32))] [(.int p4), (.int ((p4 >>> ((8 : Int32) &&& 31)).toInt8.toInt32))])) _
          refine XS.bipush X165.here hx rfl (hb hby at_178) ?_
          show Steps p.tables e below (T165.setTop (mkF m 180 #[.val (.long p0), .second, .val (.int p1), .val (.int p2), .val (.int p3), .val (.int p4), .val (.int p5), .val (.ref b105), .val (.int n), .val (.int iI), .val (.int jJ), .val (.ref b107), .val (.int (p4.toInt8.toInt32)), .val (.int (p4.toInt8.toInt32))] [(.int (8 : Int32)), (.int p4), (.int ((p4 >>> ((8 : Int32) &&& 31)).toInt8.toInt32))])) _
          refine XS.ishr X165.here hx rfl (hb hby at_180) rfl ?_
          show Steps p.tables e below (T165.setTop (mkF m 181 #[.val (.long p0), .second, .val (.int p1), .val (.int p2), .val (.int p3), .val (.int p4), .val (.int p5), .val (.ref b105), .val (.int n), .val (.int iI), .val (.int jJ), .val (.ref b107), .val (.int (p4.toInt8.toInt32)), .val (.int (p4.toInt8.toInt32))] [(.int (p4 >>> ((8 : Int32) &&& 31))), (.int ((p4 >>> ((8 : Int32) &&& 31)).toInt8.toInt32))])) _
          refine XS.i2b X165.here hx rfl (hb hby at_181) rfl ?_
          show Steps p.tables e below (T165.setTop (mkF m 182 #[.val (.long p0), .second, .val (.int p1), .val (.int p2), .val (.int p3), .val (.int p4), .val (.int p5), .val (.ref b105), .val (.int n), .val (.int iI), .val (.int jJ), .val (.ref b107), .val (.int (p4.toInt8.toInt32)), .val (.int (p4.toInt8.toInt32))] [(.int ((p4 >>> ((8 : Int32) &&& 31)).toInt8.toInt32)), (.int ((p4 >>> ((8 : Int32) &&& 31)).toInt8.toInt32))])) _
          refine XS.icmpNo X165.here hx rfl (hb hby at_182) rfl (teq (rfl : ((p4 >>> ((8 : Int32) &&& 31)).toInt8.toInt32) = ((p4 >>> ((8 : Int32) &&& 31)).toInt8.toInt32))).2 ?_
          show Steps p.tables e below (T165.setTop (mkF m 185 #[.val (.long p0), .second, .val (.int p1), .val (.int p2), .val (.int p3), .val (.int p4), .val (.int p5), .val (.ref b105), .val (.int n), .val (.int iI), .val (.int jJ), .val (.ref b107), .val (.int (p4.toInt8.toInt32)), .val (.int (p4.toInt8.toInt32))] [])) _
          refine XS.iconst X165.here hx rfl (hb hby at_185) ?_
          show Steps p.tables e below (T165.setTop (mkF m 186 #[.val (.long p0), .second, .val (.int p1), .val (.int p2), .val (.int p3), .val (.int p4), .val (.int p5), .val (.ref b105), .val (.int n), .val (.int iI), .val (.int jJ), .val (.ref b107), .val (.int (p4.toInt8.toInt32)), .val (.int (p4.toInt8.toInt32))] [(.int (1 : Int32))])) _
          refine XS.goto X165.here hx rfl (pc0 := 186) (pc' := 190) rfl (hb hby at_186) (by decide) (by decide) ?_
          show Steps p.tables e below (T165.setTop (mkF m 190 #[.val (.long p0), .second, .val (.int p1), .val (.int p2), .val (.int p3), .val (.int p4), .val (.int p5), .val (.ref b105), .val (.int n), .val (.int iI), .val (.int jJ), .val (.ref b107), .val (.int (p4.toInt8.toInt32)), .val (.int (p4.toInt8.toInt32))] [(.int (1 : Int32))])) _
          exact retN X165 hx (t := .boolean) Bd.returns (by simp) (hb hby at_190) hr
        · show own_Made (some (.int 1)) n0 _ T165.heap _
          rw [e165]
          exact ⟨rfl, N165, trivial⟩
      · -- pc 118: not (0 : Int32) = iI
        obtain ⟨cq167, kq167, q167a, q167b, q167c⟩ := isOf hZ e118 (E118)
        obtain ⟨_, _, ⟨T167, L167, k167, n167⟩, -, X167, ⟨Lc167, hQ167, l167, y167, z167⟩, st167⟩ := X118.virtualBack hx (y := (⟨"com/example/cubelet/cubelet/Chunks", "get", "(J)B"⟩ : MethodName)) (z := (⟨"com/example/cubelet/cubelet/Chunks", "get", "(J)B"⟩ : MethodName)) hown (mvT hZ (hw _ (List.mem_of_getElem? (i := 56) rfl))) (mvT hZ (hw _ (List.mem_of_getElem? (i := 57) rfl))) (notFace_of_selects (args := #[]) (mvT hZ (hw _ (List.mem_of_getElem? (i := 59) rfl)))) (mvT hZ (hw _ (List.mem_of_getElem? (i := 59) rfl))) (mvT hZ (hw _ (List.mem_of_getElem? (i := 58) rfl))) (by decide) (backOf (W := 0) (rm_get l Z a0 hw [] b105 (iI.toInt64) T118.heap n0 (Nat.le_trans Z0 EX118.1) c1 c4 kc1 kc4 z4 f4 Fc118 A118 V118 (by have := c_i2l iI; omega) hz4') hZ (hw _ (List.mem_of_getElem? (i := 60) rfl)) (hw _ (List.mem_of_getElem? (i := 2) rfl)) (by decide) (by decide)) q167a q167c (g := (mkF m 135 #[.val (.long p0), .second, .val (.int p1), .val (.int p2), .val (.int p3), .val (.int p4), .val (.int p5), .val (.ref b105), .val (.int n), .val (.int iI), .val (.int jJ), .val (.ref b107), .val (.int (p4.toInt8.toInt32)), .val (.int (0 : Int32))] [(.long (iI.toInt64)), (.ref b105)])) rfl (by rw [hml]; rfl) (Steps.refl _) (argsL := [(.long (iI.toInt64))]) (rest := []) (lenOf pd_228 rfl) rfl (by show 2 * 0 + _ ≤ _; exact Nat.le_of_eq rfl) (hb hby at_135) (fun _ _ => ⟨rfl, e118, (by decide : 6 + 0 ≤ _), (by decide : 57346 + 0 ≤ _)⟩)
        dsimp only [Pt.U, Pt.locs, Pt.cells, Pt.slots] at X167 l167 y167 z167 st167 hQ167
        subst l167 y167 z167
        obtain ⟨rfl, N167q, e167⟩ := hQ167
        have N167 := Fr.app N118 N167q
        have G135_168 : (nar .byte (f4 (iI.toInt64).toInt.toNat)) = (p4.toInt8.toInt32) := by
          rw [own_i64, hA _ (own_ki hi)]
          refine (congrArg (nar .byte) ((if_neg (own_ij hi hj hc89_119)).trans (if_pos rfl))).trans (own_nar _)
        obtain ⟨cq169, kq169, q169a, q169b, q169c⟩ := isOf hZ e167 (E118)
        obtain ⟨_, _, ⟨T169, L169, k169, n169⟩, -, X169, ⟨Lc169, hQ169, l169, y169, z169⟩, st169⟩ := X167.virtualBack hx (y := (⟨"com/example/cubelet/cubelet/Chunks", "get", "(J)B"⟩ : MethodName)) (z := (⟨"com/example/cubelet/cubelet/Chunks", "get", "(J)B"⟩ : MethodName)) hown (mvT hZ (hw _ (List.mem_of_getElem? (i := 56) rfl))) (mvT hZ (hw _ (List.mem_of_getElem? (i := 57) rfl))) (notFace_of_selects (args := #[]) (mvT hZ (hw _ (List.mem_of_getElem? (i := 59) rfl)))) (mvT hZ (hw _ (List.mem_of_getElem? (i := 59) rfl))) (mvT hZ (hw _ (List.mem_of_getElem? (i := 58) rfl))) (by decide) (backOf (W := 0) (rm_get l Z a0 hw [] b105 (jJ.toInt64) T118.heap n0 (Nat.le_trans Z0 EX118.1) c1 c4 kc1 kc4 z4 f4 Fc118 A118 V118 (by have := c_i2l jJ; omega) hz4') hZ (hw _ (List.mem_of_getElem? (i := 60) rfl)) (hw _ (List.mem_of_getElem? (i := 2) rfl)) (by decide) (by decide)) q169a q169c (g := (mkF m 148 #[.val (.long p0), .second, .val (.int p1), .val (.int p2), .val (.int p3), .val (.int p4), .val (.int p5), .val (.ref b105), .val (.int n), .val (.int iI), .val (.int jJ), .val (.ref b107), .val (.int (p4.toInt8.toInt32)), .val (.int (0 : Int32))] [(.long (jJ.toInt64)), (.ref b105)])) rfl (by rw [hml]; rfl) (Steps.refl _) (argsL := [(.long (jJ.toInt64))]) (rest := []) (lenOf pd_228 rfl) rfl (by show 2 * 0 + _ ≤ _; exact Nat.le_of_eq rfl) (hb hby at_148) (fun _ _ => ⟨rfl, e167, (by decide : 6 + 0 ≤ _), (by decide : 57346 + 0 ≤ _)⟩)
        dsimp only [Pt.U, Pt.locs, Pt.cells, Pt.slots] at X169 l169 y169 z169 st169 hQ169
        subst l169 y169 z169
        obtain ⟨rfl, N169q, e169⟩ := hQ169
        have N169 := Fr.app N167 N169q
        have G148_170 : (nar .byte (f4 (jJ.toInt64).toInt.toNat)) = (p5.toInt8.toInt32) := by
          rw [own_i64, hA _ (own_ki hj)]
          refine (congrArg (nar .byte) (if_pos rfl)).trans (own_nar _)
        obtain ⟨cq171, kq171, q171a, q171b, q171c⟩ := isOf hZ e169 (E118)
        obtain ⟨_, _, ⟨T171, L171, k171, n171⟩, -, X171, ⟨Lc171, hQ171, l171, y171, z171⟩, st171⟩ := X169.virtualBack hx (y := (⟨"com/example/cubelet/cubelet/Chunks", "get", "(J)B"⟩ : MethodName)) (z := (⟨"com/example/cubelet/cubelet/Chunks", "get", "(J)B"⟩ : MethodName)) hown (mvT hZ (hw _ (List.mem_of_getElem? (i := 56) rfl))) (mvT hZ (hw _ (List.mem_of_getElem? (i := 57) rfl))) (notFace_of_selects (args := #[]) (mvT hZ (hw _ (List.mem_of_getElem? (i := 59) rfl)))) (mvT hZ (hw _ (List.mem_of_getElem? (i := 59) rfl))) (mvT hZ (hw _ (List.mem_of_getElem? (i := 58) rfl))) (by decide) (backOf (W := 0) (rm_get l Z a0 hw [] b105 (0 : Int64) T118.heap n0 (Nat.le_trans Z0 EX118.1) c1 c4 kc1 kc4 z4 f4 Fc118 A118 V118 ⟨by decide, by have := own_00; omega⟩ hz4') hZ (hw _ (List.mem_of_getElem? (i := 60) rfl)) (hw _ (List.mem_of_getElem? (i := 2) rfl)) (by decide) (by decide)) q171a q171c (g := (mkF m 160 #[.val (.long p0), .second, .val (.int p1), .val (.int p2), .val (.int p3), .val (.int p4), .val (.int p5), .val (.ref b105), .val (.int n), .val (.int iI), .val (.int jJ), .val (.ref b107), .val (.int (p4.toInt8.toInt32)), .val (.int (0 : Int32))] [(.long (0 : Int64)), (.ref b105)])) rfl (by rw [hml]; rfl) (Steps.refl _) (argsL := [(.long (0 : Int64))]) (rest := []) (lenOf pd_228 rfl) rfl (by show 2 * 0 + _ ≤ _; exact Nat.le_of_eq rfl) (hb hby at_160) (fun _ _ => ⟨rfl, e169, (by decide : 6 + 0 ≤ _), (by decide : 57346 + 0 ≤ _)⟩)
        dsimp only [Pt.U, Pt.locs, Pt.cells, Pt.slots] at X171 l171 y171 z171 st171 hQ171
        subst l171 y171 z171
        obtain ⟨rfl, N171q, e171⟩ := hQ171
        have N171 := Fr.app N169 N171q
        have G160_172 : (nar .byte (f4 (0 : Int64).toInt.toNat)) = (0 : Int32) := by
          rw [show ((0 : Int64).toInt.toNat) = 0 from rfl, hA 0 (by omega)]
          refine (congrArg (nar .byte) ((if_neg (own_0j hj hc106_148)).trans (if_neg (own_0j hi hc118_158)))).trans own_nar0
        obtain ⟨cq173, kq173, q173a, q173b, q173c⟩ := isOf hZ e171 (E118)
        obtain ⟨_, _, ⟨T173, L173, k173, n173⟩, -, X173, ⟨Lc173, hQ173, l173, y173, z173⟩, st173⟩ := X171.virtualBack hx (y := (⟨"com/example/cubelet/cubelet/Chunks", "get", "(J)B"⟩ : MethodName)) (z := (⟨"com/example/cubelet/cubelet/Chunks", "get", "(J)B"⟩ : MethodName)) hown (mvT hZ (hw _ (List.mem_of_getElem? (i := 56) rfl))) (mvT hZ (hw _ (List.mem_of_getElem? (i := 57) rfl))) (notFace_of_selects (args := #[]) (mvT hZ (hw _ (List.mem_of_getElem? (i := 59) rfl)))) (mvT hZ (hw _ (List.mem_of_getElem? (i := 59) rfl))) (mvT hZ (hw _ (List.mem_of_getElem? (i := 58) rfl))) (by decide) (backOf (W := 0) (rm_get l Z a0 hw [] b105 (n.toInt64) T118.heap n0 (Nat.le_trans Z0 EX118.1) c1 c4 kc1 kc4 z4 f4 Fc118 A118 V118 (by have := c_i2l n; omega) hz4') hZ (hw _ (List.mem_of_getElem? (i := 60) rfl)) (hw _ (List.mem_of_getElem? (i := 2) rfl)) (by decide) (by decide)) q173a q173c (g := (mkF m 173 #[.val (.long p0), .second, .val (.int p1), .val (.int p2), .val (.int p3), .val (.int p4), .val (.int p5), .val (.ref b105), .val (.int n), .val (.int iI), .val (.int jJ), .val (.ref b107), .val (.int (p4.toInt8.toInt32)), .val (.int (0 : Int32))] [(.long (n.toInt64)), (.ref b105)])) rfl (by rw [hml]; rfl) (Steps.refl _) (argsL := [(.long (n.toInt64))]) (rest := []) (lenOf pd_228 rfl) rfl (by show 2 * 0 + _ ≤ _; exact Nat.le_of_eq rfl) (hb hby at_173) (fun _ _ => ⟨rfl, e171, (by decide : 6 + 0 ≤ _), (by decide : 57346 + 0 ≤ _)⟩)
        dsimp only [Pt.U, Pt.locs, Pt.cells, Pt.slots] at X173 l173 y173 z173 st173 hQ173
        subst l173 y173 z173
        obtain ⟨rfl, N173q, e173⟩ := hQ173
        have N173 := Fr.app N171 N173q
        have G173_174 : (nar .byte (f4 (n.toInt64).toInt.toNat)) = ((p4 >>> ((8 : Int32) &&& 31)).toInt8.toInt32) := by
          rw [own_ln2 hl3, hP4.2]
          exact own_nar _
        obtain ⟨fs, hr, hrun, hended, hW, hsame⟩ := X173.leave (v := some (.int (1 : Int32))) (fun h => by rw [Bd.returns] at h; cases h)
        refine ⟨_, _, ck149 _ ?_, hrun, hended, _, _, rfl, ?_, ⟨_, rfl⟩, hW, hsame.mono (by decide) (by decide)⟩
        · show Steps p.tables e below (T118.setTop (mkF m 106 #[.val (.long p0), .second, .val (.int p1), .val (.int p2), .val (.int p3), .val (.int p4), .val (.int p5), .val (.ref b105), .val (.int n), .val (.int iI), .val (.int jJ), .val (.ref b107), .val (.int (p4.toInt8.toInt32)), .unset] [(.int jJ), (.int (0 : Int32))])) _
          refine XS.icmpYes X118.here hx rfl (pc0 := 106) (pc' := 115) rfl (hb hby at_106) rfl (feq hc106_148).2 (by decide) (by decide) ?_
          show Steps p.tables e below (T118.setTop (mkF m 115 #[.val (.long p0), .second, .val (.int p1), .val (.int p2), .val (.int p3), .val (.int p4), .val (.int p5), .val (.ref b105), .val (.int n), .val (.int iI), .val (.int jJ), .val (.ref b107), .val (.int (p4.toInt8.toInt32)), .unset] [])) _
          refine XS.iconst X118.here hx rfl (hb hby at_115) ?_
          show Steps p.tables e below (T118.setTop (mkF m 116 #[.val (.long p0), .second, .val (.int p1), .val (.int p2), .val (.int p3), .val (.int p4), .val (.int p5), .val (.ref b105), .val (.int n), .val (.int iI), .val (.int jJ), .val (.ref b107), .val (.int (p4.toInt8.toInt32)), .unset] [(.int (0 : Int32))])) _
          refine XS.iload X118.here hx rfl (hb hby at_116) rfl ?_
          show Steps p.tables e below (T118.setTop (mkF m 118 #[.val (.long p0), .second, .val (.int p1), .val (.int p2), .val (.int p3), .val (.int p4), .val (.int p5), .val (.ref b105), .val (.int n), .val (.int iI), .val (.int jJ), .val (.ref b107), .val (.int (p4.toInt8.toInt32)), .unset] [(.int iI), (.int (0 : Int32))])) _
          refine XS.icmpYes X118.here hx rfl (pc0 := 118) (pc' := 127) rfl (hb hby at_118) rfl (feq hc118_158).2 (by decide) (by decide) ?_
          show Steps p.tables e below (T118.setTop (mkF m 127 #[.val (.long p0), .second, .val (.int p1), .val (.int p2), .val (.int p3), .val (.int p4), .val (.int p5), .val (.ref b105), .val (.int n), .val (.int iI), .val (.int jJ), .val (.ref b107), .val (.int (p4.toInt8.toInt32)), .unset] [])) _
          refine XS.iconst X118.here hx rfl (hb hby at_127) ?_
          show Steps p.tables e below (T118.setTop (mkF m 128 #[.val (.long p0), .second, .val (.int p1), .val (.int p2), .val (.int p3), .val (.int p4), .val (.int p5), .val (.ref b105), .val (.int n), .val (.int iI), .val (.int jJ), .val (.ref b107), .val (.int (p4.toInt8.toInt32)), .unset] [(.int (0 : Int32))])) _
          refine XS.istore X118.here hx rfl (hb hby at_128) rfl (l' := #[.val (.long p0), .second, .val (.int p1), .val (.int p2), .val (.int p3), .val (.int p4), .val (.int p5), .val (.ref b105), .val (.int n), .val (.int iI), .val (.int jJ), .val (.ref b107), .val (.int (p4.toInt8.toInt32)), .val (.int (0 : Int32))]) rfl ?_
          show Steps p.tables e below (T118.setTop (mkF m 130 #[.val (.long p0), .second, .val (.int p1), .val (.int p2), .val (.int p3), .val (.int p4), .val (.int p5), .val (.ref b105), .val (.int n), .val (.int iI), .val (.int jJ), .val (.ref b107), .val (.int (p4.toInt8.toInt32)), .val (.int (0 : Int32))] [])) _
          refine XS.aload X118.here hx rfl (hb hby at_130) rfl rfl ?_
          show Steps p.tables e below (T118.setTop (mkF m 132 #[.val (.long p0), .second, .val (.int p1), .val (.int p2), .val (.int p3), .val (.int p4), .val (.int p5), .val (.ref b105), .val (.int n), .val (.int iI), .val (.int jJ), .val (.ref b107), .val (.int (p4.toInt8.toInt32)), .val (.int (0 : Int32))] [(.ref b105)])) _
          refine XS.iload X118.here hx rfl (hb hby at_132) rfl ?_
          show Steps p.tables e below (T118.setTop (mkF m 134 #[.val (.long p0), .second, .val (.int p1), .val (.int p2), .val (.int p3), .val (.int p4), .val (.int p5), .val (.ref b105), .val (.int n), .val (.int iI), .val (.int jJ), .val (.ref b107), .val (.int (p4.toInt8.toInt32)), .val (.int (0 : Int32))] [(.int iI), (.ref b105)])) _
          refine XS.i2l X118.here hx rfl (hb hby at_134) rfl ?_
          show Steps p.tables e below (T118.setTop (mkF m 135 #[.val (.long p0), .second, .val (.int p1), .val (.int p2), .val (.int p3), .val (.int p4), .val (.int p5), .val (.ref b105), .val (.int n), .val (.int iI), .val (.int jJ), .val (.ref b107), .val (.int (p4.toInt8.toInt32)), .val (.int (0 : Int32))] [(.long (iI.toInt64)), (.ref b105)])) _
          refine st167.trans ?_
          show Steps p.tables e below (T167.setTop (mkF m 138 #[.val (.long p0), .second, .val (.int p1), .val (.int p2), .val (.int p3), .val (.int p4), .val (.int p5), .val (.ref b105), .val (.int n), .val (.int iI), .val (.int jJ), .val (.ref b107), .val (.int (p4.toInt8.toInt32)), .val (.int (0 : Int32))] [(.int (nar .byte (f4 (iI.toInt64).toInt.toNat)))])) _
          rw [G135_168]
          show Steps p.tables e below (T167.setTop (mkF m 138 #[.val (.long p0), .second, .val (.int p1), .val (.int p2), .val (.int p3), .val (.int p4), .val (.int p5), .val (.ref b105), .val (.int n), .val (.int iI), .val (.int jJ), .val (.ref b107), .val (.int (p4.toInt8.toInt32)), .val (.int (0 : Int32))] [(.int (p4.toInt8.toInt32))])) _
          refine XS.iload X167.here hx rfl (hb hby at_138) rfl ?_
          show Steps p.tables e below (T167.setTop (mkF m 140 #[.val (.long p0), .second, .val (.int p1), .val (.int p2), .val (.int p3), .val (.int p4), .val (.int p5), .val (.ref b105), .val (.int n), .val (.int iI), .val (.int jJ), .val (.ref b107), .val (.int (p4.toInt8.toInt32)), .val (.int (0 : Int32))] [(.int (p4.toInt8.toInt32)), (.int (p4.toInt8.toInt32))])) _
          refine XS.icmpNo X167.here hx rfl (hb hby at_140) rfl (teq (rfl : (p4.toInt8.toInt32) = (p4.toInt8.toInt32))).2 ?_
          show Steps p.tables e below (T167.setTop (mkF m 143 #[.val (.long p0), .second, .val (.int p1), .val (.int p2), .val (.int p3), .val (.int p4), .val (.int p5), .val (.ref b105), .val (.int n), .val (.int iI), .val (.int jJ), .val (.ref b107), .val (.int (p4.toInt8.toInt32)), .val (.int (0 : Int32))] [])) _
          refine XS.aload X167.here hx rfl (hb hby at_143) rfl rfl ?_
          show Steps p.tables e below (T167.setTop (mkF m 145 #[.val (.long p0), .second, .val (.int p1), .val (.int p2), .val (.int p3), .val (.int p4), .val (.int p5), .val (.ref b105), .val (.int n), .val (.int iI), .val (.int jJ), .val (.ref b107), .val (.int (p4.toInt8.toInt32)), .val (.int (0 : Int32))] [(.ref b105)])) _
          refine XS.iload X167.here hx rfl (hb hby at_145) rfl ?_
          show Steps p.tables e below (T167.setTop (mkF m 147 #[.val (.long p0), .second, .val (.int p1), .val (.int p2), .val (.int p3), .val (.int p4), .val (.int p5), .val (.ref b105), .val (.int n), .val (.int iI), .val (.int jJ), .val (.ref b107), .val (.int (p4.toInt8.toInt32)), .val (.int (0 : Int32))] [(.int jJ), (.ref b105)])) _
          refine XS.i2l X167.here hx rfl (hb hby at_147) rfl ?_
          show Steps p.tables e below (T167.setTop (mkF m 148 #[.val (.long p0), .second, .val (.int p1), .val (.int p2), .val (.int p3), .val (.int p4), .val (.int p5), .val (.ref b105), .val (.int n), .val (.int iI), .val (.int jJ), .val (.ref b107), .val (.int (p4.toInt8.toInt32)), .val (.int (0 : Int32))] [(.long (jJ.toInt64)), (.ref b105)])) _
          refine st169.trans ?_
          show Steps p.tables e below (T169.setTop (mkF m 151 #[.val (.long p0), .second, .val (.int p1), .val (.int p2), .val (.int p3), .val (.int p4), .val (.int p5), .val (.ref b105), .val (.int n), .val (.int iI), .val (.int jJ), .val (.ref b107), .val (.int (p4.toInt8.toInt32)), .val (.int (0 : Int32))] [(.int (nar .byte (f4 (jJ.toInt64).toInt.toNat)))])) _
          rw [G148_170]
          show Steps p.tables e below (T169.setTop (mkF m 151 #[.val (.long p0), .second, .val (.int p1), .val (.int p2), .val (.int p3), .val (.int p4), .val (.int p5), .val (.ref b105), .val (.int n), .val (.int iI), .val (.int jJ), .val (.ref b107), .val (.int (p4.toInt8.toInt32)), .val (.int (0 : Int32))] [(.int (p5.toInt8.toInt32))])) _
          refine XS.iload X169.here hx rfl (hb hby at_151) rfl ?_
          show Steps p.tables e below (T169.setTop (mkF m 153 #[.val (.long p0), .second, .val (.int p1), .val (.int p2), .val (.int p3), .val (.int p4), .val (.int p5), .val (.ref b105), .val (.int n), .val (.int iI), .val (.int jJ), .val (.ref b107), .val (.int (p4.toInt8.toInt32)), .val (.int (0 : Int32))] [(.int p5), (.int (p5.toInt8.toInt32))])) _
          refine XS.i2b X169.here hx rfl (hb hby at_153) rfl ?_
          show Steps p.tables e below (T169.setTop (mkF m 154 #[.val (.long p0), .second, .val (.int p1), .val (.int p2), .val (.int p3), .val (.int p4), .val (.int p5), .val (.ref b105), .val (.int n), .val (.int iI), .val (.int jJ), .val (.ref b107), .val (.int (p4.toInt8.toInt32)), .val (.int (0 : Int32))] [(.int (p5.toInt8.toInt32)), (.int (p5.toInt8.toInt32))])) _
          refine XS.icmpNo X169.here hx rfl (hb hby at_154) rfl (teq (rfl : (p5.toInt8.toInt32) = (p5.toInt8.toInt32))).2 ?_
          show Steps p.tables e below (T169.setTop (mkF m 157 #[.val (.long p0), .second, .val (.int p1), .val (.int p2), .val (.int p3), .val (.int p4), .val (.int p5), .val (.ref b105), .val (.int n), .val (.int iI), .val (.int jJ), .val (.ref b107), .val (.int (p4.toInt8.toInt32)), .val (.int (0 : Int32))] [])) _
          refine XS.aload X169.here hx rfl (hb hby at_157) rfl rfl ?_
          show Steps p.tables e below (T169.setTop (mkF m 159 #[.val (.long p0), .second, .val (.int p1), .val (.int p2), .val (.int p3), .val (.int p4), .val (.int p5), .val (.ref b105), .val (.int n), .val (.int iI), .val (.int jJ), .val (.ref b107), .val (.int (p4.toInt8.toInt32)), .val (.int (0 : Int32))] [(.ref b105)])) _
          refine XS.lconst X169.here hx rfl (hb hby at_159) ?_
          show Steps p.tables e below (T169.setTop (mkF m 160 #[.val (.long p0), .second, .val (.int p1), .val (.int p2), .val (.int p3), .val (.int p4), .val (.int p5), .val (.ref b105), .val (.int n), .val (.int iI), .val (.int jJ), .val (.ref b107), .val (.int (p4.toInt8.toInt32)), .val (.int (0 : Int32))] [(.long (0 : Int64)), (.ref b105)])) _
          refine st171.trans ?_
          show Steps p.tables e below (T171.setTop (mkF m 163 #[.val (.long p0), .second, .val (.int p1), .val (.int p2), .val (.int p3), .val (.int p4), .val (.int p5), .val (.ref b105), .val (.int n), .val (.int iI), .val (.int jJ), .val (.ref b107), .val (.int (p4.toInt8.toInt32)), .val (.int (0 : Int32))] [(.int (nar .byte (f4 (0 : Int64).toInt.toNat)))])) _
          rw [G160_172]
          show Steps p.tables e below (T171.setTop (mkF m 163 #[.val (.long p0), .second, .val (.int p1), .val (.int p2), .val (.int p3), .val (.int p4), .val (.int p5), .val (.ref b105), .val (.int n), .val (.int iI), .val (.int jJ), .val (.ref b107), .val (.int (p4.toInt8.toInt32)), .val (.int (0 : Int32))] [(.int (0 : Int32))])) _
          refine XS.iload X171.here hx rfl (hb hby at_163) rfl ?_
          show Steps p.tables e below (T171.setTop (mkF m 165 #[.val (.long p0), .second, .val (.int p1), .val (.int p2), .val (.int p3), .val (.int p4), .val (.int p5), .val (.ref b105), .val (.int n), .val (.int iI), .val (.int jJ), .val (.ref b107), .val (.int (p4.toInt8.toInt32)), .val (.int (0 : Int32))] [(.int (0 : Int32)), (.int (0 : Int32))])) _
          refine XS.icmpNo X171.here hx rfl (hb hby at_165) rfl (teq (by decide : (0 : Int32) = (0 : Int32))).2 ?_
          show Steps p.tables e below (T171.setTop (mkF m 168 #[.val (.long p0), .second, .val (.int p1), .val (.int p2), .val (.int p3), .val (.int p4), .val (.int p5), .val (.ref b105), .val (.int n), .val (.int iI), .val (.int jJ), .val (.ref b107), .val (.int (p4.toInt8.toInt32)), .val (.int (0 : Int32))] [])) _
          refine XS.aload X171.here hx rfl (hb hby at_168) rfl rfl ?_
          show Steps p.tables e below (T171.setTop (mkF m 170 #[.val (.long p0), .second, .val (.int p1), .val (.int p2), .val (.int p3), .val (.int p4), .val (.int p5), .val (.ref b105), .val (.int n), .val (.int iI), .val (.int jJ), .val (.ref b107), .val (.int (p4.toInt8.toInt32)), .val (.int (0 : Int32))] [(.ref b105)])) _
          refine XS.iload X171.here hx rfl (hb hby at_170) rfl ?_
          show Steps p.tables e below (T171.setTop (mkF m 172 #[.val (.long p0), .second, .val (.int p1), .val (.int p2), .val (.int p3), .val (.int p4), .val (.int p5), .val (.ref b105), .val (.int n), .val (.int iI), .val (.int jJ), .val (.ref b107), .val (.int (p4.toInt8.toInt32)), .val (.int (0 : Int32))] [(.int n), (.ref b105)])) _
          refine XS.i2l X171.here hx rfl (hb hby at_172) rfl ?_
          show Steps p.tables e below (T171.setTop (mkF m 173 #[.val (.long p0), .second, .val (.int p1), .val (.int p2), .val (.int p3), .val (.int p4), .val (.int p5), .val (.ref b105), .val (.int n), .val (.int iI), .val (.int jJ), .val (.ref b107), .val (.int (p4.toInt8.toInt32)), .val (.int (0 : Int32))] [(.long (n.toInt64)), (.ref b105)])) _
          refine st173.trans ?_
          show Steps p.tables e below (T173.setTop (mkF m 176 #[.val (.long p0), .second, .val (.int p1), .val (.int p2), .val (.int p3), .val (.int p4), .val (.int p5), .val (.ref b105), .val (.int n), .val (.int iI), .val (.int jJ), .val (.ref b107), .val (.int (p4.toInt8.toInt32)), .val (.int (0 : Int32))] [(.int (nar .byte (f4 (n.toInt64).toInt.toNat)))])) _
          rw [G173_174]
          show Steps p.tables e below (T173.setTop (mkF m 176 #[.val (.long p0), .second, .val (.int p1), .val (.int p2), .val (.int p3), .val (.int p4), .val (.int p5), .val (.ref b105), .val (.int n), .val (.int iI), .val (.int jJ), .val (.ref b107), .val (.int (p4.toInt8.toInt32)), .val (.int (0 : Int32))] [(.int ((p4 >>> ((8 : Int32) &&& 31)).toInt8.toInt32))])) _
          refine XS.iload X173.here hx rfl (hb hby at_176) rfl ?_
          show Steps p.tables e below (T173.setTop (mkF m 178 #[.val (.long p0), .second, .val (.int p1), .val (.int p2), .val (.int p3), .val (.int p4), .val (.int p5), .val (.ref b105), .val (.int n), .val (.int iI), .val (.int jJ), .val (.ref b107), .val (.int (p4.toInt8.toInt32)), .val (.int (0 : Int32))] [(.int p4), (.int ((p4 >>> ((8 : Int32) &&& 31)).toInt8.toInt32))])) _
          refine XS.bipush X173.here hx rfl (hb hby at_178) ?_
          show Steps p.tables e below (T173.setTop (mkF m 180 #[.val (.long p0), .second, .val (.int p1), .val (.int p2), .val (.int p3), .val (.int p4), .val (.int p5), .val (.ref b105), .val (.int n), .val (.int iI), .val (.int jJ), .val (.ref b107), .val (.int (p4.toInt8.toInt32)), .val (.int (0 : Int32))] [(.int (8 : Int32)), (.int p4), (.int ((p4 >>> ((8 : Int32) &&& 31)).toInt8.toInt32))])) _
          refine XS.ishr X173.here hx rfl (hb hby at_180) rfl ?_
          show Steps p.tables e below (T173.setTop (mkF m 181 #[.val (.long p0), .second, .val (.int p1), .val (.int p2), .val (.int p3), .val (.int p4), .val (.int p5), .val (.ref b105), .val (.int n), .val (.int iI), .val (.int jJ), .val (.ref b107), .val (.int (p4.toInt8.toInt32)), .val (.int (0 : Int32))] [(.int (p4 >>> ((8 : Int32) &&& 31))), (.int ((p4 >>> ((8 : Int32) &&& 31)).toInt8.toInt32))])) _
          refine XS.i2b X173.here hx rfl (hb hby at_181) rfl ?_
          show Steps p.tables e below (T173.setTop (mkF m 182 #[.val (.long p0), .second, .val (.int p1), .val (.int p2), .val (.int p3), .val (.int p4), .val (.int p5), .val (.ref b105), .val (.int n), .val (.int iI), .val (.int jJ), .val (.ref b107), .val (.int (p4.toInt8.toInt32)), .val (.int (0 : Int32))] [(.int ((p4 >>> ((8 : Int32) &&& 31)).toInt8.toInt32)), (.int ((p4 >>> ((8 : Int32) &&& 31)).toInt8.toInt32))])) _
          refine XS.icmpNo X173.here hx rfl (hb hby at_182) rfl (teq (rfl : ((p4 >>> ((8 : Int32) &&& 31)).toInt8.toInt32) = ((p4 >>> ((8 : Int32) &&& 31)).toInt8.toInt32))).2 ?_
          show Steps p.tables e below (T173.setTop (mkF m 185 #[.val (.long p0), .second, .val (.int p1), .val (.int p2), .val (.int p3), .val (.int p4), .val (.int p5), .val (.ref b105), .val (.int n), .val (.int iI), .val (.int jJ), .val (.ref b107), .val (.int (p4.toInt8.toInt32)), .val (.int (0 : Int32))] [])) _
          refine XS.iconst X173.here hx rfl (hb hby at_185) ?_
          show Steps p.tables e below (T173.setTop (mkF m 186 #[.val (.long p0), .second, .val (.int p1), .val (.int p2), .val (.int p3), .val (.int p4), .val (.int p5), .val (.ref b105), .val (.int n), .val (.int iI), .val (.int jJ), .val (.ref b107), .val (.int (p4.toInt8.toInt32)), .val (.int (0 : Int32))] [(.int (1 : Int32))])) _
          refine XS.goto X173.here hx rfl (pc0 := 186) (pc' := 190) rfl (hb hby at_186) (by decide) (by decide) ?_
          show Steps p.tables e below (T173.setTop (mkF m 190 #[.val (.long p0), .second, .val (.int p1), .val (.int p2), .val (.int p3), .val (.int p4), .val (.int p5), .val (.ref b105), .val (.int n), .val (.int iI), .val (.int jJ), .val (.ref b107), .val (.int (p4.toInt8.toInt32)), .val (.int (0 : Int32))] [(.int (1 : Int32))])) _
          exact retN X173 hx (t := .boolean) Bd.returns (by simp) (hb hby at_190) hr
        · show own_Made (some (.int 1)) n0 _ T173.heap _
          rw [e173]
          exact ⟨rfl, N173, trivial⟩
set_option maxRecDepth 65536 in
set_option maxHeartbeats 40000000 in
theorem comes_1 {Post : Tables → Env → Array Value → State → Outcome → State → Prop} (hpost : ∀ tb e args s v u, (limb_1_1.after args s (.returned v) u = true ∧ limb_1_2.after args s (.returned v) u = true ∧ True) → FrameEnd s (.returned v) u (Jvm.fieldLocs frame_1_writes args s ++ Jvm.arrayLocs frame_1_arrays args s ++ Jvm.staticLocs frame_1_statics s) 24 73856 → Post tb e args s (.returned v) u) :
    ArmFor flags0 classFile x code maxLocals ret World_1 tables_1 room_1 Calls_1 rest_1 Pre_1 Post := by
  intro l hfl _ _ p e ha hc hk s m args below hf hA hF happ hP
  obtain ⟨hcalls, hrest, hpre⟩ := hP
  obtain ⟨-, -, -, hnamed, -, -, -, hat⟩ := (Spec.applies_iff hf).mp happ
  obtain ⟨hg, hn⟩ := and_e (Cond.before_iff.mp (show (Jvm.Cond.and given_1 narrow_1).before args s = true from hpre))
  obtain ⟨gg0, hh0⟩ := and_e hg
  obtain ⟨gg1, hh1⟩ := and_e hh0
  obtain ⟨gg2, hh2⟩ := and_e hh1
  obtain ⟨gg3, hh3⟩ := and_e hh2
  obtain ⟨gg4, hh4⟩ := and_e hh3
  obtain ⟨gg5, hh5⟩ := and_e hh4
  obtain ⟨w0, w1, w2, w3, w4, w5, rfl⟩ : ∃ w0 w1 w2 w3 w4 w5 : Value, args = #[w0, w1, w2, w3, w4, w5] := by
    have hs : args.size = 6 := by simpa [Cond.value, given_1] using gg0
    obtain ⟨L⟩ := args
    match L, hs with
    | [w0, w1, w2, w3, w4, w5], _ => exact ⟨w0, w1, w2, w3, w4, w5, rfl⟩
  have hw := fun d (hd : d ∈ tables_1) => atoms_spec (ws := Jvm.Cond.code x code maxLocals ret :: tables_1) hat d (List.mem_cons_of_mem _ hd)
  have hfit : Fit s := fun {y c} hc i hi => by
    obtain ⟨ha, rfl⟩ := Array.getElem?_eq_some_iff.mp hc
    have q := List.all_eq_true.mp ((Array.all_eq_true_iff_forall_mem.mp hF) _ (Array.getElem_mem ha)) i (List.mem_range.mpr hi)
    simpa [Array.getElem?_eq_getElem hi] using q
  obtain ⟨i0, ei0⟩ := isL_v gg1
  obtain rfl : w0 = (.long i0) := Option.some.inj ei0
  obtain ⟨i1, ei1⟩ := is_v gg2
  obtain rfl : w1 = (.int i1) := Option.some.inj ei1
  obtain ⟨i2, ei2⟩ := is_v gg3
  obtain rfl : w2 = (.int i2) := Option.some.inj ei2
  obtain ⟨i3, ei3⟩ := is_v gg4
  obtain rfl : w3 = (.int i3) := Option.some.inj ei3
  obtain ⟨i4, ei4⟩ := is_v gg5
  obtain rfl : w4 = (.int i4) := Option.some.inj ei4
  obtain ⟨i5, ei5⟩ := is_v hh5
  obtain rfl : w5 = (.int i5) := Option.some.inj ei5
  obtain ⟨n, o, h1, h2, h3, _, L, rfl, hQ0, hq⟩ := rm_law l s _ hw tables_1 i0 i1 i2 i3 i4 i5 s.heap s.heap.size (Nat.le_refl _)  p e ha hc hk s m _ below hf ((Spec.applies_iff_loose hf).mp happ).1 ⟨rfl, State.Warmed39.refl s, rfl⟩ trivial
  have N := hQ0.2.1
  obtain rfl := hQ0.1
  refine ⟨n, _, h1, h2, h3, hpost _ _ _ _ _ _ ⟨Cond.after_iff.mpr rfl, Cond.after_iff.mpr (eq_i res_at (Term.int_eval (1)) rfl), trivial⟩ ⟨hq.1, hq.2.1, (hq.2.2.sift fun y hy => Or.inr (N y hy)).mono (by decide) (by decide)⟩⟩
theorem main_1_1 : Claimed_1_1 := comes_1 fun _ _ _ _ _ _ h hF => ⟨h.1, hF⟩
theorem main_1_2 : Claimed_1_2 := comes_1 fun _ _ _ _ _ _ h hF => ⟨h.2.1, hF⟩
end Jvm.Pilot.@@N@@
namespace Jvm.Pilot.@@N@@
open Jvm Jvm.ClassFile Sem Op Lib Jvm.Free Jvm.Stand Jvm.Pilot.@@N@@.Jvm.D
/-! MADE BY PROGRAM (witnessworld.py) out of the Statement's table words and the real class files: 16 classes; the members and pool entries that the words name. The judged class is class 1, her method 1. -/
namespace start1
open Jvm.ClassFile
def u (s : String) : CpInfo := .utf8 (stringToUtf16 s)
/-- a pool by its gaps: so many unusable entries, then the entry; so many at the end -/
def gap : Nat → List CpInfo → List CpInfo
  | 0, r => r
  | n + 1, r => .unusable :: gap n r
def poolList (es : List (Nat × CpInfo)) (last : Nat) : List CpInfo := es.foldr (fun e r => gap e.1 (e.2 :: r)) (gap last [])
def pool (es : List (Nat × CpInfo)) (last : Nat) : Array CpInfo := ⟨poolList es last⟩
def fileOf (pool : Array CpInfo) (this : Nat) (attrs : Array Attribute := #[]) (ms : Array MethodInfo := #[]) (fl : Nat := 33) (sup : Nat := 0) (ifs : Array Nat := #[]) (fds : Array FieldInfo := #[]) : ClassFile where
  minorVersion := 0
  majorVersion := 65
  constantPool := pool
  accessFlags := fl
  thisClass := this
  superClass := sup
  interfaces := ifs
  fields := fds
  methods := ms
  attributes := attrs
def plain (name : String) (sup : Option ClassId) : Class where
  name := name
  kind := .ordinary
  loader := none
  accessFlags := 33
  super := sup
  interfaces := #[]
  cf := none
  fields := #[]
  methods := #[]
  instanceTypes := #[]
  staticTypes := #[]
  resolved := #[]
  callSites := []
  init := .initialized
  statics := none
  mirror := none

def pool0 : Array CpInfo := pool [(5, u "<init>"), (0, u "()V"), (1, .class_ 10), (1, u "java/lang/Object")] 113

def k0c0 : Code := { maxStack := 0, maxLocals := 1, code := object_method_1_code, exceptionTable := #[], attributes := #[] }
def k0m0 : Method := { name := "<init>", desc := "()V", sig := { parameters := [], returnType := none }, accessFlags := 1, code := some k0c0 }
/-- java/lang/Object -/
def k0 : Class := { plain "java/lang/Object" none with
  accessFlags := 33
  interfaces := #[]
  cf := some (fileOf pool0 8 #[] #[{ accessFlags := 1, nameIndex := 5, descriptorIndex := 6, attributes := #[] }] 33 0 #[] #[])
  fields := #[]
  methods := #[k0m0]
  instanceTypes := #[]
  staticTypes := #[]
  resolved := Array.replicate 124 none
  statics := none }

def pool1 : Array CpInfo := pool [(2, .class_ 4), (1, u "java/lang/Object"), (0, u "<init>"), (0, u "()V"), (0, .class_ 8), (0, u "com/example/cubelet/cubelet/Chunks"), (0, .long 16384), (1, .methodref 7 12), (0, .nameAndType 5 13), (0, u "(J)V"), (0, .integer 2147483647), (0, .methodref 7 16), (0, .nameAndType 17 18), (0, u "write"), (0, u "([BII)V"), (0, .methodref 7 20), (0, .nameAndType 17 21), (0, u "(I)V"), (0, .methodref 7 23), (0, .nameAndType 24 25), (0, u "get"), (0, u "(J)B"), (0, .class_ 27), (0, u "com/example/cubelet/cubelet/ChunksGetPinLaw"), (2, u "law"), (0, u "(JIIIII)Z")] 5

def k1m0 : Method := { name := "<init>", desc := "()V", sig := { parameters := [], returnType := none }, accessFlags := 1, code := none }
def k1c1 : Code := { maxStack := 6, maxLocals := 14, code := code, exceptionTable := #[], attributes := #[] }
def k1m1 : Method := { name := "law", desc := "(JIIIII)Z", sig := { parameters := [.long, .int, .int, .int, .int, .int], returnType := some .boolean }, accessFlags := 9, code := some k1c1 }
/-- com/example/cubelet/cubelet/ChunksGetPinLaw -/
def k1 : Class := { plain "com/example/cubelet/cubelet/ChunksGetPinLaw" (some 0) with
  accessFlags := 49
  interfaces := #[]
  cf := some (fileOf pool1 26 #[] #[{ accessFlags := 1, nameIndex := 5, descriptorIndex := 6, attributes := #[] }, { accessFlags := 9, nameIndex := 30, descriptorIndex := 31, attributes := #[] }] 49 2 #[] #[])
  fields := #[]
  methods := #[k1m0, k1m1]
  instanceTypes := #[]
  staticTypes := #[]
  resolved := Array.replicate 37 none
  statics := none }

def pool2 : Array CpInfo := pool [(1, .class_ 2), (0, u "java/lang/AutoCloseable"), (0, .class_ 4), (0, u "java/lang/Object")] 7

/-- java/lang/AutoCloseable -/
def k2 : Class := { plain "java/lang/AutoCloseable" (some 0) with
  accessFlags := 1537
  interfaces := #[]
  cf := some (fileOf pool2 1 #[] #[] 1537 3 #[] #[])
  fields := #[]
  methods := #[]
  instanceTypes := #[]
  staticTypes := #[]
  resolved := Array.replicate 12 none
  statics := none }

def pool3 : Array CpInfo := pool [(1, .class_ 2), (0, u "java/io/Closeable"), (0, .class_ 4), (0, u "java/lang/Object"), (0, .class_ 6), (0, u "java/lang/AutoCloseable")] 7

/-- java/io/Closeable -/
def k3 : Class := { plain "java/io/Closeable" (some 0) with
  accessFlags := 1537
  interfaces := #[2]
  cf := some (fileOf pool3 1 #[] #[] 1537 3 #[5] #[])
  fields := #[]
  methods := #[]
  instanceTypes := #[]
  staticTypes := #[]
  resolved := Array.replicate 14 none
  statics := none }

def pool4 : Array CpInfo := pool [(1, .class_ 2), (0, u "java/io/Flushable"), (0, .class_ 4), (0, u "java/lang/Object")] 7

/-- java/io/Flushable -/
def k4 : Class := { plain "java/io/Flushable" (some 0) with
  accessFlags := 1537
  interfaces := #[]
  cf := some (fileOf pool4 1 #[] #[] 1537 3 #[] #[])
  fields := #[]
  methods := #[]
  instanceTypes := #[]
  staticTypes := #[]
  resolved := Array.replicate 12 none
  statics := none }

def pool5 : Array CpInfo := pool [(1, .methodref 2 3), (0, .class_ 4), (0, .nameAndType 5 6), (0, u "java/lang/Object"), (0, u "<init>"), (0, u "()V"), (0, .class_ 8), (0, u "java/io/OutputStream$1"), (2, .class_ 13), (1, u "java/io/OutputStream"), (11, .class_ 26), (0, u "java/io/Closeable"), (0, .class_ 28), (0, u "java/io/Flushable")] 24

def k5c0 : Code := { maxStack := 1, maxLocals := 1, code := jdk_2038_method_1_code, exceptionTable := #[], attributes := #[] }
def k5m0 : Method := { name := "<init>", desc := "()V", sig := { parameters := [], returnType := none }, accessFlags := 1, code := some k5c0 }
/-- java/io/OutputStream -/
def k5 : Class := { plain "java/io/OutputStream" (some 0) with
  accessFlags := 1057
  interfaces := #[3, 4]
  cf := some (fileOf pool5 11 #[.nestMembers #[7]] #[{ accessFlags := 1, nameIndex := 5, descriptorIndex := 6, attributes := #[] }] 1057 2 #[25, 27] #[])
  fields := #[]
  methods := #[k5m0]
  instanceTypes := #[]
  staticTypes := #[]
  resolved := Array.replicate 53 none
  statics := none }

def pool6 : Array CpInfo := pool [(1, .class_ 2), (0, u "com/example/cubelet/cubelet/Chunks"), (2, u "<init>"), (0, u "(J)V"), (0, .methodref 8 9), (0, .class_ 10), (0, .nameAndType 5 11), (0, u "java/io/OutputStream"), (0, u "()V"), (0, .class_ 13), (0, u "[B"), (0, .long 134217728), (1, .long 4096), (1, .methodref 19 20), (0, .class_ 21), (0, .nameAndType 22 23), (0, u "java/lang/Math"), (0, u "max"), (0, u "(JJ)J"), (0, .methodref 19 25), (0, .nameAndType 26 23), (0, u "min"), (0, .fieldref 1 28), (0, .nameAndType 29 30), (0, u "chunks"), (0, u "[[B"), (0, .fieldref 1 32), (0, .nameAndType 33 34), (0, u "length"), (0, u "J"), (2, .integer 134217727), (0, .methodref 1 39), (0, .nameAndType 40 41), (0, u "room"), (0, u "(I)V"), (0, .methodref 19 43), (0, .nameAndType 26 44), (0, u "(II)I"), (0, .methodref 46 47), (0, .class_ 48), (0, .nameAndType 49 50), (0, u "java/lang/System"), (0, u "arraycopy"), (0, u "(Ljava/lang/Object;ILjava/lang/Object;II)V"), (6, .class_ 59), (1, u "com/example/cubelet/cubelet/Chunks$Writing"), (11, .integer 134217728), (2, u "write"), (0, u "([BII)V"), (6, .class_ 84), (1, u "java/util/Arrays"), (0, u "copyOf"), (4, .long 2), (1, .methodref 82 93), (0, .nameAndType 85 94), (0, u "([BI)[B"), (0, u "CHUNK_BITS"), (0, u "I"), (2, u "CHUNK_BYTES"), (0, u "FIRST_BYTES"), (8, u "get"), (0, u "(J)B")] 12

def k6m0 : Method := { name := "<init>", desc := "()V", sig := { parameters := [], returnType := none }, accessFlags := 0, code := none }
def k6c1 : Code := { maxStack := 10, maxLocals := 3, code := prog_20_method_2_code, exceptionTable := #[], attributes := #[] }
def k6m1 : Method := { name := "<init>", desc := "(J)V", sig := { parameters := [.long], returnType := none }, accessFlags := 0, code := some k6c1 }
def k6c2 : Code := { maxStack := 4, maxLocals := 3, code := prog_20_method_6_code, exceptionTable := #[], attributes := #[] }
def k6m2 : Method := { name := "get", desc := "(J)B", sig := { parameters := [.long], returnType := some .byte }, accessFlags := 0, code := some k6c2 }
def k6c3 : Code := { maxStack := 5, maxLocals := 2, code := prog_20_method_7_code, exceptionTable := #[], attributes := #[] }
def k6m3 : Method := { name := "write", desc := "(I)V", sig := { parameters := [.int], returnType := none }, accessFlags := 1, code := some k6c3 }
def k6c4 : Code := { maxStack := 5, maxLocals := 8, code := prog_20_method_8_code, exceptionTable := #[], attributes := #[] }
def k6m4 : Method := { name := "write", desc := "([BII)V", sig := { parameters := [(.array .byte), .int, .int], returnType := none }, accessFlags := 1, code := some k6c4 }
def k6c5 : Code := { maxStack := 11, maxLocals := 5, code := prog_20_method_12_code, exceptionTable := #[], attributes := #[] }
def k6m5 : Method := { name := "room", desc := "(I)V", sig := { parameters := [.int], returnType := none }, accessFlags := 2, code := some k6c5 }
/-- com/example/cubelet/cubelet/Chunks -/
def k6 : Class := { plain "com/example/cubelet/cubelet/Chunks" (some 5) with
  accessFlags := 48
  interfaces := #[]
  cf := some (fileOf pool6 1 #[.nestMembers #[57]] #[{ accessFlags := 0, nameIndex := 5, descriptorIndex := 11, attributes := #[] }, { accessFlags := 0, nameIndex := 5, descriptorIndex := 6, attributes := #[] }, { accessFlags := 0, nameIndex := 109, descriptorIndex := 110, attributes := #[] }, { accessFlags := 1, nameIndex := 74, descriptorIndex := 41, attributes := #[] }, { accessFlags := 1, nameIndex := 74, descriptorIndex := 75, attributes := #[] }, { accessFlags := 2, nameIndex := 40, descriptorIndex := 41, attributes := #[] }] 48 8 #[] #[{ accessFlags := 26, nameIndex := 95, descriptorIndex := 96, attributes := #[] }, { accessFlags := 26, nameIndex := 99, descriptorIndex := 96, attributes := #[] }, { accessFlags := 26, nameIndex := 100, descriptorIndex := 96, attributes := #[] }, { accessFlags := 2, nameIndex := 29, descriptorIndex := 30, attributes := #[] }, { accessFlags := 2, nameIndex := 33, descriptorIndex := 34, attributes := #[] }])
  fields := #[{ name := "CHUNK_BITS", type := .int, accessFlags := 26, slot := 0, constantValue := 0 }, { name := "CHUNK_BYTES", type := .int, accessFlags := 26, slot := 1, constantValue := 0 }, { name := "FIRST_BYTES", type := .int, accessFlags := 26, slot := 2, constantValue := 0 }, { name := "chunks", type := (.array (.array .byte)), accessFlags := 2, slot := 0, constantValue := 0 }, { name := "length", type := .long, accessFlags := 2, slot := 1, constantValue := 0 }]
  methods := #[k6m0, k6m1, k6m2, k6m3, k6m4, k6m5]
  instanceTypes := #[(.array (.array .byte)), .long]
  staticTypes := #[.int, .int, .int]
  resolved := Array.replicate 123 none
  statics := none }

def pool7 : Array CpInfo := pool [(1, .class_ 2), (0, u "java/lang/Math"), (1, .class_ 6), (1, u "java/lang/Object"), (0, u "<init>"), (0, u "()V"), (89, .class_ 100), (1, u "java/lang/Math$RandomNumberGeneratorHolder"), (20, u "(JJ)J"), (50, u "negativeZeroFloatBits"), (0, u "J"), (2, u "negativeZeroDoubleBits"), (21, u "max"), (2, u "min"), (43, u "$assertionsDisabled"), (0, u "Z"), (88, u "(II)I"), (2, u "twoToTheDoubleScaleDown"), (0, u "D"), (4, u "twoToTheDoubleScaleUp"), (9, u "E"), (3, u "PI"), (2, u "TAU"), (2, u "DEGREES_TO_RADIANS"), (0, u "RADIANS_TO_DEGREES")] 94

def k7m0 : Method := { name := "<init>", desc := "()V", sig := { parameters := [], returnType := none }, accessFlags := 2, code := none }
def k7c1 : Code := { maxStack := 4, maxLocals := 4, code := jdk_29_method_66_code, exceptionTable := #[], attributes := #[] }
def k7m1 : Method := { name := "max", desc := "(JJ)J", sig := { parameters := [.long, .long], returnType := some .long }, accessFlags := 9, code := some k7c1 }
def k7c2 : Code := { maxStack := 2, maxLocals := 2, code := jdk_29_method_69_code, exceptionTable := #[], attributes := #[] }
def k7m2 : Method := { name := "min", desc := "(II)I", sig := { parameters := [.int, .int], returnType := some .int }, accessFlags := 9, code := some k7c2 }
def k7c3 : Code := { maxStack := 4, maxLocals := 4, code := jdk_29_method_70_code, exceptionTable := #[], attributes := #[] }
def k7m3 : Method := { name := "min", desc := "(JJ)J", sig := { parameters := [.long, .long], returnType := some .long }, accessFlags := 9, code := some k7c3 }
/-- java/lang/Math -/
def k7 : Class := { plain "java/lang/Math" (some 0) with
  accessFlags := 49
  interfaces := #[]
  cf := some (fileOf pool7 1 #[.nestMembers #[98]] #[{ accessFlags := 2, nameIndex := 7, descriptorIndex := 8, attributes := #[] }, { accessFlags := 9, nameIndex := 198, descriptorIndex := 121, attributes := #[] }, { accessFlags := 9, nameIndex := 201, descriptorIndex := 335, attributes := #[] }, { accessFlags := 9, nameIndex := 201, descriptorIndex := 121, attributes := #[] }] 49 4 #[] #[{ accessFlags := 25, nameIndex := 354, descriptorIndex := 339, attributes := #[] }, { accessFlags := 25, nameIndex := 358, descriptorIndex := 339, attributes := #[] }, { accessFlags := 25, nameIndex := 361, descriptorIndex := 339, attributes := #[] }, { accessFlags := 26, nameIndex := 364, descriptorIndex := 339, attributes := #[] }, { accessFlags := 26, nameIndex := 365, descriptorIndex := 339, attributes := #[] }, { accessFlags := 26, nameIndex := 172, descriptorIndex := 173, attributes := #[] }, { accessFlags := 26, nameIndex := 176, descriptorIndex := 173, attributes := #[] }, { accessFlags := 8, nameIndex := 344, descriptorIndex := 339, attributes := #[] }, { accessFlags := 8, nameIndex := 338, descriptorIndex := 339, attributes := #[] }, { accessFlags := 4120, nameIndex := 245, descriptorIndex := 246, attributes := #[] }])
  fields := #[{ name := "E", type := .double, accessFlags := 25, slot := 0, constantValue := 0 }, { name := "PI", type := .double, accessFlags := 25, slot := 1, constantValue := 0 }, { name := "TAU", type := .double, accessFlags := 25, slot := 2, constantValue := 0 }, { name := "DEGREES_TO_RADIANS", type := .double, accessFlags := 26, slot := 3, constantValue := 0 }, { name := "RADIANS_TO_DEGREES", type := .double, accessFlags := 26, slot := 4, constantValue := 0 }, { name := "negativeZeroFloatBits", type := .long, accessFlags := 26, slot := 5, constantValue := 0 }, { name := "negativeZeroDoubleBits", type := .long, accessFlags := 26, slot := 6, constantValue := 0 }, { name := "twoToTheDoubleScaleUp", type := .double, accessFlags := 8, slot := 7, constantValue := 0 }, { name := "twoToTheDoubleScaleDown", type := .double, accessFlags := 8, slot := 8, constantValue := 0 }, { name := "$assertionsDisabled", type := .boolean, accessFlags := 4120, slot := 9, constantValue := 0 }]
  methods := #[k7m0, k7m1, k7m2, k7m3]
  instanceTypes := #[]
  staticTypes := #[.double, .double, .double, .double, .double, .long, .long, .double, .double, .boolean]
  resolved := Array.replicate 460 none
  statics := none }

def pool8 : Array CpInfo := pool [(2, .class_ 4), (1, u "java/lang/Object"), (0, u "<init>"), (0, u "()V"), (1, .class_ 10), (1, u "java/lang/System"), (0, u "allowSecurityManager"), (0, u "I"), (16, u "cons"), (0, u "Ljava/io/Console;"), (77, .class_ 110), (1, u "java/lang/System$CallersHolder"), (43, u "initialErrStream"), (0, u "Ljava/io/PrintStream;"), (19, u "security"), (0, u "Ljava/lang/SecurityManager;"), (31, .class_ 209), (0, u "java/lang/System$1"), (7, u "props"), (0, u "Ljava/util/Properties;"), (2, u "lineSeparator"), (0, u "Ljava/lang/String;"), (96, .class_ 321), (1, u "java/lang/System$LoggerFinder"), (5, .class_ 328), (0, u "java/lang/System$Logger"), (67, u "err"), (2, u "out"), (91, u "notSupportedJnuEncoding"), (15, u "in"), (17, u "initialIn"), (0, u "Ljava/io/InputStream;"), (35, u "bootLayer"), (0, u "Ljava/lang/ModuleLayer;"), (99, .class_ 664), (0, u "java/lang/System$2"), (9, u "NEVER"), (2, u "MAYBE"), (49, u "arraycopy"), (0, u "(Ljava/lang/Object;ILjava/lang/Object;II)V"), (72, .class_ 802), (0, u "java/lang/System$Logger$Level")] 31

def k8m0 : Method := { name := "<init>", desc := "()V", sig := { parameters := [], returnType := none }, accessFlags := 2, code := none }
def k8m1 : Method := { name := "arraycopy", desc := "(Ljava/lang/Object;ILjava/lang/Object;II)V", sig := { parameters := [(.object "java/lang/Object"), .int, (.object "java/lang/Object"), .int, .int], returnType := none }, accessFlags := 265, code := none }
/-- java/lang/System -/
def k8 : Class := { plain "java/lang/System" (some 0) with
  accessFlags := 49
  interfaces := #[]
  cf := some (fileOf pool8 8 #[.nestMembers #[319, 327, 801, 108, 663, 208]] #[{ accessFlags := 2, nameIndex := 5, descriptorIndex := 6, attributes := #[] }, { accessFlags := 265, nameIndex := 727, descriptorIndex := 728, attributes := #[] }] 49 2 #[] #[{ accessFlags := 25, nameIndex := 507, descriptorIndex := 526, attributes := #[] }, { accessFlags := 25, nameIndex := 399, descriptorIndex := 155, attributes := #[] }, { accessFlags := 25, nameIndex := 396, descriptorIndex := 155, attributes := #[] }, { accessFlags := 10, nameIndex := 525, descriptorIndex := 526, attributes := #[] }, { accessFlags := 26, nameIndex := 674, descriptorIndex := 12, attributes := #[] }, { accessFlags := 26, nameIndex := 677, descriptorIndex := 12, attributes := #[] }, { accessFlags := 10, nameIndex := 11, descriptorIndex := 12, attributes := #[] }, { accessFlags := 74, nameIndex := 175, descriptorIndex := 176, attributes := #[] }, { accessFlags := 10, nameIndex := 491, descriptorIndex := 222, attributes := #[] }, { accessFlags := 74, nameIndex := 29, descriptorIndex := 30, attributes := #[] }, { accessFlags := 74, nameIndex := 154, descriptorIndex := 155, attributes := #[] }, { accessFlags := 10, nameIndex := 217, descriptorIndex := 218, attributes := #[] }, { accessFlags := 10, nameIndex := 221, descriptorIndex := 222, attributes := #[] }, { accessFlags := 8, nameIndex := 562, descriptorIndex := 563, attributes := #[] }])
  fields := #[{ name := "in", type := (.object "java/io/InputStream"), accessFlags := 25, slot := 0, constantValue := 0 }, { name := "out", type := (.object "java/io/PrintStream"), accessFlags := 25, slot := 1, constantValue := 0 }, { name := "err", type := (.object "java/io/PrintStream"), accessFlags := 25, slot := 2, constantValue := 0 }, { name := "initialIn", type := (.object "java/io/InputStream"), accessFlags := 10, slot := 3, constantValue := 0 }, { name := "NEVER", type := .int, accessFlags := 26, slot := 4, constantValue := 0 }, { name := "MAYBE", type := .int, accessFlags := 26, slot := 5, constantValue := 0 }, { name := "allowSecurityManager", type := .int, accessFlags := 10, slot := 6, constantValue := 0 }, { name := "security", type := (.object "java/lang/SecurityManager"), accessFlags := 74, slot := 7, constantValue := 0 }, { name := "notSupportedJnuEncoding", type := (.object "java/lang/String"), accessFlags := 10, slot := 8, constantValue := 0 }, { name := "cons", type := (.object "java/io/Console"), accessFlags := 74, slot := 9, constantValue := 0 }, { name := "initialErrStream", type := (.object "java/io/PrintStream"), accessFlags := 74, slot := 10, constantValue := 0 }, { name := "props", type := (.object "java/util/Properties"), accessFlags := 10, slot := 11, constantValue := 0 }, { name := "lineSeparator", type := (.object "java/lang/String"), accessFlags := 10, slot := 12, constantValue := 0 }, { name := "bootLayer", type := (.object "java/lang/ModuleLayer"), accessFlags := 8, slot := 13, constantValue := 0 }]
  methods := #[k8m0, k8m1]
  instanceTypes := #[]
  staticTypes := #[(.object "java/io/InputStream"), (.object "java/io/PrintStream"), (.object "java/io/PrintStream"), (.object "java/io/InputStream"), .int, .int, .int, (.object "java/lang/SecurityManager"), (.object "java/lang/String"), (.object "java/io/Console"), (.object "java/io/PrintStream"), (.object "java/util/Properties"), (.object "java/lang/String"), (.object "java/lang/ModuleLayer")]
  resolved := Array.replicate 834 none
  statics := none }

def pool9 : Array CpInfo := pool [(2, .class_ 4), (1, u "java/lang/Object"), (0, u "<init>"), (0, u "()V"), (7, .class_ 16), (1, u "java/util/Arrays"), (57, .class_ 76), (1, u "java/util/Arrays$NaturalOrder"), (36, .class_ 115), (1, u "java/util/Arrays$LegacyMergeSort"), (1, u "Z"), (32, .methodref 151 152), (0, .class_ 153), (0, .nameAndType 154 155), (0, u "java/lang/System"), (0, u "arraycopy"), (0, u "(Ljava/lang/Object;ILjava/lang/Object;II)V"), (146, u "copyOf"), (1, .methodref 305 306), (0, .class_ 307), (0, .nameAndType 308 309), (0, u "java/lang/Math"), (0, u "min"), (0, u "(II)I"), (65, .class_ 376), (0, u "java/util/Arrays$ArrayList"), (68, u "$assertionsDisabled"), (269, u "MIN_ARRAY_SORT_GRAN"), (0, u "I"), (2, u "INSERTIONSORT_THRESHOLD"), (149, u "([BI)[B"), (105, .class_ 976), (0, u "java/util/Arrays$ArrayItr")] 52

def k9m0 : Method := { name := "<init>", desc := "()V", sig := { parameters := [], returnType := none }, accessFlags := 2, code := none }
def k9c1 : Code := { maxStack := 6, maxLocals := 3, code := jdk_65_method_121_code, exceptionTable := #[], attributes := #[] }
def k9m1 : Method := { name := "copyOf", desc := "([BI)[B", sig := { parameters := [(.array .byte), .int], returnType := some (.array .byte) }, accessFlags := 9, code := some k9c1 }
/-- java/util/Arrays -/
def k9 : Class := { plain "java/util/Arrays" (some 0) with
  accessFlags := 49
  interfaces := #[]
  cf := some (fileOf pool9 14 #[.nestMembers #[975, 375, 113, 74]] #[{ accessFlags := 2, nameIndex := 5, descriptorIndex := 6, attributes := #[] }, { accessFlags := 9, nameIndex := 302, descriptorIndex := 869, attributes := #[] }] 49 2 #[] #[{ accessFlags := 26, nameIndex := 715, descriptorIndex := 716, attributes := #[] }, { accessFlags := 26, nameIndex := 719, descriptorIndex := 716, attributes := #[] }, { accessFlags := 4120, nameIndex := 445, descriptorIndex := 117, attributes := #[] }])
  fields := #[{ name := "MIN_ARRAY_SORT_GRAN", type := .int, accessFlags := 26, slot := 0, constantValue := 0 }, { name := "INSERTIONSORT_THRESHOLD", type := .int, accessFlags := 26, slot := 1, constantValue := 0 }, { name := "$assertionsDisabled", type := .boolean, accessFlags := 4120, slot := 2, constantValue := 0 }]
  methods := #[k9m0, k9m1]
  instanceTypes := #[]
  staticTypes := #[.int, .int, .boolean]
  resolved := Array.replicate 1029 none
  statics := none }

def pool10 : Array CpInfo := pool [(1, u "java/lang/Cloneable"), (0, .class_ 1), (0, u "java/lang/Object"), (0, .class_ 3)] 3

/-- java/lang/Cloneable -/
def k10 : Class := { plain "java/lang/Cloneable" (some 0) with
  accessFlags := 1537
  interfaces := #[]
  cf := some (fileOf pool10 2 #[] #[] 1537 4 #[] #[])
  fields := #[]
  methods := #[]
  instanceTypes := #[]
  staticTypes := #[]
  resolved := Array.replicate 8 none
  statics := none }

def pool11 : Array CpInfo := pool [(1, u "java/io/Serializable"), (0, .class_ 1), (0, u "java/lang/Object"), (0, .class_ 3)] 3

/-- java/io/Serializable -/
def k11 : Class := { plain "java/io/Serializable" (some 0) with
  accessFlags := 1537
  interfaces := #[]
  cf := some (fileOf pool11 2 #[] #[] 1537 4 #[] #[])
  fields := #[]
  methods := #[]
  instanceTypes := #[]
  staticTypes := #[]
  resolved := Array.replicate 8 none
  statics := none }

/-- the primitive byte -/
def k12 : Class := { plain "byte" none with kind := .primitive 'B', accessFlags := 0x411 }
/-- [B -/
def k13 : Class := { plain "[B" (some 0) with kind := .array 12 .byte, interfaces := #[10, 11], accessFlags := 1041 }

/-- the primitive int -/
def k14 : Class := { plain "int" none with kind := .primitive 'I', accessFlags := 0x411 }
/-- [I -/
def k15 : Class := { plain "[I" (some 0) with kind := .array 14 .int, interfaces := #[10, 11], accessFlags := 1041 }

/-- [[B -/
def k16 : Class := { plain "[[B" (some 0) with kind := .array 13 (.array .byte), interfaces := #[10, 11], accessFlags := 1041 }

def heap : Heap := #[]
def classes : Array Class := #[k0, k1, k2, k3, k4, k5, k6, k7, k8, k9, k10, k11, k12, k13, k14, k15, k16]
def interned : List (Array UInt16 × Addr) := []
def slotsUsed : Nat := 0
def theMethod : MethodId := ⟨1, 1⟩
def args0 : Array Value := #[.long 5, .int 1, .int 2, .int 3, .int 4, .int 5]
def aboutOver (below : List Frame) : State where
  vm := { classes := classes, interned := interned.toArray }
  heap := heap
  slotsUsed := slotsUsed
  threads := #[{ frames := .invoking theMethod args0 :: below }]
def below0 : List Frame := [.native { method := ⟨0, 0⟩, args := #[] }]
def about1 : State := aboutOver below0
def p0 : Program := .bare "" "" ""
def e0 : Env := launch0.env 0 0 0
theorem w_frames : about1.frames = Frame.invoking theMethod args0 :: below0 := rfl
set_option maxRecDepth 65536 in
theorem w_args : argsFit about1.vm theMethod args0 = true := by decide +kernel
set_option maxRecDepth 65536 in
theorem w_heap : heapFits about1 = true := by decide +kernel
set_option maxRecDepth 65536 in
theorem w_runnable : about1.curStatus? = some .runnable := by decide +kernel
set_option maxRecDepth 65536 in
theorem w_alone : about1.alone = true := by decide +kernel
set_option maxRecDepth 65536 in
theorem w_named : about1.methodNamed? x = some theMethod := by decide +kernel
set_option maxRecDepth 65536 in
theorem w_hears : about1.hears theMethod below0 = true := by decide +kernel
set_option maxRecDepth 65536 in
theorem w_ripe : about1.ripe theMethod args0 below0 = true := by decide +kernel
theorem w_running : about1.status = .running := rfl
set_option maxRecDepth 65536 in
theorem w_room : about1.hasRoom e0.platform room_1 = true :=
  launch0.hasRoom_least _ room_1 (by decide +kernel) (by decide +kernel) (by decide +kernel) (by decide +kernel) (by decide +kernel) (by decide +kernel)
theorem allAtoms_all (ts : List Jvm.Cond) (a : Array Jvm.Value) (st : Jvm.State) : (allAtoms ts).before a st = ts.all (fun c => c.before a st) := by
  induction ts with
  | nil => rfl
  | cons c t ih =>
    show (Jvm.Cond.and c (allAtoms t)).before a st = _
    rw [Jvm.Cond.before_and, ih, List.all_cons]
def words1 : List Jvm.Cond := Jvm.Cond.code x code maxLocals ret :: tables_1
/-- a 'code' word, met by the world's own term for the bytes: nothing is compared byte by byte -/
theorem code_word {y : MethodName} {bytes : ByteArray} {mx : Nat} {rt : Option FieldType} {a : Array Value} {s : State} {m : MethodId} {meth : Method} {c : Code} (h1 : s.methodNamed? y = some m) (h2 : s.vm.method? m = some meth) (h3 : meth.code = some c) (h4 : c.code = bytes)
    (h5 : (c.maxLocals == mx && c.exceptionTable.isEmpty && decide (c.maxStack ≤ mostOperands) && decide (meth.sig.returnType = rt) && !meth.locks && decide (parseMethodDescriptor y.desc = some meth.sig)) = true) : (Jvm.Cond.code y bytes mx rt).before a s = true := by
  simp only [Bool.and_eq_true, beq_iff_eq, Bool.not_eq_true', decide_eq_true_eq] at h5
  obtain ⟨⟨⟨⟨⟨g1, g2⟩, g3⟩, g4⟩, g5⟩, g6⟩ := h5
  simp [Cond.before, Cond.holds, Cond.value, h1, h2, h3, h4, g1, g2, g3, g4, g5, g6]
def isCode : Jvm.Cond → Bool
  | .code _ _ _ _ => true
  | _ => false
theorem all_split {L : List Jvm.Cond} {P : Jvm.Cond → Bool} (h1 : L.all (fun c => isCode c || P c) = true) (h2 : ∀ c ∈ L.filter isCode, P c = true) : L.all P = true := by
  refine List.all_eq_true.mpr fun c hc => ?_
  have h := List.all_eq_true.mp h1 c hc
  rcases Bool.eq_false_or_eq_true (isCode c) with hi | hi
  · exact h2 c (List.mem_filter.mpr ⟨hc, hi⟩)
  · simpa [hi] using h
set_option maxRecDepth 65536 in
theorem w_c0 : (Jvm.Cond.code x code maxLocals ret).before args0 about1 = true := code_word (m := ⟨1, 1⟩) (meth := k1m1) (c := k1c1) (by decide +kernel) rfl rfl rfl (by decide +kernel)
set_option maxRecDepth 65536 in
theorem w_c1 : (Jvm.Cond.code ({ cls := "com/example/cubelet/cubelet/Chunks", name := "<init>", desc := "(J)V" } : Jvm.MethodName) prog_20_method_2_code (3 : Nat) (Option.none : Option Jvm.ClassFile.FieldType)).before args0 about1 = true := code_word (m := ⟨6, 1⟩) (meth := k6m1) (c := k6c1) (by decide +kernel) rfl rfl rfl (by decide +kernel)
set_option maxRecDepth 65536 in
theorem w_c2 : (Jvm.Cond.code ({ cls := "java/io/OutputStream", name := "<init>", desc := "()V" } : Jvm.MethodName) jdk_2038_method_1_code (1 : Nat) (Option.none : Option Jvm.ClassFile.FieldType)).before args0 about1 = true := code_word (m := ⟨5, 0⟩) (meth := k5m0) (c := k5c0) (by decide +kernel) rfl rfl rfl (by decide +kernel)
set_option maxRecDepth 65536 in
theorem w_c3 : (Jvm.Cond.code ({ cls := "java/lang/Object", name := "<init>", desc := "()V" } : Jvm.MethodName) object_method_1_code (1 : Nat) (Option.none : Option Jvm.ClassFile.FieldType)).before args0 about1 = true := code_word (m := ⟨0, 0⟩) (meth := k0m0) (c := k0c0) (by decide +kernel) rfl rfl rfl (by decide +kernel)
set_option maxRecDepth 65536 in
theorem w_c4 : (Jvm.Cond.code ({ cls := "java/lang/Math", name := "max", desc := "(JJ)J" } : Jvm.MethodName) jdk_29_method_66_code (4 : Nat) (Option.some Jvm.ClassFile.FieldType.long)).before args0 about1 = true := code_word (m := ⟨7, 1⟩) (meth := k7m1) (c := k7c1) (by decide +kernel) rfl rfl rfl (by decide +kernel)
set_option maxRecDepth 65536 in
theorem w_c5 : (Jvm.Cond.code ({ cls := "java/lang/Math", name := "min", desc := "(JJ)J" } : Jvm.MethodName) jdk_29_method_70_code (4 : Nat) (Option.some Jvm.ClassFile.FieldType.long)).before args0 about1 = true := code_word (m := ⟨7, 3⟩) (meth := k7m3) (c := k7c3) (by decide +kernel) rfl rfl rfl (by decide +kernel)
set_option maxRecDepth 65536 in
theorem w_c6 : (Jvm.Cond.code ({ cls := "com/example/cubelet/cubelet/Chunks", name := "write", desc := "([BII)V" } : Jvm.MethodName) prog_20_method_8_code (8 : Nat) (Option.none : Option Jvm.ClassFile.FieldType)).before args0 about1 = true := code_word (m := ⟨6, 4⟩) (meth := k6m4) (c := k6c4) (by decide +kernel) rfl rfl rfl (by decide +kernel)
set_option maxRecDepth 65536 in
theorem w_c7 : (Jvm.Cond.code ({ cls := "com/example/cubelet/cubelet/Chunks", name := "room", desc := "(I)V" } : Jvm.MethodName) prog_20_method_12_code (5 : Nat) (Option.none : Option Jvm.ClassFile.FieldType)).before args0 about1 = true := code_word (m := ⟨6, 5⟩) (meth := k6m5) (c := k6c5) (by decide +kernel) rfl rfl rfl (by decide +kernel)
set_option maxRecDepth 65536 in
theorem w_c8 : (Jvm.Cond.code ({ cls := "java/lang/Math", name := "min", desc := "(II)I" } : Jvm.MethodName) jdk_29_method_69_code (2 : Nat) (Option.some Jvm.ClassFile.FieldType.int)).before args0 about1 = true := code_word (m := ⟨7, 2⟩) (meth := k7m2) (c := k7c2) (by decide +kernel) rfl rfl rfl (by decide +kernel)
set_option maxRecDepth 65536 in
theorem w_c9 : (Jvm.Cond.code ({ cls := "com/example/cubelet/cubelet/Chunks", name := "write", desc := "(I)V" } : Jvm.MethodName) prog_20_method_7_code (2 : Nat) (Option.none : Option Jvm.ClassFile.FieldType)).before args0 about1 = true := code_word (m := ⟨6, 3⟩) (meth := k6m3) (c := k6c3) (by decide +kernel) rfl rfl rfl (by decide +kernel)
set_option maxRecDepth 65536 in
theorem w_c10 : (Jvm.Cond.code ({ cls := "com/example/cubelet/cubelet/Chunks", name := "get", desc := "(J)B" } : Jvm.MethodName) prog_20_method_6_code (3 : Nat) (Option.some Jvm.ClassFile.FieldType.byte)).before args0 about1 = true := code_word (m := ⟨6, 2⟩) (meth := k6m2) (c := k6c2) (by decide +kernel) rfl rfl rfl (by decide +kernel)
set_option maxRecDepth 65536 in
theorem w_c11 : (Jvm.Cond.code ({ cls := "java/util/Arrays", name := "copyOf", desc := "([BI)[B" } : Jvm.MethodName) jdk_65_method_121_code (3 : Nat) (Option.some (Jvm.ClassFile.FieldType.array Jvm.ClassFile.FieldType.byte))).before args0 about1 = true := code_word (m := ⟨9, 1⟩) (meth := k9m1) (c := k9c1) (by decide +kernel) rfl rfl rfl (by decide +kernel)
def codes1 : List Jvm.Cond := [Jvm.Cond.code x code maxLocals ret, Jvm.Cond.code ({ cls := "com/example/cubelet/cubelet/Chunks", name := "<init>", desc := "(J)V" } : Jvm.MethodName) prog_20_method_2_code (3 : Nat) (Option.none : Option Jvm.ClassFile.FieldType), Jvm.Cond.code ({ cls := "java/io/OutputStream", name := "<init>", desc := "()V" } : Jvm.MethodName) jdk_2038_method_1_code (1 : Nat) (Option.none : Option Jvm.ClassFile.FieldType), Jvm.Cond.code ({ cls := "java/lang/Object", name := "<init>", desc := "()V" } : Jvm.MethodName) object_method_1_code (1 : Nat) (Option.none : Option Jvm.ClassFile.FieldType), Jvm.Cond.code ({ cls := "java/lang/Math", name := "max", desc := "(JJ)J" } : Jvm.MethodName) jdk_29_method_66_code (4 : Nat) (Option.some Jvm.ClassFile.FieldType.long), Jvm.Cond.code ({ cls := "java/lang/Math", name := "min", desc := "(JJ)J" } : Jvm.MethodName) jdk_29_method_70_code (4 : Nat) (Option.some Jvm.ClassFile.FieldType.long), Jvm.Cond.code ({ cls := "com/example/cubelet/cubelet/Chunks", name := "write", desc := "([BII)V" } : Jvm.MethodName) prog_20_method_8_code (8 : Nat) (Option.none : Option Jvm.ClassFile.FieldType), Jvm.Cond.code ({ cls := "com/example/cubelet/cubelet/Chunks", name := "room", desc := "(I)V" } : Jvm.MethodName) prog_20_method_12_code (5 : Nat) (Option.none : Option Jvm.ClassFile.FieldType), Jvm.Cond.code ({ cls := "java/lang/Math", name := "min", desc := "(II)I" } : Jvm.MethodName) jdk_29_method_69_code (2 : Nat) (Option.some Jvm.ClassFile.FieldType.int), Jvm.Cond.code ({ cls := "com/example/cubelet/cubelet/Chunks", name := "write", desc := "(I)V" } : Jvm.MethodName) prog_20_method_7_code (2 : Nat) (Option.none : Option Jvm.ClassFile.FieldType), Jvm.Cond.code ({ cls := "com/example/cubelet/cubelet/Chunks", name := "get", desc := "(J)B" } : Jvm.MethodName) prog_20_method_6_code (3 : Nat) (Option.some Jvm.ClassFile.FieldType.byte), Jvm.Cond.code ({ cls := "java/util/Arrays", name := "copyOf", desc := "([BI)[B" } : Jvm.MethodName) jdk_65_method_121_code (3 : Nat) (Option.some (Jvm.ClassFile.FieldType.array Jvm.ClassFile.FieldType.byte))]
set_option maxRecDepth 65536 in
theorem codes_eq : words1.filter isCode = codes1 := rfl
theorem w_codes : ∀ c ∈ words1.filter isCode, c.before args0 about1 = true := by
  rw [codes_eq]
  intro c hc
  simp only [codes1, List.mem_cons, List.not_mem_nil, or_false] at hc
  rcases hc with rfl | rfl | rfl | rfl | rfl | rfl | rfl | rfl | rfl | rfl | rfl | rfl
  · exact w_c0
  · exact w_c1
  · exact w_c2
  · exact w_c3
  · exact w_c4
  · exact w_c5
  · exact w_c6
  · exact w_c7
  · exact w_c8
  · exact w_c9
  · exact w_c10
  · exact w_c11
set_option maxRecDepth 65536 in
theorem w_t1 : (words1.take 24).all (fun c => isCode c || c.before args0 about1) = true := by decide +kernel
set_option maxRecDepth 65536 in
theorem w_t2 : ((words1.drop 24).take 24).all (fun c => isCode c || c.before args0 about1) = true := by decide +kernel
set_option maxRecDepth 65536 in
theorem w_t3 : ((words1.drop 24).drop 24).all (fun c => isCode c || c.before args0 about1) = true := by decide +kernel
theorem w_tables : (allAtoms (Jvm.Cond.code x code maxLocals ret :: tables_1)).before args0 about1 = true := by
  rw [allAtoms_all]
  show words1.all (fun c => c.before args0 about1) = true
  refine all_split ?_ w_codes
  rw [← List.take_append_drop 24 words1, List.all_append, w_t1, ← List.take_append_drop 24 (words1.drop 24), List.all_append, w_t2, w_t3]
  rfl
set_option maxRecDepth 65536 in
theorem w_case : (Jvm.Cond.and given_1 narrow_1).before args0 about1 = true := by decide +kernel
theorem w_applies : (headSpec (Jvm.Cond.code x code maxLocals ret :: tables_1) room_1).applies x e0.platform about1 = true :=
  (Spec.applies_iff w_frames).mpr ⟨w_running, w_runnable, w_alone, w_named, w_hears, w_ripe, w_room, w_tables⟩
theorem atStart : AtStart classFile x code maxLocals ret World_1 tables_1 room_1 Calls_1 rest_1 Pre_1 launch0 p0 e0 about1 theMethod args0 below0 :=
  ⟨lists_1, trivial, launch0.admits_env _ _ _, launch0.least_env, fairChoices_fair.cas, fairChoices_fair.clock, w_frames, w_args, w_heap, w_applies, trivial, trivial, w_case⟩
end start1
theorem witness_1 : WitnessClaimed_1 := ⟨start1.p0, start1.e0, start1.about1, start1.theMethod, start1.args0, start1.below0, start1.atStart⟩
end Jvm.Pilot.@@N@@
