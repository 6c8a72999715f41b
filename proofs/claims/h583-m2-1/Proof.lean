import JvmDerived
import JvmDerived.Pilot.@@N@@Statement
import JvmDerived.Pilot.@@N@@Code
set_option linter.unusedVariables false
set_option linter.unusedSimpArgs false

namespace Jvm.Pilot.@@N@@
open Jvm Jvm.ClassFile Sem Op Lib Jvm.Free Jvm.Stand Jvm.LawKit Jvm.RoadKit Bundle Jvm.Pilot.@@N@@.Jvm.D
theorem own_q {a0 : Array Value} {Z : State} (hw : ∀ d ∈ tables_1, d.before a0 Z = true) (i : Nat) {d : Jvm.Cond} (h : tables_1[i]? = some d) : d.before a0 Z = true := hw d (List.mem_of_getElem? h)
theorem own_isR {w : Value} (h : w = .null ∨ ∃ a : Addr, w = .ref a) : w.isRef = true := by rcases h with rfl | ⟨a, rfl⟩ <;> rfl
theorem own_narR {c : String} {w : Value} (h : w.isRef = true) : narrow (.object c) w = w := by rcases ref_cases h with rfl | ⟨a, rfl⟩ <;> rfl
theorem own_fitR {c : String} {w : Value} (h : w.isRef = true) : fits (.object c) w = true := by rcases ref_cases h with rfl | ⟨a, rfl⟩ <;> rfl
/-- a body that writes nothing and returns r -/
def own_Pure (r : Option Value) (h0 : Heap) (n0 : Nat) (v : Option Value) (h : Heap) (L : List Loc) : Prop := v = r ∧ Fr n0 L ∧ h = h0
theorem own_ext_refl (h : Heap) : Ext h h := ⟨Nat.le_refl _, fun _ _ q => q⟩
theorem own_ext_trans {h0 h h' : Heap} (A : Ext h0 h) (B : Ext h h') : Ext h0 h' := ⟨Nat.le_trans A.1 B.1, fun a c q => B.2 a c (A.2 a c q)⟩
theorem own_ext_keep {h0 h h' : Heap} {ws : List Addr} (A : Ext h0 h) (K : Keep h h' ws) (q : ∀ x ∈ ws, h0.size ≤ x) : Ext h0 h' :=
  ⟨Nat.le_trans A.1 K.1, fun a c r => K.2.1 a c (A.2 a c r) fun z => Nat.lt_irrefl _ (Nat.lt_of_lt_of_le (Array.getElem?_eq_some_iff.mp r).1 (q a z))⟩
theorem own_ext_wr {h0 h h' : Heap} {a : Addr} {sl : Nat} {v : Value} (A : Ext h0 h) (W : Wr h h' a sl v) (q : h0.size ≤ a) : Ext h0 h' := own_ext_keep A (Keep.of_wr W) (allS q all0)
/-- a law that may make cells -/
def own_Made (r : Option Value) (n0 : Nat) (v : Option Value) (h : Heap) (L : List Loc) : Prop := v = r ∧ Fr n0 L ∧ True
theorem own_lc_ge {x y : Int64} (h : y.toInt ≤ x.toInt) : ¬ ((lcmpW x y) < (0 : Int32)) := by
  rw [lw_lt, Int64.lt_iff_toInt_lt]; omega
theorem own_lc_lt {x y : Int64} (h : x.toInt < y.toInt) : (lcmpW x y) < (0 : Int32) := by
  rw [lw_lt, Int64.lt_iff_toInt_lt]; omega
theorem own_lc_le {x y : Int64} (h : x.toInt ≤ y.toInt) : ¬ ((0 : Int32) < (lcmpW x y)) := by
  rw [lw_gt, Int64.lt_iff_toInt_lt]; omega
theorem own_lc_gt {x y : Int64} (h : y.toInt < x.toInt) : (0 : Int32) < (lcmpW x y) := by
  rw [lw_gt, Int64.lt_iff_toInt_lt]; omega
theorem own_lc_eq {x y : Int64} (h : x.toInt = y.toInt) : (lcmpW x y) = (0 : Int32) := by
  rw [lw_eq]; exact Int64.toInt_inj.mp h
theorem own_lc_ne {x y : Int64} (h : x.toInt ≠ y.toInt) : ¬ ((lcmpW x y) = (0 : Int32)) := by
  rw [lw_eq]; intro q; exact h (congrArg Int64.toInt q)
theorem own_lt_lc {x y : Int64} (h : (lcmpW x y) < (0 : Int32)) : x.toInt < y.toInt := by
  rw [lw_lt, Int64.lt_iff_toInt_lt] at h; exact h
theorem own_ge_lc {x y : Int64} (h : ¬ ((lcmpW x y) < (0 : Int32))) : y.toInt ≤ x.toInt := by
  rw [lw_lt, Int64.lt_iff_toInt_lt] at h; omega
theorem own_gt_lc {x y : Int64} (h : (0 : Int32) < (lcmpW x y)) : y.toInt < x.toInt := by
  rw [lw_gt, Int64.lt_iff_toInt_lt] at h; exact h
theorem own_le_lc {x y : Int64} (h : ¬ ((0 : Int32) < (lcmpW x y))) : x.toInt ≤ y.toInt := by
  rw [lw_gt, Int64.lt_iff_toInt_lt] at h; omega
theorem own_eq_lc {x y : Int64} (h : (lcmpW x y) = (0 : Int32)) : x.toInt = y.toInt := by
  rw [lw_eq] at h; rw [h]
theorem own_ne_lc {x y : Int64} (h : ¬ ((lcmpW x y) = (0 : Int32))) : x.toInt ≠ y.toInt := by
  rw [lw_eq] at h; exact fun q => h (Int64.toInt_inj.mp q)
theorem own_lrem {x y : Int64} (hx : 0 ≤ x.toInt) (hy : 0 < y.toInt) : 0 ≤ (x % y).toInt ∧ (x % y).toInt < y.toInt := by
  rw [Int64.toInt_mod]; exact ⟨Int.tmod_nonneg _ hx, Int.tmod_lt_of_pos _ hy⟩
theorem own_nz {x : Int64} (h : 1 ≤ x.toInt) : x ≠ 0 := fun q => by
  rw [q] at h; exact absurd h (by decide)
/-- an array of length z whose i-th component is g i -/
def own_FA (Z : State) (h : Heap) (a : Addr) (k : ClassId) (ty : FieldType) (z : Int32) (g : Nat → Value) : Prop :=
  ∃ c : Cell, Arr Z h a c ty ∧ c.cls = k ∧ c.slots.size = z.toNatClampNeg ∧ ¬ z < 0 ∧ (∀ i, i < c.slots.size → c.slots[i]? = some (g i)) ∧ ∀ i, i < c.slots.size → fits ty (g i) = true
section FA
variable {Z : State} {h h' : Heap} {a b : Addr} {k : ClassId} {ty : FieldType} {z j : Int32} {g g' : Nat → Value} {sl : Nat} {v w : Value} {ws : List Addr}
theorem own_FA.lt (F : own_FA Z h a k ty z g) : a < h.size := by obtain ⟨c, A, -⟩ := F; exact A.lt
theorem own_FA.ext (F : own_FA Z h a k ty z g) (E : Ext h h') : own_FA Z h' a k ty z g := by obtain ⟨c, A, r⟩ := F; exact ⟨c, A.ext E, r⟩
theorem own_FA.other (F : own_FA Z h b k ty z g) (W : Wr h h' a sl v) (q : b ≠ a) : own_FA Z h' b k ty z g := by obtain ⟨c, A, r⟩ := F; exact ⟨c, A.other W q, r⟩
theorem own_FA.keep (F : own_FA Z h a k ty z g) (K : Keep h h' ws) (q : a ∉ ws) : own_FA Z h' a k ty z g := by obtain ⟨c, A, r⟩ := F; exact ⟨c, ⟨K.2.1 a c A.1 q, A.2⟩, r⟩
theorem own_FA.ofArv {vs : List Value} {dv : Value} (F : Arv Z h a k ty z vs dv) : own_FA Z h a k ty z (fun i => vs.getD i dv) := F
theorem own_FA.congr (F : own_FA Z h a k ty z g) (q : ∀ i, i < z.toNatClampNeg → g i = g' i) : own_FA Z h a k ty z g' := by
  obtain ⟨c, A, r1, r2, r3, r4, r5⟩ := F
  exact ⟨c, A, r1, r2, r3, fun i hi => by rw [← q i (r2 ▸ hi)]; exact r4 i hi, fun i hi => by rw [← q i (r2 ▸ hi)]; exact r5 i hi⟩
theorem own_getD_range (g : Nat → Value) (n : Nat) (dv : Value) (i : Nat) (hi : i < n) : ((List.range n).map g).getD i dv = g i := by
  simp [List.getD_eq_getElem?_getD, hi]
theorem own_FA.arv (F : own_FA Z h a k ty z g) (dv : Value) : Arv Z h a k ty z ((List.range z.toNatClampNeg).map g) dv := by
  obtain ⟨c, A, r1, r2, r3, r4, r5⟩ := F
  exact ⟨c, A, r1, r2, r3, fun i hi => by rw [own_getD_range g _ dv i (r2 ▸ hi)]; exact r4 i hi, fun i hi => by rw [own_getD_range g _ dv i (r2 ▸ hi)]; exact r5 i hi⟩
theorem own_FA.new (A : Arr Z h a (newA k ty z) ty) (q : ¬ z < 0) (hd : fits ty (defaultValue ty) = true) : own_FA Z h a k ty z (fun _ => defaultValue ty) :=
  own_FA.congr (own_FA.ofArv (Arv.new A q)) (fun i _ => by simp)
theorem own_FA.set {c : Cell} (A : Arr Z h a c ty) (q1 : c.cls = k) (S : c.slots.size = z.toNatClampNeg) (q3 : ¬ z < 0) (H : ∀ i, i < c.slots.size → c.slots[i]? = some (g i)) (G : ∀ i, i < c.slots.size → fits ty (g i) = true) (hv : fits ty v = true) (W : Wr h h' a sl v) : own_FA Z h' a k ty z (fun i => if i = sl then v else g i) := by
  refine ⟨c.setSlot sl v, Arr.same W A, q1, ?_, q3, fun i hi => ?_, fun i hi => ?_⟩
  · simpa [Cell.setSlot] using S
  · obtain ⟨cell, w1, w2, w3, w4⟩ := W
    cases A.1.symm.trans w1
    have hi' : i < c.slots.size := by simpa [Cell.setSlot] using hi
    by_cases e : i = sl
    · subst e; simp [Cell.setSlot, w3]
    · simp only [if_neg e, Cell.setSlot]; rw [Array.getElem?_setIfInBounds_ne (Ne.symm e)]; exact H i hi'
  · have hi' : i < c.slots.size := by simpa [Cell.setSlot] using hi
    by_cases e : i = sl
    · simp [e, hv]
    · simp only [if_neg e]; exact G i hi'
/-- what a copy of n components leaves at the aim -/
theorem own_FA.copied {vd us : List Value} {dd : Value} {dp nn : Nat} {gs gd : Nat → Value} (F : Arv Z h b k ty z (vd.take dp ++ us ++ vd.drop (dp + nn)) dd) (hvd : vd = (List.range z.toNatClampNeg).map gd) (hus : us = (List.range nn).map gs) (hl : dp + nn ≤ z.toNatClampNeg) :
    own_FA Z h b k ty z (fun i => if i < dp then gd i else if i < dp + nn then gs (i - dp) else gd i) := by
  refine (own_FA.ofArv F).congr fun i hi => ?_
  have l1 : (vd.take dp).length = dp := by rw [List.length_take, hvd]; simp; omega
  have l2 : us.length = nn := by rw [hus]; simp
  simp only [List.getD_eq_getElem?_getD]
  by_cases c1 : i < dp
  · rw [if_pos c1, List.append_assoc, List.getElem?_append_left (by omega), List.getElem?_take_of_lt c1, hvd]; simp [hi]
  · rw [if_neg c1]
    by_cases c2 : i < dp + nn
    · rw [if_pos c2, List.getElem?_append_left (by rw [List.length_append]; omega), List.getElem?_append_right (by omega), l1, hus]; simp [show i - dp < nn by omega]
    · rw [if_neg c2, List.getElem?_append_right (by rw [List.length_append]; omega), List.length_append, l1, l2, List.getElem?_drop, show dp + nn + (i - (dp + nn)) = i by omega, hvd]; simp [hi]
end FA
/-- a byte array of length z whose i-th component is f i -/
abbrev own_FB (Z : State) (h : Heap) (a : Addr) (k : ClassId) (z : Int32) (f : Nat → Int32) : Prop := own_FA Z h a k .byte z (fun i => .int (f i))
section FB
variable {p : Program} {l : Launch} {e : Env} {R : Room} {s : State} {m : MethodId} {args : Array Value} {below : List Frame} {meth : Method} {c : Code} {T : State} {locs : List Loc} {cells slots : Nat} {Z : State} {a0 : Array Value} {h h' : Heap} {a b : Addr} {k k' : ClassId} {z z' : Int32} {f f' fs fd : Nat → Int32}
theorem own_FB.congr (F : own_FB Z h a k z f) (q : ∀ i, i < z.toNatClampNeg → f i = f' i) : own_FB Z h a k z f' := own_FA.congr F (fun i hi => by rw [q i hi])
theorem own_FB.new (A : Arr Z h a (newA k .byte z) .byte) (q : ¬ z < 0) : own_FB Z h a k z (fun _ => 0) := own_FA.new A q rfl
theorem own_FB.set {cl : Cell} {sl : Nat} {v : Int32} (A : Arr Z h a cl .byte) (q1 : cl.cls = k) (S : cl.slots.size = z.toNatClampNeg) (q3 : ¬ z < 0) (H : ∀ i, i < cl.slots.size → cl.slots[i]? = some (.int (f i))) (G : ∀ i, i < cl.slots.size → fits .byte (.int (f i)) = true) (hv : fits .byte (.int v) = true) (W : Wr h h' a sl (.int v)) : own_FB Z h' a k z (fun i => if i = sl then v else f i) :=
  own_FA.congr (own_FA.set A q1 S q3 H G hv W) (fun i _ => by by_cases e : i = sl <;> simp [e])
theorem own_FB.at {cl : Cell} {j : Int32} (H : ∀ i, i < cl.slots.size → cl.slots[i]? = some (.int (f i))) (hin : ¬ (j < 0 ∨ cl.slots.size ≤ j.toNatClampNeg)) : cl.slots[j.toNatClampNeg]? = some (.int (f j.toNatClampNeg)) := H _ (Nat.lt_of_not_le fun q => hin (Or.inr q))
theorem own_nat {x : Int32} (q : ¬ x < 0) : x.toInt = (x.toNatClampNeg : Int) := nat_of q
theorem own_cp (X : Stand p l e R s m args below meth c T locs cells slots) (hx : p.tables.exec = Jvm.exec) (hZ : Z.Warmed39 s.vm) {own : String} {index : Nat} (hown : s.vm.findClass own = some m.cls)
    (w1 : (Cond.methodLink own index Jvm.Stand.acN).before a0 Z = true) (w2 : (Cond.native Jvm.Stand.acN).before a0 Z = true) (w3 : (Cond.static Jvm.Stand.acN).before a0 Z = true) (w4 : (Cond.initialized "java/lang/System").before a0 Z = true) (eT : T.heap = h)
    {nn : Int32} (A : own_FB Z h a k z fs) (B : own_FB Z h b k' z' fd) (h3 : ¬ nn < 0) (h4 : nn.toInt ≤ z.toInt) (h5 : nn.toInt ≤ z'.toInt) {n0 : Nat} (N : Fr n0 locs) (ge : n0 ≤ b)
    {g : JFrame} (hg : g.method = m) (hsize : g.locals.size = c.maxLocals) {rest : List Value} (hs : g.stack = .int nn :: .int (0 : Int32) :: .ref b :: .int (0 : Int32) :: .ref a :: rest) (hd : decode c.code g.pc = .ok (.invokestatic index, 3))
    (hf : 1 ≤ R.frames) {W : Nat} (hW : 2 * g.monitorRoom + (rest.map fun v => v.category).sum ≤ W) (hlo : W + 18 ≤ R.locals) :
    ∃ T' h' L, Stand p l e R s m args below meth c T' L cells slots ∧ T'.heap = h' ∧ Fr n0 L ∧ Keep h h' [b] ∧ own_FB Z h' b k' z' (fun i => if i < nn.toNatClampNeg then fs i else fd i) ∧
      ∀ target, Steps p.tables e below (T'.setTop { g with pc := g.pc + 3, stack := rest }) target → Steps p.tables e below (T.setTop g) target := by
  have qz : ¬ z < 0 := by obtain ⟨_, _, _, _, q, _⟩ := A; exact q
  have qz' : ¬ z' < 0 := by obtain ⟨_, _, _, _, q, _⟩ := B; exact q
  have e1 := own_nat qz
  have e2 := own_nat qz'
  have e3 := own_nat h3
  have e0 : (0 : Int32).toNatClampNeg = 0 := by decide
  obtain ⟨T', h', L, X', eh, N', K, F, st⟩ := cpA X hx hZ hown w1 w2 w3 w4 eT (sp := 0) (dp := 0) (nn := nn) (own_FA.arv A (.int 0)) (own_FA.arv B (.int 0)) (Or.inl ⟨rfl, rfl⟩) (by decide) (by decide) h3 (by rw [e0]; omega) (by rw [e0]; omega) rfl (by rw [e0]; simp; omega) N ge hg hsize hs hd hf hW hlo
  refine ⟨T', h', L, X', eh, N', K, ?_, st⟩
  have F2 := own_FA.copied (gd := fun i => Value.int (fd i)) (gs := fun i => Value.int (fs i)) F rfl (List.map_congr_left fun i hi => by
    have hi' := List.mem_range.mp hi
    rw [e0, Nat.zero_add, own_getD_range _ _ _ _ (by omega)]) (by rw [e0]; omega)
  refine own_FA.congr F2 fun i hi => ?_
  rw [e0]
  by_cases c2 : i < nn.toNatClampNeg <;> simp [c2]
end FB

/-- the String at a: Latin-1, its bytes vb spell ch 0 .. ch (z - 1) -/
def own_S (Z : State) (h : Heap) (a vb : Addr) (k : ClassId) (z : Int32) (ch : Nat → Int32) : Prop :=
  Exa Z h a "java/lang/String" ∧ Fld Z h a "java/lang/String" "value" "[B" (.ref vb) ∧ Fld Z h a "java/lang/String" "coder" "B" (.int (0 : Int32)) ∧ own_FB Z h vb k z (fun i => (ch i).toInt8.toInt32) ∧ ∀ i, 0 ≤ (ch i).toInt ∧ (ch i).toInt ≤ 255
theorem own_S.ext {Z : State} {h h' : Heap} {a vb : Addr} {k : ClassId} {z : Int32} {ch : Nat → Int32} (H : own_S Z h a vb k z ch) (E : Ext h h') : own_S Z h' a vb k z ch := by
  obtain ⟨h1, h2, h3, h4, h5⟩ := H; exact ⟨h1.ext E, h2.ext E, h3.ext E, own_FA.ext h4 E, h5⟩
/-- the JDK's two statics -/
def own_T (Z : State) (h : Heap) (cst : Int32) (fmt : Value) : Prop :=
  Sta Z h "java/lang/String" "COMPACT_STRINGS" "Z" (.int cst) ∧ (¬ cst = (0 : Int32)) ∧ Sta Z h "jdk/internal/util/Preconditions" "SIOOBE_FORMATTER" "Ljava/util/function/BiFunction;" fmt ∧ (fmt = .null ∨ ∃ a : Addr, fmt = .ref a)
theorem own_T.ext {Z : State} {h h' : Heap} {cst : Int32} {fmt : Value} (H : own_T Z h cst fmt) (E : Ext h h') : own_T Z h' cst fmt := by
  obtain ⟨h1, h2, h3, h4⟩ := H; exact ⟨h1.ext E, h2, h3.ext E, h4⟩
theorem own_shr0 (z : Int32) : (z >>> ((0 : Int32) &&& 31)) = z := by
  apply Int32.toInt_inj.mp
  have := c_ishr z (0 : Int32) 0 (by decide)
  rw [this]; simp
theorem own_chr {x : Int32} (h : 0 ≤ x.toInt ∧ x.toInt ≤ 255) : (((x.toInt8.toInt32) &&& (255 : Int32)).toUInt32.toUInt16.toUInt32.toInt32) = x := by
  apply Int32.toInt_inj.mp
  have h1 := c_i2b x
  have h2 : ((x.toInt8.toInt32) &&& (255 : Int32)).toInt = x.toInt8.toInt32.toInt % 256 := c_mask _ 255 8 (by decide) (by decide)
  have h3 := c_i2c ((x.toInt8.toInt32) &&& (255 : Int32))
  omega
theorem own_narC {x : Int32} (h : 0 ≤ x.toInt ∧ x.toInt ≤ 255) : nar .char x = x := by
  show x.toUInt32.toUInt16.toUInt32.toInt32 = x
  apply Int32.toInt_inj.mp
  have h3 := c_i2c x
  omega
theorem own_lt32 {a b : Int32} (h : a.toInt < b.toInt) : a < b := Int32.lt_iff_toInt_lt.mpr h
theorem own_nn {x : Int32} (h : 0 ≤ x.toInt) : ¬ x < 0 := by
  rw [Int32.lt_iff_toInt_lt]; have : (0 : Int32).toInt = 0 := by decide
  omega
theorem own_inc {q z : Int32} {a : Int} {j : Nat} (hqz : q < z) (hq : q.toInt = a + (j : Int)) : (q + (1 : Int32)).toInt = a + ((j + 1 : Nat) : Int) := by
  rw [Int32.lt_iff_toInt_lt] at hqz
  have h1 := c_iadd q (1 : Int32)
  have h2 := rng32 (q + (1 : Int32))
  have h3 := rng32 z
  have h4 := rng32 q
  have e1 : (1 : Int32).toInt = 1 := by decide
  omega
section
variable {p : Program} {l : Launch} {e : Env} {R : Room} {s : State} {m : MethodId} {args : Array Value} {below : List Frame} {meth : Method} {c : Code} {T : State} {locs : List Loc} {cells slots : Nat} {Z : State} {a0 : Array Value} {h : Heap}
theorem own_getFR (X : Stand p l e R s m args below meth c T locs cells slots) (hx : p.tables.exec = Jvm.exec) (hZ : Z.Warmed39 s.vm) {own O n d : String} {index : Nat} (hown : s.vm.findClass own = some m.cls) (w : (Cond.fieldRef own index O n d).before a0 Z = true)
    (eT : T.heap = h) {a : Addr} {v : Value} (F : Fld Z h a O n d v) {g : JFrame} (hg : g.method = m) {rest : List Value} (hs : g.stack = .ref a :: rest) (hd : decode c.code g.pc = .ok (.getfield index, 3)) (target : State)
    (k : Steps p.tables e below (T.setTop { g with pc := g.pc + 3, stack := v :: rest }) target) : Steps p.tables e below (T.setTop g) target := by
  obtain ⟨cell, cf, kk, i, f, h1, h2, h3, h4, -, -, h7⟩ := F
  have w1 : (Cond.fieldRef own index O n d).before a0 (Z.setVm s.vm) = true := Cond.fieldRef_warmed39 hZ w
  have w2 : (Cond.fieldRef own index O n d).before a0 ((Z.setVm s.vm).setVm T.vm) = true := Cond.fieldRef_warmed39 (s := Z.setVm s.vm) X.warmed.wide w1
  have ho : ((Z.setVm s.vm).setVm T.vm).vm.findClass own = some m.cls := (X.warmed.alike.findClass _ _).trans hown
  obtain ⟨c2, k2, i2, f2, q1, q2⟩ := Cond.fieldRef_spec ho w2
  obtain ⟨k3, q3, -⟩ := State.fieldFound?_setVm (s := Z) (State.Warmed39.trans (t := Z.setVm s.vm) hZ X.warmed.wide).alike h2
  rw [show ((Z.setVm s.vm).setVm T.vm).fieldFound? O n d = (Z.setVm T.vm).fieldFound? O n d from rfl, q3] at q1
  cases q1
  exact (X.getfieldR hx hg q2 h3 hs (by rw [eT]; exact h1) h4 h7 hd (Steps.refl _)).trans k
end

/-- a digit -/
def own_dig (x : Int32) : Prop := (¬ x < (48 : Int32)) ∧ ¬ (57 : Int32) < x
instance (x : Int32) : Decidable (own_dig x) := by unfold own_dig; exact inferInstance
def own_cnt (ch : Nat → Int32) : Nat → Nat → Nat
  | 0, i => i
  | k + 1, i => if own_dig (ch i) then own_cnt ch k (i + 1) else i
theorem own_cnt_ge (ch : Nat → Int32) : ∀ k i, i ≤ own_cnt ch k i
  | 0, i => Nat.le_refl _
  | k + 1, i => by
    simp only [own_cnt]; split
    · exact Nat.le_trans (Nat.le_succ i) (own_cnt_ge ch k (i + 1))
    · exact Nat.le_refl _
theorem own_cnt_le (ch : Nat → Int32) : ∀ k i, own_cnt ch k i ≤ i + k
  | 0, i => Nat.le_refl _
  | k + 1, i => by
    simp only [own_cnt]; split
    · have := own_cnt_le ch k (i + 1); omega
    · omega
theorem own_cnt_dig (ch : Nat → Int32) : ∀ k i t, i ≤ t → t < own_cnt ch k i → own_dig (ch t)
  | 0, i, t => by intro h1 h2; simp only [own_cnt] at h2; omega
  | k + 1, i, t => by
    intro h1 h2; simp only [own_cnt] at h2; split at h2
    · rename_i hd
      by_cases e : t = i
      · subst e; exact hd
      · exact own_cnt_dig ch k (i + 1) t (by omega) h2
    · omega
theorem own_cnt_end (ch : Nat → Int32) : ∀ k i, own_cnt ch k i = i + k ∨ ¬ own_dig (ch (own_cnt ch k i))
  | 0, i => Or.inl rfl
  | k + 1, i => by
    simp only [own_cnt]; split
    · rcases own_cnt_end ch k (i + 1) with h | h
      · left; omega
      · exact Or.inr h
    · rename_i hd; exact Or.inr hd
/-- the end of the digits from i on in a text of n chars -/
def own_de (ch : Nat → Int32) (n i : Nat) : Nat := own_cnt ch (n - i) i
/-- digitsEnd's answer -/
def own_DE (d : Nat) (h0 : Heap) (n0 : Nat) (v : Option Value) (h : Heap) (L : List Loc) : Prop := ∃ r : Int32, v = some (.int r) ∧ Fr n0 L ∧ h = h0 ∧ r.toInt = (d : Int)
def own_sg (x : Int32) : Prop := x = (43 : Int32) ∨ x = (45 : Int32)
instance (x : Int32) : Decidable (own_sg x) := by unfold own_sg; exact inferInstance
def own_isE (x : Int32) : Prop := x = (101 : Int32) ∨ x = (69 : Int32)
instance (x : Int32) : Decidable (own_isE x) := by unfold own_isE; exact inferInstance
/-- where the exponent's digits begin -/
def own_x (ch : Nat → Int32) (n i : Nat) : Nat := if i + 1 < n ∧ own_sg (ch (i + 1)) then i + 2 else i + 1
def own_ee (ch : Nat → Int32) (n i : Nat) : Nat := if i ≠ n ∧ own_isE (ch i) ∧ own_x ch n i < own_de ch n (own_x ch n i) then own_de ch n (own_x ch n i) else i
theorem own_sg0 {x r : Int32} (h : (if x = (43 : Int32) then (1 : Int32) else if x = (45 : Int32) then (1 : Int32) else (0 : Int32)) = r) : (r = 0 → ¬ own_sg x) ∧ (¬ r = 0 → own_sg x) := by
  subst h; unfold own_sg
  constructor
  · intro h
    split at h
    · exact absurd h (by decide)
    · split at h
      · exact absurd h (by decide)
      · rename_i a b; exact fun z => z.elim a b
  · intro h
    split at h
    · rename_i a; exact Or.inl a
    · split at h
      · rename_i a; exact Or.inr a
      · exact absurd rfl h
theorem own_x1 {ch : Nat → Int32} {n i : Nat} (h : i + 1 < n) (g : own_sg (ch (i + 1))) : own_x ch n i = i + 2 := if_pos ⟨h, g⟩
theorem own_x2 {ch : Nat → Int32} {n i : Nat} (h : ¬ i + 1 < n) : own_x ch n i = i + 1 := if_neg fun z => h z.1
theorem own_x3 {ch : Nat → Int32} {n i : Nat} (h : ¬ own_sg (ch (i + 1))) : own_x ch n i = i + 1 := if_neg fun z => h z.2
theorem own_ee1 {ch : Nat → Int32} {n i : Nat} (h : i = n) : own_ee ch n i = i := if_neg fun z => z.1 h
theorem own_ee2 {ch : Nat → Int32} {n i : Nat} (h : ¬ own_isE (ch i)) : own_ee ch n i = i := if_neg fun z => h z.2.1
theorem own_ee3 {ch : Nat → Int32} {n i d : Nat} (h : i ≠ n) (g : own_isE (ch i)) (hd : own_x ch n i = d) (k : d < own_de ch n d) : own_ee ch n i = own_de ch n d := by
  unfold own_ee; rw [hd]; exact if_pos ⟨h, g, k⟩
theorem own_ee4 {ch : Nat → Int32} {n i d : Nat} (hd : own_x ch n i = d) (k : ¬ d < own_de ch n d) : own_ee ch n i = i := by
  unfold own_ee; rw [hd]; exact if_neg fun z => k z.2.2
theorem own_i1 {i z : Int32} (h : 0 ≤ i.toInt ∧ i.toInt ≤ z.toInt) (g : ¬ i = z) : (i + (1 : Int32)).toInt = i.toInt + 1 ∧ i.toInt < z.toInt := by
  have h1 := c_iadd i (1 : Int32)
  have h2 := rng32 (i + (1 : Int32))
  have h3 := rng32 z
  have e1 : (1 : Int32).toInt = 1 := by decide
  have : i.toInt ≠ z.toInt := fun q => g (Int32.toInt_inj.mp q)
  omega
theorem own_i2 {i z : Int32} (h : 0 ≤ i.toInt) (g : i.toInt + 1 < z.toInt) : (i + (2 : Int32)).toInt = i.toInt + 2 := by
  have h1 := c_iadd i (2 : Int32)
  have h2 := rng32 (i + (2 : Int32))
  have h3 := rng32 z
  have e1 : (2 : Int32).toInt = 2 := by decide
  omega
theorem own_tn {x : Int32} (h : 0 ≤ x.toInt) : (x.toNatClampNeg : Int) = x.toInt := (nat_of (own_nn h)).symm
def own_s (ch : Nat → Int32) (n : Nat) : Nat := if 0 < n ∧ own_sg (ch 0) then 1 else 0
def own_d (ch : Nat → Int32) (n : Nat) : Nat := own_de ch n (own_s ch n)
def own_f (ch : Nat → Int32) (n : Nat) : Nat := if own_d ch n < n ∧ ch (own_d ch n) = (46 : Int32) then own_de ch n (own_d ch n + 1) else own_d ch n
def own_e (ch : Nat → Int32) (n : Nat) : Nat := own_ee ch n (own_f ch n)
/-- no numeral begins the text -/
def own_nul (ch : Nat → Int32) (n : Nat) : Prop := own_d ch n = own_s ch n ∧ own_f ch n ≤ own_d ch n + 1
/-- Bounds.of's answer -/
def own_Bnd (Z : State) (ch : Nat → Int32) (n : Nat) (h0 : Heap) (n0 : Nat) (v : Option Value) (h : Heap) (L : List Loc) : Prop :=
  Fr n0 L ∧ Ext h0 h ∧ ((own_nul ch n ∧ v = some .null) ∨ (¬ own_nul ch n ∧ ∃ (b : Addr) (bs bd bf be : Int32), v = some (.ref b) ∧ Fld Z h b "com/example/rowstrata/rowstrata/type/Numeral$Bounds" "start" "I" (.int bs) ∧ Fld Z h b "com/example/rowstrata/rowstrata/type/Numeral$Bounds" "digitsEnd" "I" (.int bd) ∧ Fld Z h b "com/example/rowstrata/rowstrata/type/Numeral$Bounds" "fractionEnd" "I" (.int bf) ∧ Fld Z h b "com/example/rowstrata/rowstrata/type/Numeral$Bounds" "end" "I" (.int be) ∧
    bs.toInt = (own_s ch n : Int) ∧ bd.toInt = (own_d ch n : Int) ∧ bf.toInt = (own_f ch n : Int) ∧ be.toInt = (own_e ch n : Int)))
def own_BInit (Z : State) (a : Addr) (w1 w2 w3 w4 : Int32) (h0 : Heap) (n0 : Nat) (v : Option Value) (h : Heap) (L : List Loc) : Prop :=
  v = none ∧ Fr n0 L ∧ Keep h0 h [a] ∧ Fld Z h a "com/example/rowstrata/rowstrata/type/Numeral$Bounds" "start" "I" (.int w1) ∧ Fld Z h a "com/example/rowstrata/rowstrata/type/Numeral$Bounds" "digitsEnd" "I" (.int w2) ∧ Fld Z h a "com/example/rowstrata/rowstrata/type/Numeral$Bounds" "fractionEnd" "I" (.int w3) ∧ Fld Z h a "com/example/rowstrata/rowstrata/type/Numeral$Bounds" "end" "I" (.int w4)
theorem own_de_le {ch : Nat → Int32} {n i : Nat} (h : i ≤ n) : i ≤ own_de ch n i ∧ own_de ch n i ≤ n := by
  have h1 := own_cnt_ge ch (n - i) i
  have h2 := own_cnt_le ch (n - i) i
  unfold own_de; omega
theorem own_s0 {ch : Nat → Int32} {n : Nat} (h : ¬ 0 < n) : own_s ch n = 0 := if_neg fun q => h q.1
theorem own_s1 {ch : Nat → Int32} {n : Nat} (h : ¬ own_sg (ch 0)) : own_s ch n = 0 := if_neg fun q => h q.2
theorem own_s2 {ch : Nat → Int32} {n : Nat} (h : 0 < n) (g : own_sg (ch 0)) : own_s ch n = 1 := if_pos ⟨h, g⟩
theorem own_f0 {ch : Nat → Int32} {n : Nat} (h : ¬ own_d ch n < n) : own_f ch n = own_d ch n := if_neg fun q => h q.1
theorem own_f1 {ch : Nat → Int32} {n : Nat} (h : ¬ ch (own_d ch n) = (46 : Int32)) : own_f ch n = own_d ch n := if_neg fun q => h q.2
theorem own_f2 {ch : Nat → Int32} {n : Nat} (h : own_d ch n < n) (g : ch (own_d ch n) = (46 : Int32)) : own_f ch n = own_de ch n (own_d ch n + 1) := if_pos ⟨h, g⟩
theorem own_0n : (0 : Int32).toNatClampNeg = 0 := by decide
theorem own_1n : (1 : Int32).toNatClampNeg = 1 := by decide
theorem own_0i : (0 : Int32).toInt = 0 := by decide
theorem own_1i : (1 : Int32).toInt = 1 := by decide
theorem own_atoms {a0 : Array Value} {Z : State} (hw : ∀ d ∈ tables_1, d.before a0 Z = true) : ∀ a ∈ Bundle.stringAtoms, a.before a0 Z = true := by
  intro a ha
  simp only [Bundle.stringAtoms, List.mem_cons, List.not_mem_nil, or_false] at ha
  rcases ha with rfl | rfl | rfl | rfl | rfl | rfl | rfl
  · exact own_q hw 4 rfl
  · exact own_q hw 3 rfl
  · exact own_q hw 16 rfl
  · exact own_q hw 17 rfl
  · exact own_q hw 18 rfl
  · exact own_q hw 19 rfl
  · exact own_q hw 20 rfl
theorem own_retW {s t : State} {o : Outcome} {L : List Loc} {k n k' n' : Nat} (h : ReturnedEndW s o t L k n) (h1 : k ≤ k') (h2 : n ≤ n') : ReturnedEndW s o t L k' n' := ⟨h.1, h.2.1, h.2.2.1, h.2.2.2.mono h1 h2⟩
/-- some reference, or null, or one of the two -/
def own_Ref (P : Value → Prop) (h0 : Heap) (n0 : Nat) (v : Option Value) (h : Heap) (L : List Loc) : Prop := ∃ w : Value, v = some w ∧ Fr n0 L ∧ Ext h0 h ∧ P w
section
variable {p : Program} {l : Launch} {e : Env} {R : Room} {s : State} {m : MethodId} {args : Array Value} {below : List Frame} {meth : Method} {c : Code} {T : State} {locs : List Loc} {cells slots : Nat} {Z : State} {a0 : Array Value} {h : Heap} {a b : Addr} {k k' : ClassId} {z z' : Int32} {fs fd : Nat → Int32}
theorem own_cp2 (X : Stand p l e R s m args below meth c T locs cells slots) (hx : p.tables.exec = Jvm.exec) (hZ : Z.Warmed39 s.vm) {own : String} {index : Nat} (hown : s.vm.findClass own = some m.cls)
    (w1 : (Cond.methodLink own index Jvm.Stand.acN).before a0 Z = true) (w2 : (Cond.native Jvm.Stand.acN).before a0 Z = true) (w3 : (Cond.static Jvm.Stand.acN).before a0 Z = true) (w4 : (Cond.initialized "java/lang/System").before a0 Z = true) (eT : T.heap = h)
    {sp nn : Int32} (A : own_FB Z h a k z fs) (B : own_FB Z h b k' z' fd) (hb : 0 ≤ sp.toInt ∧ 0 ≤ nn.toInt ∧ sp.toInt + nn.toInt ≤ z.toInt ∧ nn.toInt ≤ z'.toInt) {n0 : Nat} (N : Fr n0 locs) (ge : n0 ≤ b)
    {g : JFrame} (hg : g.method = m) (hsize : g.locals.size = c.maxLocals) {rest : List Value} (hs : g.stack = .int nn :: .int (0 : Int32) :: .ref b :: .int sp :: .ref a :: rest) (hd : decode c.code g.pc = .ok (.invokestatic index, 3))
    (hf : 1 ≤ R.frames) {W : Nat} (hW : 2 * g.monitorRoom + (rest.map fun v => v.category).sum ≤ W) (hlo : W + 18 ≤ R.locals) :
    ∃ T' h' L, Stand p l e R s m args below meth c T' L cells slots ∧ T'.heap = h' ∧ Fr n0 L ∧ Keep h h' [b] ∧
      ∀ target, Steps p.tables e below (T'.setTop { g with pc := g.pc + 3, stack := rest }) target → Steps p.tables e below (T.setTop g) target := by
  have qz : ¬ z < 0 := by obtain ⟨_, _, _, _, q, _⟩ := A; exact q
  have qz' : ¬ z' < 0 := by obtain ⟨_, _, _, _, q, _⟩ := B; exact q
  have e1 := own_nat qz
  have e2 := own_nat qz'
  have e3 := own_tn hb.1
  have e4 := own_tn hb.2.1
  have e0 : (0 : Int32).toNatClampNeg = 0 := by decide
  obtain ⟨T', h', L, X', eh, N', K, F, st⟩ := cpA X hx hZ hown w1 w2 w3 w4 eT (sp := sp) (dp := 0) (nn := nn) (own_FA.arv A (.int 0)) (own_FA.arv B (.int 0)) (Or.inl ⟨rfl, rfl⟩) (own_nn hb.1) (by decide) (own_nn hb.2.1) (by omega) (by rw [e0]; omega) rfl (by rw [e0]; simp; omega) N ge hg hsize hs hd hf hW hlo
  exact ⟨T', h', L, X', eh, N', K, st⟩
end
theorem own_cap {x : Int32} {n : Nat} (q : ¬ x < 0) (h : x.toInt ≤ (n : Int)) : x.toNatClampNeg ≤ n := by
  have := nat_of q; omega
theorem own_subI {i j z : Int32} (h : 0 ≤ i.toInt ∧ i.toInt ≤ j.toInt ∧ j.toInt ≤ z.toInt) (hz : z.toInt ≤ 4) : (j - i).toInt = j.toInt - i.toInt := by
  have h1 := c_isub j i
  have h2 := rng32 (j - i)
  omega
theorem own_addI {i n : Int32} (h : 0 ≤ i.toInt ∧ 0 ≤ n.toInt ∧ i.toInt + n.toInt ≤ 4) : (i + n).toInt = i.toInt + n.toInt := by
  have h1 := c_iadd i n
  have h2 := rng32 (i + n)
  omega
theorem own_minI {a b : Int32} (h : b.toInt ≤ a.toInt) : (if b < a then b else a).toInt = b.toInt := by
  split
  · rfl
  · rename_i q; rw [Int32.lt_iff_toInt_lt] at q; omega
/-- a constructor that writes its own object alone -/
def own_Ini (a : Addr) (h0 : Heap) (n0 : Nat) (v : Option Value) (h : Heap) (L : List Loc) : Prop := v = none ∧ Fr n0 L ∧ Keep h0 h [a]
theorem own_nlt {a b : Int32} (h : b.toInt ≤ a.toInt) : ¬ a < b := by rw [Int32.lt_iff_toInt_lt]; omega
theorem own_e0 {x : Int32} (h : x.toInt = 0) : x = (0 : Int32) := Int32.toInt_inj.mp (by rw [h]; decide)
theorem own_ee_le {ch : Nat → Int32} {n i : Nat} (h : i ≤ n) : i ≤ own_ee ch n i ∧ own_ee ch n i ≤ n := by
  unfold own_ee
  split
  · rename_i q
    have hx : i < own_x ch n i ∧ own_x ch n i ≤ n := by
      unfold own_x
      split
      · omega
      · have := q.1; omega
    have := own_de_le (ch := ch) (n := n) (i := own_x ch n i) hx.2
    omega
  · omega
theorem own_order (ch : Nat → Int32) (n : Nat) : own_s ch n ≤ own_d ch n ∧ own_d ch n ≤ own_f ch n ∧ own_f ch n ≤ own_e ch n ∧ own_e ch n ≤ n ∧ (0 < own_s ch n → 0 < n) := by
  have h0 : own_s ch n ≤ n ∧ (0 < own_s ch n → 0 < n) := by unfold own_s; split <;> omega
  have h1 := own_de_le (ch := ch) (n := n) h0.1
  have h2 : own_d ch n ≤ own_f ch n ∧ own_f ch n ≤ n := by
    unfold own_f
    split
    · rename_i q; have := own_de_le (ch := ch) (n := n) (i := own_d ch n + 1) (by omega); omega
    · have : own_d ch n = own_de ch n (own_s ch n) := rfl
      omega
  have h3 := own_ee_le (ch := ch) (n := n) h2.2
  have h4 : own_d ch n = own_de ch n (own_s ch n) := rfl
  have h5 : own_e ch n = own_ee ch n (own_f ch n) := rfl
  omega
def own_NIni (Z : State) (a : Addr) (fr ex : Value) (h0 : Heap) (n0 : Nat) (v : Option Value) (h : Heap) (L : List Loc) : Prop :=
  v = none ∧ Fr n0 L ∧ Keep h0 h [a] ∧ Exa Z h a "com/example/rowstrata/rowstrata/type/Numeral" ∧ Fld Z h a "com/example/rowstrata/rowstrata/type/Numeral" "fraction" "Ljava/lang/String;" fr ∧ Fld Z h a "com/example/rowstrata/rowstrata/type/Numeral" "exponent" "Ljava/lang/String;" ex
/-- null where P fails, else some object -/
def own_Opt (P : Prop) (w : Value) : Prop := (¬ P ∧ w = .null) ∨ (P ∧ ∃ a : Addr, w = .ref a)
theorem own_optV {P : Prop} {w : Value} (h : own_Opt P w) : w = .null ∨ ∃ a : Addr, w = .ref a := h.elim (fun q => Or.inl q.2) (fun q => Or.inr q.2)
/-- the whole text is a numeral -/
def own_OK (ch : Nat → Int32) (n : Nat) : Prop := ¬ own_nul ch n ∧ own_e ch n = n
def own_Of (Z : State) (ch : Nat → Int32) (n : Nat) (h0 : Heap) (n0 : Nat) (v : Option Value) (h : Heap) (L : List Loc) : Prop :=
  Fr n0 L ∧ Ext h0 h ∧ ((¬ own_OK ch n ∧ v = some .null) ∨ (own_OK ch n ∧ ∃ (b : Addr) (fr ex : Value), v = some (.ref b) ∧ Exa Z h b "com/example/rowstrata/rowstrata/type/Numeral" ∧ Fld Z h b "com/example/rowstrata/rowstrata/type/Numeral" "fraction" "Ljava/lang/String;" fr ∧ Fld Z h b "com/example/rowstrata/rowstrata/type/Numeral" "exponent" "Ljava/lang/String;" ex ∧ own_Opt (own_d ch n < own_f ch n) fr ∧ own_Opt (own_f ch n < own_e ch n) ex))
theorem own_narZ {x : Int32} (h : x = (0 : Int32) ∨ x = (1 : Int32)) : narrow .boolean (.int x) = .int x := by rcases h with rfl | rfl <;> rfl
theorem own_fitZ {x : Int32} (h : x = (0 : Int32) ∨ x = (1 : Int32)) : fits .boolean (.int x) = true := by rcases h with rfl | rfl <;> rfl
def own_WN (P : Prop) (h0 : Heap) (n0 : Nat) (v : Option Value) (h : Heap) (L : List Loc) : Prop := ∃ r : Int32, v = some (.int r) ∧ Fr n0 L ∧ Ext h0 h ∧ ((r = 1 ∧ P) ∨ (r = 0 ∧ ¬ P))
/-- a char of at most 255 -/
def own_Chr (h0 : Heap) (n0 : Nat) (v : Option Value) (h : Heap) (L : List Loc) : Prop := ∃ r : Int32, v = some (.int r) ∧ Fr n0 L ∧ h = h0 ∧ 0 ≤ r.toInt ∧ r.toInt ≤ 255
theorem own_narCle {x : Int32} (h : 0 ≤ x.toInt ∧ x.toInt ≤ 255) : 0 ≤ (nar .char x).toInt ∧ (nar .char x).toInt ≤ 255 := by rw [own_narC h]; exact h
theorem own_c1 (x : Int32) : 0 ≤ (((48 : Int32) + (((x.toUInt32 >>> ((3 : Int32) &&& 31).toUInt32).toInt32) % (10 : Int32))).toUInt32.toUInt16.toUInt32.toInt32).toInt ∧ (((48 : Int32) + (((x.toUInt32 >>> ((3 : Int32) &&& 31).toUInt32).toInt32) % (10 : Int32))).toUInt32.toUInt16.toUInt32.toInt32).toInt ≤ 255 := by
  have h0 := c_iushr x (3 : Int32) 3 (by decide) (by decide)
  generalize ((x.toUInt32 >>> ((3 : Int32) &&& 31).toUInt32).toInt32) = y at h0 ⊢
  have hx := rng32 x
  have h1 := (c_irem y (10 : Int32) 10 (by decide)).1 (by omega)
  have h2 := c_iadd (48 : Int32) (y % (10 : Int32))
  have e : (48 : Int32).toInt = 48 := by decide
  have h3 := rng32 ((48 : Int32) + (y % (10 : Int32)))
  have h4 := c_i2c ((48 : Int32) + (y % (10 : Int32)))
  omega
theorem own_c2 (y : Int32) : 0 ≤ ((y &&& (255 : Int32)).toUInt32.toUInt16.toUInt32.toInt32).toInt ∧ ((y &&& (255 : Int32)).toUInt32.toUInt16.toUInt32.toInt32).toInt ≤ 255 := by
  have h1 : (y &&& (255 : Int32)).toInt = y.toInt % 256 := c_mask y 255 8 (by decide) (by decide)
  have h2 := c_i2c (y &&& (255 : Int32))
  omega
/-- the chars of a list, nought behind it -/
def own_ch (cs : List Int32) (i : Nat) : Int32 := cs.getD i 0
theorem own_narB (x : Int32) : nar .byte (x.toInt8.toInt32) = x.toInt8.toInt32 := by show x.toInt8.toInt32.toInt8.toInt32 = _; simp
def own_Cmp (Z : State) (b : Addr) (k : ClassId) (n : Int32) (cs : List Int32) (h0 : Heap) (n0 : Nat) (v : Option Value) (h : Heap) (L : List Loc) : Prop := v = some (.int n) ∧ Fr n0 L ∧ Keep h0 h [b] ∧ own_FB Z h b k n (fun i => (own_ch cs i).toInt8.toInt32)
def own_Cmp1 (Z : State) (n : Int32) (cs : List Int32) (h0 : Heap) (n0 : Nat) (v : Option Value) (h : Heap) (L : List Loc) : Prop := ∃ (b : Addr) (k : ClassId), v = some (.ref b) ∧ Fr n0 L ∧ Ext h0 h ∧ h0.size ≤ b ∧ own_FB Z h b k n (fun i => (own_ch cs i).toInt8.toInt32)
def own_SNew (Z : State) (a : Addr) (n : Int32) (cs : List Int32) (h0 : Heap) (n0 : Nat) (v : Option Value) (h : Heap) (L : List Loc) : Prop := v = none ∧ Fr n0 L ∧ Keep h0 h [a] ∧ ∃ (vb : Addr) (k : ClassId), own_S Z h a vb k n (own_ch cs)
theorem own_chb {cs : List Int32} (h : ∀ x ∈ cs, 0 ≤ x.toInt ∧ x.toInt ≤ 255) (i : Nat) : 0 ≤ (own_ch cs i).toInt ∧ (own_ch cs i).toInt ≤ 255 := by
  unfold own_ch
  rw [List.getD_eq_getElem?_getD]
  cases hx : cs[i]? with
  | none => exact ⟨by decide, by decide⟩
  | some v => exact h v (List.mem_of_getElem? hx)
def own_mark (x : Int32) : Prop := x = (46 : Int32) ∨ x = (101 : Int32) ∨ x = (69 : Int32)
theorem own_dig_nm {x : Int32} (h : own_dig x) : ¬ own_mark x := by
  rintro (rfl | rfl | rfl)
  · exact h.1 (by decide)
  · exact h.2 (by decide)
  · exact h.2 (by decide)
theorem own_sg_nm {x : Int32} (h : own_sg x) : ¬ own_mark x := by
  rcases h with rfl | rfl
  · rintro (h | h | h) <;> exact absurd h (by decide)
  · rintro (h | h | h) <;> exact absurd h (by decide)
/-- a numeral is whole where no mark stands in its text -/
theorem own_whole {ch : Nat → Int32} {n : Nat} (h : own_OK ch n) : (own_d ch n = own_e ch n → ∀ i, i < n → ¬ own_mark (ch i)) ∧ (¬ own_d ch n = own_e ch n → ∃ i, i < n ∧ own_mark (ch i)) := by
  have ho := own_order ch n
  have he := h.2
  constructor
  · intro hw i hi
    by_cases hs : i < own_s ch n
    · have : 0 < n ∧ own_sg (ch 0) := by
        by_cases q : 0 < n ∧ own_sg (ch 0)
        · exact q
        · have : own_s ch n = 0 := if_neg q
          omega
      have h1 : own_s ch n = 1 := if_pos this
      obtain rfl : i = 0 := by omega
      exact own_sg_nm this.2
    · exact own_dig_nm (own_cnt_dig ch (n - own_s ch n) (own_s ch n) i (by omega) (by show i < own_d ch n; omega))
  · intro hw
    by_cases hf : own_d ch n < own_f ch n
    · have : own_d ch n < n ∧ ch (own_d ch n) = (46 : Int32) := by
        by_cases q : own_d ch n < n ∧ ch (own_d ch n) = (46 : Int32)
        · exact q
        · have : own_f ch n = own_d ch n := if_neg q
          omega
      exact ⟨_, this.1, Or.inl this.2⟩
    · have hlt : own_f ch n < own_e ch n := by omega
      have : own_isE (ch (own_f ch n)) := by
        by_cases q : own_isE (ch (own_f ch n))
        · exact q
        · have : own_e ch n = own_f ch n := own_ee2 q
          omega
      exact ⟨_, by omega, Or.inr this⟩
theorem own_mk1 {ch : Nat → Int32} {z k r : Int32} (h : (if k < z then (if (ch k.toNatClampNeg) = (46 : Int32) then (1 : Int32) else if (ch k.toNatClampNeg) = (101 : Int32) then (1 : Int32) else if (ch k.toNatClampNeg) = (69 : Int32) then (1 : Int32) else (0 : Int32)) else (0 : Int32)) = r) :
    (r = 0 → k < z → ¬ own_mark (ch k.toNatClampNeg)) ∧ (¬ r = 0 → k < z ∧ own_mark (ch k.toNatClampNeg)) := by
  subst h
  by_cases hk : k < z
  · rw [if_pos hk]
    by_cases h1 : ch k.toNatClampNeg = (46 : Int32)
    · rw [if_pos h1]; exact ⟨fun q => absurd q (by decide), fun _ => ⟨hk, Or.inl h1⟩⟩
    · rw [if_neg h1]
      by_cases h2 : ch k.toNatClampNeg = (101 : Int32)
      · rw [if_pos h2]; exact ⟨fun q => absurd q (by decide), fun _ => ⟨hk, Or.inr (Or.inl h2)⟩⟩
      · rw [if_neg h2]
        by_cases h3 : ch k.toNatClampNeg = (69 : Int32)
        · rw [if_pos h3]; exact ⟨fun q => absurd q (by decide), fun _ => ⟨hk, Or.inr (Or.inr h3)⟩⟩
        · rw [if_neg h3]; exact ⟨fun _ _ q => q.elim h1 (fun q => q.elim h2 h3), fun q => absurd rfl q⟩
  · rw [if_neg hk]; exact ⟨fun _ q => absurd q hk, fun q => absurd rfl q⟩
theorem own_mkall {ch : Nat → Int32} {z : Int32} (hz0 : 0 ≤ z.toInt) (hz4 : z.toInt ≤ 4) (h0 : (0 : Int32) < z → ¬ own_mark (ch (0 : Int32).toNatClampNeg)) (h1 : (1 : Int32) < z → ¬ own_mark (ch (1 : Int32).toNatClampNeg)) (h2 : (2 : Int32) < z → ¬ own_mark (ch (2 : Int32).toNatClampNeg)) (h3 : (3 : Int32) < z → ¬ own_mark (ch (3 : Int32).toNatClampNeg)) :
    ∀ i, i < z.toNatClampNeg → ¬ own_mark (ch i) := by
  intro i hi
  have t_z := own_tn hz0
  have e0 : (0 : Int32).toInt = 0 := by decide
  have e1 : (1 : Int32).toInt = 1 := by decide
  have e2 : (2 : Int32).toInt = 2 := by decide
  have e3 : (3 : Int32).toInt = 3 := by decide
  rcases (by omega : i = 0 ∨ i = 1 ∨ i = 2 ∨ i = 3) with rfl | rfl | rfl | rfl
  · exact h0 (own_lt32 (by omega))
  · exact h1 (own_lt32 (by omega))
  · exact h2 (own_lt32 (by omega))
  · exact h3 (own_lt32 (by omega))
theorem own_mkex {ch : Nat → Int32} {z k : Int32} (hk : 0 ≤ k.toInt) (h : k < z ∧ own_mark (ch k.toNatClampNeg)) : ∃ i, i < z.toNatClampNeg ∧ own_mark (ch i) := by
  have h1 := h.1
  rw [Int32.lt_iff_toInt_lt] at h1
  have t_k := own_tn hk
  have t_z := own_tn (x := z) (by omega)
  exact ⟨_, by omega, h.2⟩
theorem own_wex (fr ex : Value) : ∃ r : Int32, (r = 1 ∧ fr = .null ∧ ex = .null) ∨ (r = 0 ∧ ¬ (fr = .null ∧ ex = .null)) := by
  by_cases h : fr = .null ∧ ex = .null
  · exact ⟨1, Or.inl ⟨rfl, h.1, h.2⟩⟩
  · exact ⟨0, Or.inr ⟨rfl, h⟩⟩
/-- the law's expectation -/
def own_Exp (ch : Nat → Int32) (n : Nat) (x : Int32) : Prop := (x = 1 ∧ ∀ i, i < n → ¬ own_mark (ch i)) ∨ (x = 0 ∧ ∃ i, i < n ∧ own_mark (ch i))
theorem own_agree {ch : Nat → Int32} {n : Nat} {fr ex : Value} {x9 x11 : Int32} (hok : own_OK ch n) (ofr : own_Opt (own_d ch n < own_f ch n) fr) (oex : own_Opt (own_f ch n < own_e ch n) ex)
    (hWN : (x11 = 1 ∧ (¬ own_nul ch n ∧ own_e ch n = n ∧ own_e ch n = own_d ch n)) ∨ (x11 = 0 ∧ ¬ (¬ own_nul ch n ∧ own_e ch n = n ∧ own_e ch n = own_d ch n))) (hexp : own_Exp ch n x9) :
    ∃ r : Int32, ((r = 1 ∧ fr = .null ∧ ex = .null) ∨ (r = 0 ∧ ¬ (fr = .null ∧ ex = .null))) ∧ r = x9 ∧ r = x11 := by
  have ho := own_order ch n
  by_cases hde : own_d ch n = own_e ch n
  · have hfr : fr = .null := ofr.elim (fun q => q.2) (fun q => absurd q.1 (by omega))
    have hex : ex = .null := oex.elim (fun q => q.2) (fun q => absurd q.1 (by omega))
    have h11 : x11 = 1 := hWN.elim (fun q => q.1) (fun q => absurd ⟨hok.1, hok.2, hde.symm⟩ q.2)
    have h9 : x9 = 1 := hexp.elim (fun q => q.1) (fun q => by obtain ⟨_, i, hi, hm⟩ := q; exact absurd hm ((own_whole hok).1 hde i hi))
    exact ⟨1, Or.inl ⟨rfl, hfr, hex⟩, h9.symm, h11.symm⟩
  · have hne : ¬ (fr = .null ∧ ex = .null) := by
      rintro ⟨rfl, rfl⟩
      have h1 : ¬ own_d ch n < own_f ch n := ofr.elim (fun q => q.1) (fun q => by obtain ⟨_, a, ha⟩ := q; cases ha)
      have h2 : ¬ own_f ch n < own_e ch n := oex.elim (fun q => q.1) (fun q => by obtain ⟨_, a, ha⟩ := q; cases ha)
      omega
    have h11 : x11 = 0 := hWN.elim (fun q => absurd q.2.2.2.symm hde) (fun q => q.1)
    have h9 : x9 = 0 := hexp.elim (fun q => by obtain ⟨i, hi, hm⟩ := (own_whole hok).2 hde; exact absurd hm (q.2 i hi)) (fun q => q.1)
    exact ⟨0, Or.inr ⟨rfl, hne⟩, h9.symm, h11.symm⟩
theorem own_inW {s : State} {vm : Vm} (h : s.WarmedH vm) : vm.interned = s.vm.interned := (h.since 0).same_table (Nat.zero_le _)
section
variable {p : Program} {l : Launch} {e : Env} {R : Room} {s : State} {args : Array Value} {below : List Frame} {Z : State} {a0 : Array Value} {h : Heap}
theorem own_backI {y : MethodName} {bytes : ByteArray} {maxL : Nat} {ret : Option FieldType} {rm : Room} {len W : Nat} {as' : Array Value} {Q : Option Value → Heap → List Loc → Prop}
    (hM : MetFree l y (head1 [Cond.code y bytes maxL ret] rm) (fun a U => a = as' ∧ Z.Warmed39 U.vm ∧ U.heap = h ∧ U.vm.interned = Z.vm.interned) (fun _ _ _ _ _ => True) (fun _ U o U' => ∃ v L, o = .returned v ∧ Q v U'.heap L ∧ ReturnedEndW U o U' L rm.cells rm.slots))
    (hIn : s.vm.interned = Z.vm.interned) (hZ : Z.Warmed39 s.vm) (wc : (Cond.code y bytes maxL ret).before a0 Z = true) (wz : (Cond.initialized y.cls).before a0 Z = true) (hf : rm.frames + 1 ≤ R.frames) (hl : W + (maxL + 11) + rm.locals ≤ R.locals) :
    BackS l R p e below s args y len W (fun A a => a = as' ∧ A.U.heap = h ∧ A.cells + rm.cells ≤ R.cells ∧ A.slots + rm.slots ≤ R.slots)
      (fun A _ v B => ∃ L, Q v B.U.heap L ∧ B.locs = A.locs ++ L ∧ B.cells = A.cells + rm.cells ∧ B.slots = A.slots + rm.slots) :=
  BackS.of_freeW (bytes := bytes) (maxL := maxL) (ret := ret) (E := fun _ _ o t L k n => k = rm.cells ∧ n = rm.slots ∧ ∃ v, o = .returned v ∧ Q v t.heap L) hM hf hl
    (fun m meth c A a Y hp => have hU : Z.Warmed39 A.U.vm := wtrans hZ Y.warmed
      ⟨by show (Cond.and _ .tt).before a A.U = true; rw [Cond.before_and, mv hU wc]; rfl, mv hU wc, mv hU wz, hp.2.2.1, hp.2.2.2⟩)
    (fun m meth c A a g mk Y hp => ⟨hp.1, wtrans hZ Y.warmed, hp.2.1, (own_inW Y.warmed).trans hIn⟩) (fun _ _ _ _ _ _ _ _ _ => trivial)
    (fun _ _ _ _ ⟨v, L, h1, h2, h3⟩ => ⟨L, _, _, h3, rfl, rfl, v, h1, h2⟩)
    (fun m meth c A a g mk v t L k n Y hp _ _ ⟨e1, e2, v', e3, e4⟩ => by cases e3; subst e1 e2; exact ⟨L, e4, rfl, rfl, rfl⟩)
end
theorem own_255 : (255 : Int32).toInt = 255 := by decide
theorem own_pt1 (c0_ : Int32) (i : Nat) (hi : i < (1 : Int32).toNatClampNeg) : ((fun i => if i = ((0 : Int32)).toNatClampNeg then (nar .byte (c0_.toInt8.toInt32)) else (fun _ => (0 : Int32)) i)) i = (own_ch [c0_] i).toInt8.toInt32 := by
  have hi' : i < 1 := hi
  rcases (by omega : i = 0) with rfl
  · exact own_narB c0_
theorem own_pt2 (c0_ c1_ : Int32) (i : Nat) (hi : i < (2 : Int32).toNatClampNeg) : ((fun i => if i = ((1 : Int32)).toNatClampNeg then (nar .byte (c1_.toInt8.toInt32)) else (fun i => if i = ((0 : Int32)).toNatClampNeg then (nar .byte (c0_.toInt8.toInt32)) else (fun _ => (0 : Int32)) i) i)) i = (own_ch [c0_, c1_] i).toInt8.toInt32 := by
  have hi' : i < 2 := hi
  rcases (by omega : i = 0 ∨ i = 1) with rfl | rfl
  · exact own_narB c0_
  · exact own_narB c1_
theorem own_pt3 (c0_ c1_ c2_ : Int32) (i : Nat) (hi : i < (3 : Int32).toNatClampNeg) : ((fun i => if i = ((2 : Int32)).toNatClampNeg then (nar .byte (c2_.toInt8.toInt32)) else (fun i => if i = ((1 : Int32)).toNatClampNeg then (nar .byte (c1_.toInt8.toInt32)) else (fun i => if i = ((0 : Int32)).toNatClampNeg then (nar .byte (c0_.toInt8.toInt32)) else (fun _ => (0 : Int32)) i) i) i)) i = (own_ch [c0_, c1_, c2_] i).toInt8.toInt32 := by
  have hi' : i < 3 := hi
  rcases (by omega : i = 0 ∨ i = 1 ∨ i = 2) with rfl | rfl | rfl
  · exact own_narB c0_
  · exact own_narB c1_
  · exact own_narB c2_
theorem own_pt4 (c0_ c1_ c2_ c3_ : Int32) (i : Nat) (hi : i < (4 : Int32).toNatClampNeg) : ((fun i => if i = ((3 : Int32)).toNatClampNeg then (nar .byte (c3_.toInt8.toInt32)) else (fun i => if i = ((2 : Int32)).toNatClampNeg then (nar .byte (c2_.toInt8.toInt32)) else (fun i => if i = ((1 : Int32)).toNatClampNeg then (nar .byte (c1_.toInt8.toInt32)) else (fun i => if i = ((0 : Int32)).toNatClampNeg then (nar .byte (c0_.toInt8.toInt32)) else (fun _ => (0 : Int32)) i) i) i) i)) i = (own_ch [c0_, c1_, c2_, c3_] i).toInt8.toInt32 := by
  have hi' : i < 4 := hi
  rcases (by omega : i = 0 ∨ i = 1 ∨ i = 2 ∨ i = 3) with rfl | rfl | rfl | rfl
  · exact own_narB c0_
  · exact own_narB c1_
  · exact own_narB c2_
  · exact own_narB c3_
theorem own_rem5 (x : Int32) : (x &&& (2147483647 : Int32)) % (5 : Int32) = (0 : Int32) ∨ (x &&& (2147483647 : Int32)) % (5 : Int32) = (1 : Int32) ∨ (x &&& (2147483647 : Int32)) % (5 : Int32) = (2 : Int32) ∨ (x &&& (2147483647 : Int32)) % (5 : Int32) = (3 : Int32) ∨ (x &&& (2147483647 : Int32)) % (5 : Int32) = (4 : Int32) := by
  have h1 : (x &&& (2147483647 : Int32)).toInt = x.toInt % 2147483648 := c_mask x 2147483647 31 (by decide) (by decide)
  have h2 := (c_irem (x &&& (2147483647 : Int32)) (5 : Int32) 5 (by decide)).1 (by omega)
  have hlo : 0 ≤ ((x &&& (2147483647 : Int32)) % (5 : Int32)).toInt := by omega
  have hhi : ((x &&& (2147483647 : Int32)) % (5 : Int32)).toInt < 5 := by omega
  clear h1 h2
  rcases (by omega : ((x &&& (2147483647 : Int32)) % (5 : Int32)).toInt = 0 ∨ 1 ≤ ((x &&& (2147483647 : Int32)) % (5 : Int32)).toInt) with h | hlo
  · exact Or.inl (Int32.toInt_inj.mp (by rw [h]; decide))
  rcases (by omega : ((x &&& (2147483647 : Int32)) % (5 : Int32)).toInt = 1 ∨ 2 ≤ ((x &&& (2147483647 : Int32)) % (5 : Int32)).toInt) with h | hlo
  · exact Or.inr (Or.inl (Int32.toInt_inj.mp (by rw [h]; decide)))
  rcases (by omega : ((x &&& (2147483647 : Int32)) % (5 : Int32)).toInt = 2 ∨ 3 ≤ ((x &&& (2147483647 : Int32)) % (5 : Int32)).toInt) with h | hlo
  · exact Or.inr (Or.inr (Or.inl (Int32.toInt_inj.mp (by rw [h]; decide))))
  rcases (by omega : ((x &&& (2147483647 : Int32)) % (5 : Int32)).toInt = 3 ∨ 4 ≤ ((x &&& (2147483647 : Int32)) % (5 : Int32)).toInt) with h | hlo
  · exact Or.inr (Or.inr (Or.inr (Or.inl (Int32.toInt_inj.mp (by rw [h]; decide)))))
  have h : ((x &&& (2147483647 : Int32)) % (5 : Int32)).toInt = 4 := by omega
  exact Or.inr (Or.inr (Or.inr (Or.inr (Int32.toInt_inj.mp (by rw [h]; decide)))))
theorem d6_0 : decode jdk_42_method_152_code 0 = .ok (.getstatic 38, 3) := by decide +kernel
theorem d6_3 : decode jdk_42_method_152_code 3 = .ok (.ifCond .eq 10, 3) := by decide +kernel
theorem d6_6 : decode jdk_42_method_152_code 6 = .ok (.aload_n 0, 1) := by decide +kernel
theorem d6_7 : decode jdk_42_method_152_code 7 = .ok (.getfield 15, 3) := by decide +kernel
theorem d6_10 : decode jdk_42_method_152_code 10 = .ok (.goto 4, 3) := by decide +kernel
theorem d6_14 : decode jdk_42_method_152_code 14 = .ok (.ireturn, 1) := by decide +kernel
theorem pn_6 : plainName "java/lang/String" = true := by first | (simp [plainName, overriddenIn]; done) | decide +kernel
theorem ef_rm_coder (m : MethodId) (x0 : Addr) : entryFrame m #[(.ref x0)] 1 = mkF m 0 #[.val (.ref x0)] [] := by first | (simp [entryFrame, mkF, argsToLocals, Value.category]; done) | rfl
set_option maxRecDepth 65536 in
set_option maxHeartbeats 40000000 in
theorem rm_coder (l : Launch) (Z : State) (a0 : Array Value) (hw : ∀ d ∈ tables_1, d.before a0 Z = true) (ws : List Jvm.Cond) (a1 : Addr) (h0 : Heap) (n0 : Nat) (Z0 : n0 ≤ h0.size) (vb : Addr) (kb : ClassId) (z : Int32) (ch : Nat → Int32) (cst : Int32) (fmt : Value) (hS : own_S Z h0 a1 vb kb z ch) (hT : own_T Z h0 cst fmt) :
    MetFree l (⟨"java/lang/String", "coder", "()B"⟩ : MethodName) (head1 (Jvm.Cond.code (⟨"java/lang/String", "coder", "()B"⟩ : MethodName) jdk_42_method_152_code 1 (some .byte) :: ws) ({ frames := 0, cells := 0, slots := 0, locals := 0 } : Room)) (fun aQ UQ => aQ = #[(.ref a1)] ∧ Z.Warmed39 UQ.vm ∧ UQ.heap = h0) (fun _ _ _ _ _ => True) (fun _ UQ oQ UR => ∃ vQ LQ, oQ = .returned vQ ∧ own_Pure (some (.int 0)) h0 n0 vQ UR.heap LQ ∧ FrameEnd UQ oQ UR LQ ({ frames := 0, cells := 0, slots := 0, locals := 0 } : Room).cells ({ frames := 0, cells := 0, slots := 0, locals := 0 } : Room).slots) := by
  refine MetFree.of_bodySF (plainFor_of_name pn_6) hisR ?_
  intro p e s m args below meth c s₁ Bd hml0 hP hK
  obtain ⟨rfl, hZ, hh⟩ := hP
  have hx := Bd.exec
  have hby := Bd.bytes
  have hml : c.maxLocals = 1 := hml0
  have hown : s.vm.findClass "java/lang/String" = some m.cls := findClass_of_methodNamed Bd.named
  have hnm := (name_of_methodNamed Bd.named Bd.method).1
  have X0 : Stand p l e ({ frames := 0, cells := 0, slots := 0, locals := 0 } : Room) s m #[(.ref a1)] below meth c s₁ [] 0 0 := Stand.of_body Bd
  have e0 : s₁.heap = h0 := by rw [← hh, Bd.state]; rfl
  have N0 := Fr.nil n0
  have pre0 : ∀ t, Steps p.tables e below (s₁.setTop (mkF m 0 #[.val (.ref a1)] [])) t → Steps p.tables e below (s₁.setTop (entryFrame m #[(.ref a1)] 1)) t := fun t kq => castTop (ef_rm_coder m a1) kq
  obtain ⟨E_a, F_v, F_c, B_v, hch⟩ := id hS
  obtain ⟨S_c, hcst, S_f, hfm⟩ := id hT
  obtain ⟨T1, X1, e1, st1⟩ := getS2 X0 hx hZ hown (host := "") (Or.inl (own_q hw 37 rfl)) Via.refl e0 S_c (g := (mkF m 0 #[.val (.ref a1)] [])) rfl (hb hby d6_0)
  obtain ⟨T2, X2, e2, st2⟩ := getF X1 hx hZ hown (host := "") (Or.inl (own_q hw 22 rfl)) Via.refl e1 F_c (g := (mkF m 7 #[.val (.ref a1)] [(.ref a1)])) rfl rfl (hb hby d6_7)
  obtain ⟨fs, hr, hrun, hended, hW, hsame⟩ := X2.leave (v := some (.int (0 : Int32))) (fun h => by rw [Bd.returns] at h; cases h)
  refine ⟨_, _, pre0 _ ?_, hrun, hended, _, _, rfl, ?_, ⟨_, rfl⟩, hW, hsame.mono (by decide) (by decide)⟩
  · refine st1 _ ?_
    show Steps p.tables e below (T1.setTop (mkF m 3 #[.val (.ref a1)] [(.int cst)])) _
    refine XS.ifNo X1.here hx rfl (hb hby d6_3) rfl ((if0 _ _).trans (feq (hcst : ¬ (cst = (0 : Int32)))).1) ?_
    refine XS.aloadN X1.here hx rfl (hb hby d6_6) rfl rfl ?_
    refine st2 _ ?_
    show Steps p.tables e below (T2.setTop (mkF m 10 #[.val (.ref a1)] [(.int (0 : Int32))])) _
    refine XS.goto X2.here hx rfl (pc0 := 10) (pc' := 14) rfl (hb hby d6_10) (by decide) (by decide) ?_
    exact retN X2 hx (t := .byte) Bd.returns (by simp) (hb hby d6_14) hr
  · show own_Pure (some (.int 0)) h0 n0 _ T2.heap _
    rw [e2]
    exact ⟨rfl, N0, rfl⟩
theorem d5_0 : decode jdk_42_method_54_code 0 = .ok (.aload_n 0, 1) := by decide +kernel
theorem d5_1 : decode jdk_42_method_54_code 1 = .ok (.getfield 9, 3) := by decide +kernel
theorem d5_4 : decode jdk_42_method_54_code 4 = .ok (.arraylength, 1) := by decide +kernel
theorem d5_5 : decode jdk_42_method_54_code 5 = .ok (.aload_n 0, 1) := by decide +kernel
theorem pd_11 : parseMethodDescriptor "()B" = some ⟨[], some .byte⟩ := by decide +kernel
theorem d5_6 : decode jdk_42_method_54_code 6 = .ok (.invokevirtual 335, 3) := by decide +kernel
theorem d5_9 : decode jdk_42_method_54_code 9 = .ok (.ishr, 1) := by decide +kernel
theorem d5_10 : decode jdk_42_method_54_code 10 = .ok (.ireturn, 1) := by decide +kernel
theorem ef_rm_len (m : MethodId) (x0 : Addr) : entryFrame m #[(.ref x0)] 1 = mkF m 0 #[.val (.ref x0)] [] := by first | (simp [entryFrame, mkF, argsToLocals, Value.category]; done) | rfl
set_option maxRecDepth 65536 in
set_option maxHeartbeats 40000000 in
theorem rm_len (l : Launch) (Z : State) (a0 : Array Value) (hw : ∀ d ∈ tables_1, d.before a0 Z = true) (ws : List Jvm.Cond) (a1 : Addr) (h0 : Heap) (n0 : Nat) (Z0 : n0 ≤ h0.size) (vb : Addr) (kb : ClassId) (z : Int32) (ch : Nat → Int32) (cst : Int32) (fmt : Value) (hS : own_S Z h0 a1 vb kb z ch) (hT : own_T Z h0 cst fmt) :
    MetFree l (⟨"java/lang/String", "length", "()I"⟩ : MethodName) (head1 (Jvm.Cond.code (⟨"java/lang/String", "length", "()I"⟩ : MethodName) jdk_42_method_54_code 1 (some .int) :: ws) ({ frames := 1, cells := 0, slots := 0, locals := 13 } : Room)) (fun aQ UQ => aQ = #[(.ref a1)] ∧ Z.Warmed39 UQ.vm ∧ UQ.heap = h0) (fun _ _ _ _ _ => True) (fun _ UQ oQ UR => ∃ vQ LQ, oQ = .returned vQ ∧ own_Pure (some (.int z)) h0 n0 vQ UR.heap LQ ∧ FrameEnd UQ oQ UR LQ ({ frames := 1, cells := 0, slots := 0, locals := 13 } : Room).cells ({ frames := 1, cells := 0, slots := 0, locals := 13 } : Room).slots) := by
  refine MetFree.of_bodySF (plainFor_of_name pn_6) hisR ?_
  intro p e s m args below meth c s₁ Bd hml0 hP hK
  obtain ⟨rfl, hZ, hh⟩ := hP
  have hx := Bd.exec
  have hby := Bd.bytes
  have hml : c.maxLocals = 1 := hml0
  have hown : s.vm.findClass "java/lang/String" = some m.cls := findClass_of_methodNamed Bd.named
  have hnm := (name_of_methodNamed Bd.named Bd.method).1
  have X0 : Stand p l e ({ frames := 1, cells := 0, slots := 0, locals := 13 } : Room) s m #[(.ref a1)] below meth c s₁ [] 0 0 := Stand.of_body Bd
  have e0 : s₁.heap = h0 := by rw [← hh, Bd.state]; rfl
  have N0 := Fr.nil n0
  have pre0 : ∀ t, Steps p.tables e below (s₁.setTop (mkF m 0 #[.val (.ref a1)] [])) t → Steps p.tables e below (s₁.setTop (entryFrame m #[(.ref a1)] 1)) t := fun t kq => castTop (ef_rm_len m a1) kq
  obtain ⟨E_a, F_v, F_c, B_v, hch⟩ := id hS
  obtain ⟨S_c, hcst, S_f, hfm⟩ := id hT
  obtain ⟨T3, X3, e3, st3⟩ := getF X0 hx hZ hown (host := "") (Or.inl (own_q hw 21 rfl)) Via.refl e0 F_v (g := (mkF m 1 #[.val (.ref a1)] [(.ref a1)])) rfl rfl (hb hby d5_1)
  have Vc4 := B_v
  obtain ⟨cl4, Ar4, q4, S4, N4_, H4_, G4⟩ := Vc4
  obtain ⟨cq5, kq5, q5a, q5b, q5c⟩ := isOf hZ e3 (E_a)
  obtain ⟨_, _, ⟨T5, L5, k5, n5⟩, -, X5, ⟨Lc5, hQ5, l5, y5, z5⟩, st5⟩ := X3.virtualBack hx (y := (⟨"java/lang/String", "coder", "()B"⟩ : MethodName)) (z := (⟨"java/lang/String", "coder", "()B"⟩ : MethodName)) hown (mvT hZ (own_q hw 32 rfl)) (mvT hZ (own_q hw 33 rfl)) (notFace_of_selects (args := #[]) (mvT hZ (own_q hw 35 rfl))) (mvT hZ (own_q hw 35 rfl)) (mvT hZ (own_q hw 34 rfl)) (by decide) (backOf (W := 1) (rm_coder l Z a0 hw [] a1 h0 n0 Z0 vb kb z ch cst fmt hS hT) hZ (own_q hw 36 rfl) (own_q hw 4 rfl) (by decide) (by decide)) q5a q5c (g := (mkF m 6 #[.val (.ref a1)] [(.ref a1), (.int z)])) rfl (by rw [hml]; rfl) (Steps.refl _) (argsL := []) (rest := [(.int z)]) (lenOf pd_11 rfl) rfl (by show 2 * 0 + _ ≤ _; exact Nat.le_of_eq rfl) (hb hby d5_6) (fun _ _ => ⟨rfl, e3, (by decide : 0 + 0 ≤ _), (by decide : 0 + 0 ≤ _)⟩)
  dsimp only [Pt.U, Pt.locs, Pt.cells, Pt.slots] at X5 l5 y5 z5 st5 hQ5
  subst l5 y5 z5
  obtain ⟨rfl, N5q, e5⟩ := hQ5
  have N5 := Fr.app N0 N5q
  obtain ⟨fs, hr, hrun, hended, hW, hsame⟩ := X5.leave (v := some (.int z)) (fun h => by rw [Bd.returns] at h; cases h)
  refine ⟨_, _, pre0 _ ?_, hrun, hended, _, _, rfl, ?_, ⟨_, rfl⟩, hW, hsame.mono (by decide) (by decide)⟩
  · refine XS.aloadN X0.here hx rfl (hb hby d5_0) rfl rfl ?_
    refine st3 _ ?_
    show Steps p.tables e below (T3.setTop (mkF m 4 #[.val (.ref a1)] [(.ref vb)])) _
    refine X3.arraylength hx (by rw [e3]; exact Ar4.1) (State.isArrayOf_alike hZ.alike Ar4.2.1) (g := (mkF m 4 #[.val (.ref a1)] [(.ref vb)])) rfl rfl (hb hby d5_4) _ ?_
    rw [len_of S4 N4_]
    show Steps p.tables e below (T3.setTop (mkF m 5 #[.val (.ref a1)] [(.int z)])) _
    refine XS.aloadN X3.here hx rfl (hb hby d5_5) rfl rfl ?_
    refine st5.trans ?_
    show Steps p.tables e below (T5.setTop (mkF m 9 #[.val (.ref a1)] [(.int (0 : Int32)), (.int z)])) _
    refine XS.ishr X5.here hx rfl (hb hby d5_9) rfl ?_
    show Steps p.tables e below (T5.setTop (mkF m 10 #[.val (.ref a1)] [(.int (z >>> ((0 : Int32) &&& 31)))])) _
    rw [own_shr0]
    show Steps p.tables e below (T5.setTop (mkF m 10 #[.val (.ref a1)] [(.int z)])) _
    exact retOut X5 hx Bd.returns rfl (Or.inl ⟨rfl, Or.inl rfl, _, rfl⟩) (hb hby d5_10) hr
  · show own_Pure (some (.int z)) h0 n0 _ T5.heap _
    rw [e5]
    exact ⟨rfl, N5, rfl⟩
theorem d20_0 : decode jdk_42_method_154_code 0 = .ok (.getstatic 38, 3) := by decide +kernel
theorem d20_3 : decode jdk_42_method_154_code 3 = .ok (.ifCond .eq 14, 3) := by decide +kernel
theorem d20_6 : decode jdk_42_method_154_code 6 = .ok (.aload_n 0, 1) := by decide +kernel
theorem d20_7 : decode jdk_42_method_154_code 7 = .ok (.getfield 15, 3) := by decide +kernel
theorem d20_10 : decode jdk_42_method_154_code 10 = .ok (.ifCond .ne 7, 3) := by decide +kernel
theorem d20_13 : decode jdk_42_method_154_code 13 = .ok (.iconst 1, 1) := by decide +kernel
theorem d20_14 : decode jdk_42_method_154_code 14 = .ok (.goto 4, 3) := by decide +kernel
theorem d20_18 : decode jdk_42_method_154_code 18 = .ok (.ireturn, 1) := by decide +kernel
theorem ef_rm_isl (m : MethodId) (x0 : Addr) : entryFrame m #[(.ref x0)] 1 = mkF m 0 #[.val (.ref x0)] [] := by first | (simp [entryFrame, mkF, argsToLocals, Value.category]; done) | rfl
set_option maxRecDepth 65536 in
set_option maxHeartbeats 40000000 in
theorem rm_isl (l : Launch) (Z : State) (a0 : Array Value) (hw : ∀ d ∈ tables_1, d.before a0 Z = true) (ws : List Jvm.Cond) (a1 : Addr) (h0 : Heap) (n0 : Nat) (Z0 : n0 ≤ h0.size) (vb : Addr) (kb : ClassId) (z : Int32) (ch : Nat → Int32) (cst : Int32) (fmt : Value) (hS : own_S Z h0 a1 vb kb z ch) (hT : own_T Z h0 cst fmt) :
    MetFree l (⟨"java/lang/String", "isLatin1", "()Z"⟩ : MethodName) (head1 (Jvm.Cond.code (⟨"java/lang/String", "isLatin1", "()Z"⟩ : MethodName) jdk_42_method_154_code 1 (some .boolean) :: ws) ({ frames := 0, cells := 0, slots := 0, locals := 0 } : Room)) (fun aQ UQ => aQ = #[(.ref a1)] ∧ Z.Warmed39 UQ.vm ∧ UQ.heap = h0) (fun _ _ _ _ _ => True) (fun _ UQ oQ UR => ∃ vQ LQ, oQ = .returned vQ ∧ own_Pure (some (.int 1)) h0 n0 vQ UR.heap LQ ∧ FrameEnd UQ oQ UR LQ ({ frames := 0, cells := 0, slots := 0, locals := 0 } : Room).cells ({ frames := 0, cells := 0, slots := 0, locals := 0 } : Room).slots) := by
  refine MetFree.of_bodySF (plainFor_of_name pn_6) hisR ?_
  intro p e s m args below meth c s₁ Bd hml0 hP hK
  obtain ⟨rfl, hZ, hh⟩ := hP
  have hx := Bd.exec
  have hby := Bd.bytes
  have hml : c.maxLocals = 1 := hml0
  have hown : s.vm.findClass "java/lang/String" = some m.cls := findClass_of_methodNamed Bd.named
  have hnm := (name_of_methodNamed Bd.named Bd.method).1
  have X0 : Stand p l e ({ frames := 0, cells := 0, slots := 0, locals := 0 } : Room) s m #[(.ref a1)] below meth c s₁ [] 0 0 := Stand.of_body Bd
  have e0 : s₁.heap = h0 := by rw [← hh, Bd.state]; rfl
  have N0 := Fr.nil n0
  have pre0 : ∀ t, Steps p.tables e below (s₁.setTop (mkF m 0 #[.val (.ref a1)] [])) t → Steps p.tables e below (s₁.setTop (entryFrame m #[(.ref a1)] 1)) t := fun t kq => castTop (ef_rm_isl m a1) kq
  obtain ⟨E_a, F_v, F_c, B_v, hch⟩ := id hS
  obtain ⟨S_c, hcst, S_f, hfm⟩ := id hT
  obtain ⟨T6, X6, e6, st6⟩ := getS2 X0 hx hZ hown (host := "") (Or.inl (own_q hw 37 rfl)) Via.refl e0 S_c (g := (mkF m 0 #[.val (.ref a1)] [])) rfl (hb hby d20_0)
  obtain ⟨T7, X7, e7, st7⟩ := getF X6 hx hZ hown (host := "") (Or.inl (own_q hw 22 rfl)) Via.refl e6 F_c (g := (mkF m 7 #[.val (.ref a1)] [(.ref a1)])) rfl rfl (hb hby d20_7)
  obtain ⟨fs, hr, hrun, hended, hW, hsame⟩ := X7.leave (v := some (.int (1 : Int32))) (fun h => by rw [Bd.returns] at h; cases h)
  refine ⟨_, _, pre0 _ ?_, hrun, hended, _, _, rfl, ?_, ⟨_, rfl⟩, hW, hsame.mono (by decide) (by decide)⟩
  · refine st6 _ ?_
    show Steps p.tables e below (T6.setTop (mkF m 3 #[.val (.ref a1)] [(.int cst)])) _
    refine XS.ifNo X6.here hx rfl (hb hby d20_3) rfl ((if0 _ _).trans (feq (hcst : ¬ (cst = (0 : Int32)))).1) ?_
    refine XS.aloadN X6.here hx rfl (hb hby d20_6) rfl rfl ?_
    refine st7 _ ?_
    show Steps p.tables e below (T7.setTop (mkF m 10 #[.val (.ref a1)] [(.int (0 : Int32))])) _
    refine XS.ifNo X7.here hx rfl (hb hby d20_10) rfl ((if0 _ _).trans (teq (by decide : (0 : Int32) = (0 : Int32))).2) ?_
    refine XS.iconst X7.here hx rfl (hb hby d20_13) ?_
    refine XS.goto X7.here hx rfl (pc0 := 14) (pc' := 18) rfl (hb hby d20_14) (by decide) (by decide) ?_
    exact retN X7 hx (t := .boolean) Bd.returns (by simp) (hb hby d20_18) hr
  · show own_Pure (some (.int 1)) h0 n0 _ T7.heap _
    rw [e7]
    exact ⟨rfl, N0, rfl⟩
theorem d23_0 : decode jdk_41_method_11_code 0 = .ok (.iload_n 0, 1) := by decide +kernel
theorem d23_1 : decode jdk_41_method_11_code 1 = .ok (.ifCond .lt 8, 3) := by decide +kernel
theorem d23_4 : decode jdk_41_method_11_code 4 = .ok (.iload_n 0, 1) := by decide +kernel
theorem d23_5 : decode jdk_41_method_11_code 5 = .ok (.iload_n 1, 1) := by decide +kernel
theorem d23_6 : decode jdk_41_method_11_code 6 = .ok (.if_icmp .lt 10, 3) := by decide +kernel
theorem d23_16 : decode jdk_41_method_11_code 16 = .ok (.iload_n 0, 1) := by decide +kernel
theorem d23_17 : decode jdk_41_method_11_code 17 = .ok (.ireturn, 1) := by decide +kernel
theorem pn_30 : plainName "jdk/internal/util/Preconditions" = true := by first | (simp [plainName, overriddenIn]; done) | decide +kernel
theorem ef_rm_pciN (m : MethodId) (x0 : Int32) (x1 : Int32) : entryFrame m #[(.int x0), (.int x1), .null] 3 = mkF m 0 #[.val (.int x0), .val (.int x1), .val .null] [] := by first | (simp [entryFrame, mkF, argsToLocals, Value.category]; done) | rfl
set_option maxRecDepth 65536 in
set_option maxHeartbeats 40000000 in
theorem rm_pciN (l : Launch) (Z : State) (a0 : Array Value) (hw : ∀ d ∈ tables_1, d.before a0 Z = true) (ws : List Jvm.Cond) (i : Int32) (n : Int32) (h0 : Heap) (n0 : Nat) (Z0 : n0 ≤ h0.size) (hi0 : ¬ i < (0 : Int32)) (hin : i < n) :
    MetFree l (⟨"jdk/internal/util/Preconditions", "checkIndex", "(IILjava/util/function/BiFunction;)I"⟩ : MethodName) (head1 (Jvm.Cond.code (⟨"jdk/internal/util/Preconditions", "checkIndex", "(IILjava/util/function/BiFunction;)I"⟩ : MethodName) jdk_41_method_11_code 3 (some .int) :: ws) ({ frames := 0, cells := 0, slots := 0, locals := 0 } : Room)) (fun aQ UQ => aQ = #[(.int i), (.int n), .null] ∧ Z.Warmed39 UQ.vm ∧ UQ.heap = h0) (fun _ _ _ _ _ => True) (fun _ UQ oQ UR => ∃ vQ LQ, oQ = .returned vQ ∧ own_Pure (some (.int i)) h0 n0 vQ UR.heap LQ ∧ FrameEnd UQ oQ UR LQ ({ frames := 0, cells := 0, slots := 0, locals := 0 } : Room).cells ({ frames := 0, cells := 0, slots := 0, locals := 0 } : Room).slots) := by
  refine MetFree.of_bodySF (plainFor_of_name pn_30) hisR ?_
  intro p e s m args below meth c s₁ Bd hml0 hP hK
  obtain ⟨rfl, hZ, hh⟩ := hP
  have hx := Bd.exec
  have hby := Bd.bytes
  have hml : c.maxLocals = 3 := hml0
  have hown : s.vm.findClass "jdk/internal/util/Preconditions" = some m.cls := findClass_of_methodNamed Bd.named
  have hnm := (name_of_methodNamed Bd.named Bd.method).1
  have X0 : Stand p l e ({ frames := 0, cells := 0, slots := 0, locals := 0 } : Room) s m #[(.int i), (.int n), .null] below meth c s₁ [] 0 0 := Stand.of_body Bd
  have e0 : s₁.heap = h0 := by rw [← hh, Bd.state]; rfl
  have N0 := Fr.nil n0
  have pre0 : ∀ t, Steps p.tables e below (s₁.setTop (mkF m 0 #[.val (.int i), .val (.int n), .val .null] [])) t → Steps p.tables e below (s₁.setTop (entryFrame m #[(.int i), (.int n), .null] 3)) t := fun t kq => castTop (ef_rm_pciN m i n) kq
  obtain ⟨fs, hr, hrun, hended, hW, hsame⟩ := X0.leave (v := some (.int i)) (fun h => by rw [Bd.returns] at h; cases h)
  refine ⟨_, _, pre0 _ ?_, hrun, hended, _, _, rfl, ?_, ⟨_, rfl⟩, hW, hsame.mono (by decide) (by decide)⟩
  · refine XS.iloadN X0.here hx rfl (hb hby d23_0) rfl ?_
    refine XS.ifNo X0.here hx rfl (hb hby d23_1) rfl ((if0 _ _).trans (flt (hi0 : ¬ (i < (0 : Int32)))).1) ?_
    refine XS.iloadN X0.here hx rfl (hb hby d23_4) rfl ?_
    refine XS.iloadN X0.here hx rfl (hb hby d23_5) rfl ?_
    refine XS.icmpYes X0.here hx rfl (pc0 := 6) (pc' := 16) rfl (hb hby d23_6) rfl (tlt (hin : i < n)).1 (by decide) (by decide) ?_
    refine XS.iloadN X0.here hx rfl (hb hby d23_16) rfl ?_
    exact retOut X0 hx Bd.returns rfl (Or.inl ⟨rfl, Or.inl rfl, _, rfl⟩) (hb hby d23_17) hr
  · show own_Pure (some (.int i)) h0 n0 _ s₁.heap _
    rw [e0]
    exact ⟨rfl, N0, rfl⟩
theorem d22_0 : decode jdk_42_method_155_code 0 = .ok (.iload_n 0, 1) := by decide +kernel
theorem d22_1 : decode jdk_42_method_155_code 1 = .ok (.iload_n 1, 1) := by decide +kernel
theorem d22_2 : decode jdk_42_method_155_code 2 = .ok (.getstatic 1053, 3) := by decide +kernel
theorem pd_34 : parseMethodDescriptor "(IILjava/util/function/BiFunction;)I" = some ⟨[.int, .int, (.object "java/util/function/BiFunction")], some .int⟩ := by decide +kernel
theorem d22_5 : decode jdk_42_method_155_code 5 = .ok (.invokestatic 1059, 3) := by decide +kernel
theorem d22_8 : decode jdk_42_method_155_code 8 = .ok (.pop, 1) := by decide +kernel
theorem d22_9 : decode jdk_42_method_155_code 9 = .ok (.return_, 1) := by decide +kernel
theorem ef_rm_sciN (m : MethodId) (x0 : Int32) (x1 : Int32) : entryFrame m #[(.int x0), (.int x1)] 2 = mkF m 0 #[.val (.int x0), .val (.int x1)] [] := by first | (simp [entryFrame, mkF, argsToLocals, Value.category]; done) | rfl
set_option maxRecDepth 65536 in
set_option maxHeartbeats 40000000 in
theorem rm_sciN (l : Launch) (Z : State) (a0 : Array Value) (hw : ∀ d ∈ tables_1, d.before a0 Z = true) (ws : List Jvm.Cond) (i : Int32) (n : Int32) (h0 : Heap) (n0 : Nat) (Z0 : n0 ≤ h0.size) (hi0 : ¬ i < (0 : Int32)) (hin : i < n) (S_f : Sta Z h0 "jdk/internal/util/Preconditions" "SIOOBE_FORMATTER" "Ljava/util/function/BiFunction;" .null) :
    MetFree l (⟨"java/lang/String", "checkIndex", "(II)V"⟩ : MethodName) (head1 (Jvm.Cond.code (⟨"java/lang/String", "checkIndex", "(II)V"⟩ : MethodName) jdk_42_method_155_code 2 none :: ws) ({ frames := 1, cells := 0, slots := 0, locals := 14 } : Room)) (fun aQ UQ => aQ = #[(.int i), (.int n)] ∧ Z.Warmed39 UQ.vm ∧ UQ.heap = h0) (fun _ _ _ _ _ => True) (fun _ UQ oQ UR => ∃ vQ LQ, oQ = .returned vQ ∧ own_Pure none h0 n0 vQ UR.heap LQ ∧ FrameEnd UQ oQ UR LQ ({ frames := 1, cells := 0, slots := 0, locals := 14 } : Room).cells ({ frames := 1, cells := 0, slots := 0, locals := 14 } : Room).slots) := by
  refine MetFree.of_bodySF (plainFor_of_name pn_6) hisR ?_
  intro p e s m args below meth c s₁ Bd hml0 hP hK
  obtain ⟨rfl, hZ, hh⟩ := hP
  have hx := Bd.exec
  have hby := Bd.bytes
  have hml : c.maxLocals = 2 := hml0
  have hown : s.vm.findClass "java/lang/String" = some m.cls := findClass_of_methodNamed Bd.named
  have hnm := (name_of_methodNamed Bd.named Bd.method).1
  have X0 : Stand p l e ({ frames := 1, cells := 0, slots := 0, locals := 14 } : Room) s m #[(.int i), (.int n)] below meth c s₁ [] 0 0 := Stand.of_body Bd
  have e0 : s₁.heap = h0 := by rw [← hh, Bd.state]; rfl
  have N0 := Fr.nil n0
  have pre0 : ∀ t, Steps p.tables e below (s₁.setTop (mkF m 0 #[.val (.int i), .val (.int n)] [])) t → Steps p.tables e below (s₁.setTop (entryFrame m #[(.int i), (.int n)] 2)) t := fun t kq => castTop (ef_rm_sciN m i n) kq
  obtain ⟨T8, X8, e8, st8⟩ := getS2 X0 hx hZ hown (host := "") (Or.inl (own_q hw 117 rfl)) Via.refl e0 S_f (g := (mkF m 2 #[.val (.int i), .val (.int n)] [(.int n), (.int i)])) rfl (hb hby d22_2)
  obtain ⟨_, _, ⟨T9, L9, k9, n9⟩, -, X9, ⟨Lc9, hQ9, l9, y9, z9⟩, st9⟩ := Jvm.LawKit.callS X8 hx (y := (⟨"jdk/internal/util/Preconditions", "checkIndex", "(IILjava/util/function/BiFunction;)I"⟩ : MethodName)) hown (mvT hZ (own_q hw 119 rfl)) (mvT hZ (own_q hw 120 rfl)) (mvT hZ (own_q hw 118 rfl)) (mvT hZ (own_q hw 121 rfl)) (by decide) (backOf (W := 0) (rm_pciN l Z a0 hw [] i n h0 n0 Z0 hi0 hin) hZ (own_q hw 121 rfl) (own_q hw 118 rfl) (by decide) (by decide)) (g := (mkF m 5 #[.val (.int i), .val (.int n)] [.null, (.int n), (.int i)])) rfl (by rw [hml]; rfl) (argsL := [(.int i), (.int n), .null]) (rest := []) (lenOf pd_34 rfl) rfl (by show 2 * 0 + _ ≤ _; exact Nat.le_of_eq rfl) (hb hby d22_5) (fun _ _ => ⟨rfl, e8, (by decide : 0 + 0 ≤ _), (by decide : 0 + 0 ≤ _)⟩)
  dsimp only [Pt.U, Pt.locs, Pt.cells, Pt.slots] at X9 l9 y9 z9 st9 hQ9
  subst l9 y9 z9
  obtain ⟨rfl, N9q, e9⟩ := hQ9
  have N9 := Fr.app N0 N9q
  obtain ⟨fs, hr, hrun, hended, hW, hsame⟩ := X9.leave (v := none) (fun _ => rfl)
  refine ⟨_, _, pre0 _ ?_, hrun, hended, _, _, rfl, ?_, ⟨_, rfl⟩, hW, hsame.mono (by decide) (by decide)⟩
  · refine XS.iloadN X0.here hx rfl (hb hby d22_0) rfl ?_
    refine XS.iloadN X0.here hx rfl (hb hby d22_1) rfl ?_
    refine st8 _ ?_
    show Steps p.tables e below (T8.setTop (mkF m 5 #[.val (.int i), .val (.int n)] [.null, (.int n), (.int i)])) _
    refine st9 _ ?_
    show Steps p.tables e below (T9.setTop (mkF m 8 #[.val (.int i), .val (.int n)] [(.int i)])) _
    refine XS.pop X9.here hx rfl (hb hby d22_8) rfl rfl ?_
    exact X9.returnOut hx Bd.returns (hb hby d22_9) hr
  · show own_Pure none h0 n0 _ T9.heap _
    rw [e9]
    exact ⟨rfl, N9, rfl⟩
theorem ef_rm_pciR (m : MethodId) (x0 : Int32) (x1 : Int32) (x2 : Addr) : entryFrame m #[(.int x0), (.int x1), (.ref x2)] 3 = mkF m 0 #[.val (.int x0), .val (.int x1), .val (.ref x2)] [] := by first | (simp [entryFrame, mkF, argsToLocals, Value.category]; done) | rfl
set_option maxRecDepth 65536 in
set_option maxHeartbeats 40000000 in
theorem rm_pciR (l : Launch) (Z : State) (a0 : Array Value) (hw : ∀ d ∈ tables_1, d.before a0 Z = true) (ws : List Jvm.Cond) (i : Int32) (n : Int32) (fa : Addr) (h0 : Heap) (n0 : Nat) (Z0 : n0 ≤ h0.size) (hi0 : ¬ i < (0 : Int32)) (hin : i < n) :
    MetFree l (⟨"jdk/internal/util/Preconditions", "checkIndex", "(IILjava/util/function/BiFunction;)I"⟩ : MethodName) (head1 (Jvm.Cond.code (⟨"jdk/internal/util/Preconditions", "checkIndex", "(IILjava/util/function/BiFunction;)I"⟩ : MethodName) jdk_41_method_11_code 3 (some .int) :: ws) ({ frames := 0, cells := 0, slots := 0, locals := 0 } : Room)) (fun aQ UQ => aQ = #[(.int i), (.int n), (.ref fa)] ∧ Z.Warmed39 UQ.vm ∧ UQ.heap = h0) (fun _ _ _ _ _ => True) (fun _ UQ oQ UR => ∃ vQ LQ, oQ = .returned vQ ∧ own_Pure (some (.int i)) h0 n0 vQ UR.heap LQ ∧ FrameEnd UQ oQ UR LQ ({ frames := 0, cells := 0, slots := 0, locals := 0 } : Room).cells ({ frames := 0, cells := 0, slots := 0, locals := 0 } : Room).slots) := by
  refine MetFree.of_bodySF (plainFor_of_name pn_30) hisR ?_
  intro p e s m args below meth c s₁ Bd hml0 hP hK
  obtain ⟨rfl, hZ, hh⟩ := hP
  have hx := Bd.exec
  have hby := Bd.bytes
  have hml : c.maxLocals = 3 := hml0
  have hown : s.vm.findClass "jdk/internal/util/Preconditions" = some m.cls := findClass_of_methodNamed Bd.named
  have hnm := (name_of_methodNamed Bd.named Bd.method).1
  have X0 : Stand p l e ({ frames := 0, cells := 0, slots := 0, locals := 0 } : Room) s m #[(.int i), (.int n), (.ref fa)] below meth c s₁ [] 0 0 := Stand.of_body Bd
  have e0 : s₁.heap = h0 := by rw [← hh, Bd.state]; rfl
  have N0 := Fr.nil n0
  have pre0 : ∀ t, Steps p.tables e below (s₁.setTop (mkF m 0 #[.val (.int i), .val (.int n), .val (.ref fa)] [])) t → Steps p.tables e below (s₁.setTop (entryFrame m #[(.int i), (.int n), (.ref fa)] 3)) t := fun t kq => castTop (ef_rm_pciR m i n fa) kq
  obtain ⟨fs, hr, hrun, hended, hW, hsame⟩ := X0.leave (v := some (.int i)) (fun h => by rw [Bd.returns] at h; cases h)
  refine ⟨_, _, pre0 _ ?_, hrun, hended, _, _, rfl, ?_, ⟨_, rfl⟩, hW, hsame.mono (by decide) (by decide)⟩
  · refine XS.iloadN X0.here hx rfl (hb hby d23_0) rfl ?_
    refine XS.ifNo X0.here hx rfl (hb hby d23_1) rfl ((if0 _ _).trans (flt (hi0 : ¬ (i < (0 : Int32)))).1) ?_
    refine XS.iloadN X0.here hx rfl (hb hby d23_4) rfl ?_
    refine XS.iloadN X0.here hx rfl (hb hby d23_5) rfl ?_
    refine XS.icmpYes X0.here hx rfl (pc0 := 6) (pc' := 16) rfl (hb hby d23_6) rfl (tlt (hin : i < n)).1 (by decide) (by decide) ?_
    refine XS.iloadN X0.here hx rfl (hb hby d23_16) rfl ?_
    exact retOut X0 hx Bd.returns rfl (Or.inl ⟨rfl, Or.inl rfl, _, rfl⟩) (hb hby d23_17) hr
  · show own_Pure (some (.int i)) h0 n0 _ s₁.heap _
    rw [e0]
    exact ⟨rfl, N0, rfl⟩
theorem ef_rm_sciR (m : MethodId) (x0 : Int32) (x1 : Int32) : entryFrame m #[(.int x0), (.int x1)] 2 = mkF m 0 #[.val (.int x0), .val (.int x1)] [] := by first | (simp [entryFrame, mkF, argsToLocals, Value.category]; done) | rfl
set_option maxRecDepth 65536 in
set_option maxHeartbeats 40000000 in
theorem rm_sciR (l : Launch) (Z : State) (a0 : Array Value) (hw : ∀ d ∈ tables_1, d.before a0 Z = true) (ws : List Jvm.Cond) (i : Int32) (n : Int32) (h0 : Heap) (n0 : Nat) (Z0 : n0 ≤ h0.size) (fa : Addr) (hi0 : ¬ i < (0 : Int32)) (hin : i < n) (S_f : Sta Z h0 "jdk/internal/util/Preconditions" "SIOOBE_FORMATTER" "Ljava/util/function/BiFunction;" (.ref fa)) :
    MetFree l (⟨"java/lang/String", "checkIndex", "(II)V"⟩ : MethodName) (head1 (Jvm.Cond.code (⟨"java/lang/String", "checkIndex", "(II)V"⟩ : MethodName) jdk_42_method_155_code 2 none :: ws) ({ frames := 1, cells := 0, slots := 0, locals := 14 } : Room)) (fun aQ UQ => aQ = #[(.int i), (.int n)] ∧ Z.Warmed39 UQ.vm ∧ UQ.heap = h0) (fun _ _ _ _ _ => True) (fun _ UQ oQ UR => ∃ vQ LQ, oQ = .returned vQ ∧ own_Pure none h0 n0 vQ UR.heap LQ ∧ FrameEnd UQ oQ UR LQ ({ frames := 1, cells := 0, slots := 0, locals := 14 } : Room).cells ({ frames := 1, cells := 0, slots := 0, locals := 14 } : Room).slots) := by
  refine MetFree.of_bodySF (plainFor_of_name pn_6) hisR ?_
  intro p e s m args below meth c s₁ Bd hml0 hP hK
  obtain ⟨rfl, hZ, hh⟩ := hP
  have hx := Bd.exec
  have hby := Bd.bytes
  have hml : c.maxLocals = 2 := hml0
  have hown : s.vm.findClass "java/lang/String" = some m.cls := findClass_of_methodNamed Bd.named
  have hnm := (name_of_methodNamed Bd.named Bd.method).1
  have X0 : Stand p l e ({ frames := 1, cells := 0, slots := 0, locals := 14 } : Room) s m #[(.int i), (.int n)] below meth c s₁ [] 0 0 := Stand.of_body Bd
  have e0 : s₁.heap = h0 := by rw [← hh, Bd.state]; rfl
  have N0 := Fr.nil n0
  have pre0 : ∀ t, Steps p.tables e below (s₁.setTop (mkF m 0 #[.val (.int i), .val (.int n)] [])) t → Steps p.tables e below (s₁.setTop (entryFrame m #[(.int i), (.int n)] 2)) t := fun t kq => castTop (ef_rm_sciR m i n) kq
  obtain ⟨T10, X10, e10, st10⟩ := getS2 X0 hx hZ hown (host := "") (Or.inl (own_q hw 117 rfl)) Via.refl e0 S_f (g := (mkF m 2 #[.val (.int i), .val (.int n)] [(.int n), (.int i)])) rfl (hb hby d22_2)
  obtain ⟨_, _, ⟨T11, L11, k11, n11⟩, -, X11, ⟨Lc11, hQ11, l11, y11, z11⟩, st11⟩ := Jvm.LawKit.callS X10 hx (y := (⟨"jdk/internal/util/Preconditions", "checkIndex", "(IILjava/util/function/BiFunction;)I"⟩ : MethodName)) hown (mvT hZ (own_q hw 119 rfl)) (mvT hZ (own_q hw 120 rfl)) (mvT hZ (own_q hw 118 rfl)) (mvT hZ (own_q hw 121 rfl)) (by decide) (backOf (W := 0) (rm_pciR l Z a0 hw [] i n fa h0 n0 Z0 hi0 hin) hZ (own_q hw 121 rfl) (own_q hw 118 rfl) (by decide) (by decide)) (g := (mkF m 5 #[.val (.int i), .val (.int n)] [(.ref fa), (.int n), (.int i)])) rfl (by rw [hml]; rfl) (argsL := [(.int i), (.int n), (.ref fa)]) (rest := []) (lenOf pd_34 rfl) rfl (by show 2 * 0 + _ ≤ _; exact Nat.le_of_eq rfl) (hb hby d22_5) (fun _ _ => ⟨rfl, e10, (by decide : 0 + 0 ≤ _), (by decide : 0 + 0 ≤ _)⟩)
  dsimp only [Pt.U, Pt.locs, Pt.cells, Pt.slots] at X11 l11 y11 z11 st11 hQ11
  subst l11 y11 z11
  obtain ⟨rfl, N11q, e11⟩ := hQ11
  have N11 := Fr.app N0 N11q
  obtain ⟨fs, hr, hrun, hended, hW, hsame⟩ := X11.leave (v := none) (fun _ => rfl)
  refine ⟨_, _, pre0 _ ?_, hrun, hended, _, _, rfl, ?_, ⟨_, rfl⟩, hW, hsame.mono (by decide) (by decide)⟩
  · refine XS.iloadN X0.here hx rfl (hb hby d22_0) rfl ?_
    refine XS.iloadN X0.here hx rfl (hb hby d22_1) rfl ?_
    refine st10 _ ?_
    show Steps p.tables e below (T10.setTop (mkF m 5 #[.val (.int i), .val (.int n)] [(.ref fa), (.int n), (.int i)])) _
    refine st11 _ ?_
    show Steps p.tables e below (T11.setTop (mkF m 8 #[.val (.int i), .val (.int n)] [(.int i)])) _
    refine XS.pop X11.here hx rfl (hb hby d22_8) rfl rfl ?_
    exact X11.returnOut hx Bd.returns (hb hby d22_9) hr
  · show own_Pure none h0 n0 _ T11.heap _
    rw [e11]
    exact ⟨rfl, N11, rfl⟩
theorem rm_sci (l : Launch) (Z : State) (a0 : Array Value) (hw : ∀ d ∈ tables_1, d.before a0 Z = true) (ws : List Jvm.Cond) (i : Int32) (n : Int32) (h0 : Heap) (n0 : Nat) (Z0 : n0 ≤ h0.size) (hi0 : ¬ i < (0 : Int32)) (hin : i < n) (fmt : Value) (hfm : fmt = .null ∨ ∃ a : Addr, fmt = .ref a) (S_f : Sta Z h0 "jdk/internal/util/Preconditions" "SIOOBE_FORMATTER" "Ljava/util/function/BiFunction;" fmt) :
    MetFree l (⟨"java/lang/String", "checkIndex", "(II)V"⟩ : MethodName) (head1 (Jvm.Cond.code (⟨"java/lang/String", "checkIndex", "(II)V"⟩ : MethodName) jdk_42_method_155_code 2 none :: ws) ({ frames := 1, cells := 0, slots := 0, locals := 14 } : Room)) (fun aQ UQ => aQ = #[(.int i), (.int n)] ∧ Z.Warmed39 UQ.vm ∧ UQ.heap = h0) (fun _ _ _ _ _ => True) (fun _ UQ oQ UR => ∃ vQ LQ, oQ = .returned vQ ∧ own_Pure none h0 n0 vQ UR.heap LQ ∧ FrameEnd UQ oQ UR LQ ({ frames := 1, cells := 0, slots := 0, locals := 14 } : Room).cells ({ frames := 1, cells := 0, slots := 0, locals := 14 } : Room).slots) := by
  rcases hfm with rfl | ⟨fa, rfl⟩
  · exact rm_sciN l Z a0 hw ws i n h0 n0 Z0 hi0 hin S_f
  · exact rm_sciR l Z a0 hw ws i n h0 n0 Z0 fa hi0 hin S_f
theorem d21_0 : decode jdk_43_method_2_code 0 = .ok (.iload_n 1, 1) := by decide +kernel
theorem d21_1 : decode jdk_43_method_2_code 1 = .ok (.aload_n 0, 1) := by decide +kernel
theorem d21_2 : decode jdk_43_method_2_code 2 = .ok (.arraylength, 1) := by decide +kernel
theorem pd_41 : parseMethodDescriptor "(II)V" = some ⟨[.int, .int], none⟩ := by decide +kernel
theorem d21_3 : decode jdk_43_method_2_code 3 = .ok (.invokestatic 9, 3) := by decide +kernel
theorem d21_6 : decode jdk_43_method_2_code 6 = .ok (.aload_n 0, 1) := by decide +kernel
theorem d21_7 : decode jdk_43_method_2_code 7 = .ok (.iload_n 1, 1) := by decide +kernel
theorem d21_8 : decode jdk_43_method_2_code 8 = .ok (.baload, 1) := by decide +kernel
theorem d21_9 : decode jdk_43_method_2_code 9 = .ok (.sipush 255, 3) := by decide +kernel
theorem d21_12 : decode jdk_43_method_2_code 12 = .ok (.iand, 1) := by decide +kernel
theorem d21_13 : decode jdk_43_method_2_code 13 = .ok (.i2c, 1) := by decide +kernel
theorem d21_14 : decode jdk_43_method_2_code 14 = .ok (.ireturn, 1) := by decide +kernel
theorem pn_50 : plainName "java/lang/StringLatin1" = true := by first | (simp [plainName, overriddenIn]; done) | decide +kernel
theorem ef_rm_lch (m : MethodId) (x0 : Addr) (x1 : Int32) : entryFrame m #[(.ref x0), (.int x1)] 2 = mkF m 0 #[.val (.ref x0), .val (.int x1)] [] := by first | (simp [entryFrame, mkF, argsToLocals, Value.category]; done) | rfl
set_option maxRecDepth 65536 in
set_option maxHeartbeats 40000000 in
theorem rm_lch (l : Launch) (Z : State) (a0 : Array Value) (hw : ∀ d ∈ tables_1, d.before a0 Z = true) (ws : List Jvm.Cond) (vb : Addr) (j : Int32) (h0 : Heap) (n0 : Nat) (Z0 : n0 ≤ h0.size) (kb : ClassId) (z : Int32) (ch : Nat → Int32) (cst : Int32) (fmt : Value) (B_v : own_FB Z h0 vb kb z (fun i => (ch i).toInt8.toInt32)) (hch : ∀ i, 0 ≤ (ch i).toInt ∧ (ch i).toInt ≤ 255) (hT : own_T Z h0 cst fmt) (hj0 : ¬ j < (0 : Int32)) (hjz : j < z) :
    MetFree l (⟨"java/lang/StringLatin1", "charAt", "([BI)C"⟩ : MethodName) (head1 (Jvm.Cond.code (⟨"java/lang/StringLatin1", "charAt", "([BI)C"⟩ : MethodName) jdk_43_method_2_code 2 (some .char) :: ws) ({ frames := 2, cells := 0, slots := 0, locals := 27 } : Room)) (fun aQ UQ => aQ = #[(.ref vb), (.int j)] ∧ Z.Warmed39 UQ.vm ∧ UQ.heap = h0) (fun _ _ _ _ _ => True) (fun _ UQ oQ UR => ∃ vQ LQ, oQ = .returned vQ ∧ own_Pure (some (.int (ch j.toNatClampNeg))) h0 n0 vQ UR.heap LQ ∧ FrameEnd UQ oQ UR LQ ({ frames := 2, cells := 0, slots := 0, locals := 27 } : Room).cells ({ frames := 2, cells := 0, slots := 0, locals := 27 } : Room).slots) := by
  refine MetFree.of_bodySF (plainFor_of_name pn_50) hisR ?_
  intro p e s m args below meth c s₁ Bd hml0 hP hK
  obtain ⟨rfl, hZ, hh⟩ := hP
  have hx := Bd.exec
  have hby := Bd.bytes
  have hml : c.maxLocals = 2 := hml0
  have hown : s.vm.findClass "java/lang/StringLatin1" = some m.cls := findClass_of_methodNamed Bd.named
  have hnm := (name_of_methodNamed Bd.named Bd.method).1
  have X0 : Stand p l e ({ frames := 2, cells := 0, slots := 0, locals := 27 } : Room) s m #[(.ref vb), (.int j)] below meth c s₁ [] 0 0 := Stand.of_body Bd
  have e0 : s₁.heap = h0 := by rw [← hh, Bd.state]; rfl
  have N0 := Fr.nil n0
  have pre0 : ∀ t, Steps p.tables e below (s₁.setTop (mkF m 0 #[.val (.ref vb), .val (.int j)] [])) t → Steps p.tables e below (s₁.setTop (entryFrame m #[(.ref vb), (.int j)] 2)) t := fun t kq => castTop (ef_rm_lch m vb j) kq
  obtain ⟨S_c, hcst, S_f, hfm⟩ := id hT
  have Vc12 := B_v
  obtain ⟨cl12, Ar12, q12, S12, N12_, H12_, G12⟩ := Vc12
  obtain ⟨_, _, ⟨T13, L13, k13, n13⟩, -, X13, ⟨Lc13, hQ13, l13, y13, z13⟩, st13⟩ := Jvm.LawKit.callS X0 hx (y := (⟨"java/lang/String", "checkIndex", "(II)V"⟩ : MethodName)) hown (mvT hZ (own_q hw 114 rfl)) (mvT hZ (own_q hw 115 rfl)) (mvT hZ (own_q hw 4 rfl)) (mvT hZ (own_q hw 116 rfl)) (by decide) (backOf (W := 0) (rm_sci l Z a0 hw [] j z h0 n0 Z0 hj0 hjz fmt hfm S_f) hZ (own_q hw 116 rfl) (own_q hw 4 rfl) (by decide) (by decide)) (g := (mkF m 3 #[.val (.ref vb), .val (.int j)] [(.int z), (.int j)])) rfl (by rw [hml]; rfl) (argsL := [(.int j), (.int z)]) (rest := []) (lenOf pd_41 rfl) rfl (by show 2 * 0 + _ ≤ _; exact Nat.le_of_eq rfl) (hb hby d21_3) (fun _ _ => ⟨rfl, e0, (by decide : 0 + 0 ≤ _), (by decide : 0 + 0 ≤ _)⟩)
  dsimp only [Pt.U, Pt.locs, Pt.cells, Pt.slots] at X13 l13 y13 z13 st13 hQ13
  subst l13 y13 z13
  obtain ⟨rfl, N13q, e13⟩ := hQ13
  have N13 := Fr.app N0 N13q
  have Vc14 := B_v
  obtain ⟨cl14, Ar14, q14, S14, N14_, H14_, G14⟩ := Vc14
  have hin14 : ¬ (j < 0 ∨ cl14.slots.size ≤ (j).toNatClampNeg) := inb_of S14 ⟨hj0, hjz⟩
  obtain ⟨fs, hr, hrun, hended, hW, hsame⟩ := X13.leave (v := some (.int (nar .char (ch j.toNatClampNeg)))) (fun h => by rw [Bd.returns] at h; cases h)
  refine ⟨_, _, pre0 _ ?_, hrun, hended, _, _, rfl, ?_, ⟨_, rfl⟩, hW, hsame.mono (by decide) (by decide)⟩
  · refine XS.iloadN X0.here hx rfl (hb hby d21_0) rfl ?_
    refine XS.aloadN X0.here hx rfl (hb hby d21_1) rfl rfl ?_
    refine X0.arraylength hx (by rw [e0]; exact Ar12.1) (State.isArrayOf_alike hZ.alike Ar12.2.1) (g := (mkF m 2 #[.val (.ref vb), .val (.int j)] [(.ref vb), (.int j)])) rfl rfl (hb hby d21_2) _ ?_
    rw [len_of S12 N12_]
    show Steps p.tables e below (s₁.setTop (mkF m 3 #[.val (.ref vb), .val (.int j)] [(.int z), (.int j)])) _
    refine st13 _ ?_
    show Steps p.tables e below (T13.setTop (mkF m 6 #[.val (.ref vb), .val (.int j)] [])) _
    refine XS.aloadN X13.here hx rfl (hb hby d21_6) rfl rfl ?_
    refine XS.iloadN X13.here hx rfl (hb hby d21_7) rfl ?_
    refine X13.baloadBytes hx (j := j) (v := (.int ((fun i => (ch i).toInt8.toInt32) (j).toNatClampNeg))) (by rw [e13]; exact Ar14.1) (State.isArrayOf_alike hZ.alike Ar14.2.1) Ar14.2.2 hin14 (own_FB.at H14_ hin14) (g := (mkF m 8 #[.val (.ref vb), .val (.int j)] [(.int j), (.ref vb)])) rfl rfl (hb hby d21_8) _ ?_
    show Steps p.tables e below (T13.setTop (mkF m 9 #[.val (.ref vb), .val (.int j)] [(.int ((fun i => (ch i).toInt8.toInt32) (j).toNatClampNeg))])) _
    refine XS.sipush X13.here hx rfl (hb hby d21_9) ?_
    refine XS.iand X13.here hx rfl (hb hby d21_12) rfl ?_
    refine XS.i2c X13.here hx rfl (hb hby d21_13) rfl ?_
    show Steps p.tables e below (T13.setTop (mkF m 14 #[.val (.ref vb), .val (.int j)] [(.int ((((fun i => (ch i).toInt8.toInt32) (j).toNatClampNeg) &&& (255 : Int32)).toUInt32.toUInt16.toUInt32.toInt32))])) _
    rw [(own_chr (hch j.toNatClampNeg) : ((((fun i => (ch i).toInt8.toInt32) (j).toNatClampNeg) &&& (255 : Int32)).toUInt32.toUInt16.toUInt32.toInt32) = ch j.toNatClampNeg)]
    show Steps p.tables e below (T13.setTop (mkF m 14 #[.val (.ref vb), .val (.int j)] [(.int (ch j.toNatClampNeg))])) _
    exact retN X13 hx (t := .char) Bd.returns (by simp) (hb hby d21_14) hr
  · show own_Pure (some (.int (ch j.toNatClampNeg))) h0 n0 _ T13.heap _
    rw [e13]
    exact ⟨by rw [own_narC (hch _)], N13, rfl⟩
theorem d19_0 : decode jdk_42_method_56_code 0 = .ok (.aload_n 0, 1) := by decide +kernel
theorem pd_52 : parseMethodDescriptor "()Z" = some ⟨[], some .boolean⟩ := by decide +kernel
theorem d19_1 : decode jdk_42_method_56_code 1 = .ok (.invokevirtual 492, 3) := by decide +kernel
theorem d19_4 : decode jdk_42_method_56_code 4 = .ok (.ifCond .eq 12, 3) := by decide +kernel
theorem d19_7 : decode jdk_42_method_56_code 7 = .ok (.aload_n 0, 1) := by decide +kernel
theorem d19_8 : decode jdk_42_method_56_code 8 = .ok (.getfield 9, 3) := by decide +kernel
theorem d19_11 : decode jdk_42_method_56_code 11 = .ok (.iload_n 1, 1) := by decide +kernel
theorem pd_58 : parseMethodDescriptor "([BI)C" = some ⟨[(.array .byte), .int], some .char⟩ := by decide +kernel
theorem d19_12 : decode jdk_42_method_56_code 12 = .ok (.invokestatic 495, 3) := by decide +kernel
theorem d19_15 : decode jdk_42_method_56_code 15 = .ok (.ireturn, 1) := by decide +kernel
theorem ef_rm_ch (m : MethodId) (x0 : Addr) (x1 : Int32) : entryFrame m #[(.ref x0), (.int x1)] 2 = mkF m 0 #[.val (.ref x0), .val (.int x1)] [] := by first | (simp [entryFrame, mkF, argsToLocals, Value.category]; done) | rfl
set_option maxRecDepth 65536 in
set_option maxHeartbeats 40000000 in
theorem rm_ch (l : Launch) (Z : State) (a0 : Array Value) (hw : ∀ d ∈ tables_1, d.before a0 Z = true) (ws : List Jvm.Cond) (a1 : Addr) (j : Int32) (h0 : Heap) (n0 : Nat) (Z0 : n0 ≤ h0.size) (vb : Addr) (kb : ClassId) (z : Int32) (ch : Nat → Int32) (cst : Int32) (fmt : Value) (hS : own_S Z h0 a1 vb kb z ch) (hT : own_T Z h0 cst fmt) (hj0 : ¬ j < (0 : Int32)) (hjz : j < z) :
    MetFree l (⟨"java/lang/String", "charAt", "(I)C"⟩ : MethodName) (head1 (Jvm.Cond.code (⟨"java/lang/String", "charAt", "(I)C"⟩ : MethodName) jdk_42_method_56_code 2 (some .char) :: ws) ({ frames := 3, cells := 0, slots := 0, locals := 40 } : Room)) (fun aQ UQ => aQ = #[(.ref a1), (.int j)] ∧ Z.Warmed39 UQ.vm ∧ UQ.heap = h0) (fun _ _ _ _ _ => True) (fun _ UQ oQ UR => ∃ vQ LQ, oQ = .returned vQ ∧ own_Pure (some (.int (ch j.toNatClampNeg))) h0 n0 vQ UR.heap LQ ∧ FrameEnd UQ oQ UR LQ ({ frames := 3, cells := 0, slots := 0, locals := 40 } : Room).cells ({ frames := 3, cells := 0, slots := 0, locals := 40 } : Room).slots) := by
  refine MetFree.of_bodySF (plainFor_of_name pn_6) hisR ?_
  intro p e s m args below meth c s₁ Bd hml0 hP hK
  obtain ⟨rfl, hZ, hh⟩ := hP
  have hx := Bd.exec
  have hby := Bd.bytes
  have hml : c.maxLocals = 2 := hml0
  have hown : s.vm.findClass "java/lang/String" = some m.cls := findClass_of_methodNamed Bd.named
  have hnm := (name_of_methodNamed Bd.named Bd.method).1
  have X0 : Stand p l e ({ frames := 3, cells := 0, slots := 0, locals := 40 } : Room) s m #[(.ref a1), (.int j)] below meth c s₁ [] 0 0 := Stand.of_body Bd
  have e0 : s₁.heap = h0 := by rw [← hh, Bd.state]; rfl
  have N0 := Fr.nil n0
  have pre0 : ∀ t, Steps p.tables e below (s₁.setTop (mkF m 0 #[.val (.ref a1), .val (.int j)] [])) t → Steps p.tables e below (s₁.setTop (entryFrame m #[(.ref a1), (.int j)] 2)) t := fun t kq => castTop (ef_rm_ch m a1 j) kq
  obtain ⟨E_a, F_v, F_c, B_v, hch⟩ := id hS
  obtain ⟨S_c, hcst, S_f, hfm⟩ := id hT
  obtain ⟨cq15, kq15, q15a, q15b, q15c⟩ := isOf hZ e0 (E_a)
  obtain ⟨_, _, ⟨T15, L15, k15, n15⟩, -, X15, ⟨Lc15, hQ15, l15, y15, z15⟩, st15⟩ := X0.virtualBack hx (y := (⟨"java/lang/String", "isLatin1", "()Z"⟩ : MethodName)) (z := (⟨"java/lang/String", "isLatin1", "()Z"⟩ : MethodName)) hown (mvT hZ (own_q hw 105 rfl)) (mvT hZ (own_q hw 106 rfl)) (notFace_of_selects (args := #[]) (mvT hZ (own_q hw 108 rfl))) (mvT hZ (own_q hw 108 rfl)) (mvT hZ (own_q hw 107 rfl)) (by decide) (backOf (W := 0) (rm_isl l Z a0 hw [] a1 h0 n0 Z0 vb kb z ch cst fmt hS hT) hZ (own_q hw 109 rfl) (own_q hw 4 rfl) (by decide) (by decide)) q15a q15c (g := (mkF m 1 #[.val (.ref a1), .val (.int j)] [(.ref a1)])) rfl (by rw [hml]; rfl) (Steps.refl _) (argsL := []) (rest := []) (lenOf pd_52 rfl) rfl (by show 2 * 0 + _ ≤ _; exact Nat.le_of_eq rfl) (hb hby d19_1) (fun _ _ => ⟨rfl, e0, (by decide : 0 + 0 ≤ _), (by decide : 0 + 0 ≤ _)⟩)
  dsimp only [Pt.U, Pt.locs, Pt.cells, Pt.slots] at X15 l15 y15 z15 st15 hQ15
  subst l15 y15 z15
  obtain ⟨rfl, N15q, e15⟩ := hQ15
  have N15 := Fr.app N0 N15q
  obtain ⟨T16, X16, e16, st16⟩ := getF X15 hx hZ hown (host := "") (Or.inl (own_q hw 21 rfl)) Via.refl e15 F_v (g := (mkF m 8 #[.val (.ref a1), .val (.int j)] [(.ref a1)])) rfl rfl (hb hby d19_8)
  obtain ⟨_, _, ⟨T17, L17, k17, n17⟩, -, X17, ⟨Lc17, hQ17, l17, y17, z17⟩, st17⟩ := Jvm.LawKit.callS X16 hx (y := (⟨"java/lang/StringLatin1", "charAt", "([BI)C"⟩ : MethodName)) hown (mvT hZ (own_q hw 110 rfl)) (mvT hZ (own_q hw 111 rfl)) (mvT hZ (own_q hw 112 rfl)) (mvT hZ (own_q hw 113 rfl)) (by decide) (backOf (W := 0) (rm_lch l Z a0 hw [] vb j h0 n0 Z0 kb z ch cst fmt B_v hch hT hj0 hjz) hZ (own_q hw 113 rfl) (own_q hw 112 rfl) (by decide) (by decide)) (g := (mkF m 12 #[.val (.ref a1), .val (.int j)] [(.int j), (.ref vb)])) rfl (by rw [hml]; rfl) (argsL := [(.ref vb), (.int j)]) (rest := []) (lenOf pd_58 rfl) rfl (by show 2 * 0 + _ ≤ _; exact Nat.le_of_eq rfl) (hb hby d19_12) (fun _ _ => ⟨rfl, e16, (by decide : 0 + 0 ≤ _), (by decide : 0 + 0 ≤ _)⟩)
  dsimp only [Pt.U, Pt.locs, Pt.cells, Pt.slots] at X17 l17 y17 z17 st17 hQ17
  subst l17 y17 z17
  obtain ⟨rfl, N17q, e17⟩ := hQ17
  have N17 := Fr.app N15 N17q
  obtain ⟨fs, hr, hrun, hended, hW, hsame⟩ := X17.leave (v := some (.int (nar .char (ch j.toNatClampNeg)))) (fun h => by rw [Bd.returns] at h; cases h)
  refine ⟨_, _, pre0 _ ?_, hrun, hended, _, _, rfl, ?_, ⟨_, rfl⟩, hW, hsame.mono (by decide) (by decide)⟩
  · refine XS.aloadN X0.here hx rfl (hb hby d19_0) rfl rfl ?_
    refine st15.trans ?_
    show Steps p.tables e below (T15.setTop (mkF m 4 #[.val (.ref a1), .val (.int j)] [(.int (1 : Int32))])) _
    refine XS.ifNo X15.here hx rfl (hb hby d19_4) rfl ((if0 _ _).trans (feq (by decide : ¬ ((1 : Int32) = (0 : Int32)))).1) ?_
    refine XS.aloadN X15.here hx rfl (hb hby d19_7) rfl rfl ?_
    refine st16 _ ?_
    show Steps p.tables e below (T16.setTop (mkF m 11 #[.val (.ref a1), .val (.int j)] [(.ref vb)])) _
    refine XS.iloadN X16.here hx rfl (hb hby d19_11) rfl ?_
    refine st17 _ ?_
    show Steps p.tables e below (T17.setTop (mkF m 15 #[.val (.ref a1), .val (.int j)] [(.int (ch j.toNatClampNeg))])) _
    exact retN X17 hx (t := .char) Bd.returns (by simp) (hb hby d19_15) hr
  · show own_Pure (some (.int (ch j.toNatClampNeg))) h0 n0 _ T17.heap _
    rw [e17]
    exact ⟨by rw [own_narC (hch _)], N17, rfl⟩
theorem d4_0 : decode method_3_code 0 = .ok (.iload_n 1, 1) := by decide +kernel
theorem d4_1 : decode method_3_code 1 = .ok (.aload_n 0, 1) := by decide +kernel
theorem pd_63 : parseMethodDescriptor "()I" = some ⟨[], some .int⟩ := by decide +kernel
theorem d4_2 : decode method_3_code 2 = .ok (.invokevirtual 7, 3) := by decide +kernel
theorem d4_5 : decode method_3_code 5 = .ok (.if_icmp .lt 5, 3) := by decide +kernel
theorem d4_10 : decode method_3_code 10 = .ok (.aload_n 0, 1) := by decide +kernel
theorem d4_11 : decode method_3_code 11 = .ok (.iload_n 1, 1) := by decide +kernel
theorem pd_68 : parseMethodDescriptor "(I)C" = some ⟨[.int], some .char⟩ := by decide +kernel
theorem d4_12 : decode method_3_code 12 = .ok (.invokevirtual 13, 3) := by decide +kernel
theorem d4_15 : decode method_3_code 15 = .ok (.istore_n 2, 1) := by decide +kernel
theorem d4_16 : decode method_3_code 16 = .ok (.iload_n 2, 1) := by decide +kernel
theorem d4_17 : decode method_3_code 17 = .ok (.bipush 46, 2) := by decide +kernel
theorem d4_19 : decode method_3_code 19 = .ok (.if_icmp .eq 15, 3) := by decide +kernel
theorem d4_34 : decode method_3_code 34 = .ok (.iconst 1, 1) := by decide +kernel
theorem d4_35 : decode method_3_code 35 = .ok (.goto 4, 3) := by decide +kernel
theorem d4_39 : decode method_3_code 39 = .ok (.ireturn, 1) := by decide +kernel
theorem d4_22 : decode method_3_code 22 = .ok (.iload_n 2, 1) := by decide +kernel
theorem d4_23 : decode method_3_code 23 = .ok (.bipush 101, 2) := by decide +kernel
theorem d4_25 : decode method_3_code 25 = .ok (.if_icmp .eq 9, 3) := by decide +kernel
theorem d4_28 : decode method_3_code 28 = .ok (.iload_n 2, 1) := by decide +kernel
theorem d4_29 : decode method_3_code 29 = .ok (.bipush 69, 2) := by decide +kernel
theorem d4_31 : decode method_3_code 31 = .ok (.if_icmp .ne 7, 3) := by decide +kernel
theorem d4_38 : decode method_3_code 38 = .ok (.iconst 0, 1) := by decide +kernel
theorem d4_8 : decode method_3_code 8 = .ok (.iconst 0, 1) := by decide +kernel
theorem d4_9 : decode method_3_code 9 = .ok (.ireturn, 1) := by decide +kernel
theorem pn_86 : plainName "com/example/rowstrata/rowstrata/type/NumeralIsWholePinLaw" = true := by first | (simp [plainName, overriddenIn]; done) | decide +kernel
theorem ef_rm_marks (m : MethodId) (x0 : Addr) (x1 : Int32) : entryFrame m #[(.ref x0), (.int x1)] 3 = mkF m 0 #[.val (.ref x0), .val (.int x1), .unset] [] := by first | (simp [entryFrame, mkF, argsToLocals, Value.category]; done) | rfl
set_option maxRecDepth 65536 in
set_option maxHeartbeats 40000000 in
theorem rm_marks (l : Launch) (Z : State) (a0 : Array Value) (hw : ∀ d ∈ tables_1, d.before a0 Z = true) (ws : List Jvm.Cond) (a1 : Addr) (i : Int32) (h0 : Heap) (n0 : Nat) (Z0 : n0 ≤ h0.size) (vb : Addr) (kb : ClassId) (z : Int32) (ch : Nat → Int32) (cst : Int32) (fmt : Value) (hS : own_S Z h0 a1 vb kb z ch) (hT : own_T Z h0 cst fmt) (hi0 : ¬ i < (0 : Int32)) (r : Int32) (hres : (if i < z then (if (ch i.toNatClampNeg) = (46 : Int32) then (1 : Int32) else if (ch i.toNatClampNeg) = (101 : Int32) then (1 : Int32) else if (ch i.toNatClampNeg) = (69 : Int32) then (1 : Int32) else (0 : Int32)) else (0 : Int32)) = r) :
    MetFree l (⟨"com/example/rowstrata/rowstrata/type/NumeralIsWholePinLaw", "marks", "(Ljava/lang/String;I)Z"⟩ : MethodName) (head1 (Jvm.Cond.code (⟨"com/example/rowstrata/rowstrata/type/NumeralIsWholePinLaw", "marks", "(Ljava/lang/String;I)Z"⟩ : MethodName) method_3_code 3 (some .boolean) :: ws) ({ frames := 4, cells := 0, slots := 0, locals := 53 } : Room)) (fun aQ UQ => aQ = #[(.ref a1), (.int i)] ∧ Z.Warmed39 UQ.vm ∧ UQ.heap = h0) (fun _ _ _ _ _ => True) (fun _ UQ oQ UR => ∃ vQ LQ, oQ = .returned vQ ∧ own_Pure (some (.int r)) h0 n0 vQ UR.heap LQ ∧ FrameEnd UQ oQ UR LQ ({ frames := 4, cells := 0, slots := 0, locals := 53 } : Room).cells ({ frames := 4, cells := 0, slots := 0, locals := 53 } : Room).slots) := by
  refine MetFree.of_bodySF (plainFor_of_name pn_86) hisR ?_
  intro p e s m args below meth c s₁ Bd hml0 hP hK
  obtain ⟨rfl, hZ, hh⟩ := hP
  have hx := Bd.exec
  have hby := Bd.bytes
  have hml : c.maxLocals = 3 := hml0
  have hown : s.vm.findClass "com/example/rowstrata/rowstrata/type/NumeralIsWholePinLaw" = some m.cls := findClass_of_methodNamed Bd.named
  have hnm := (name_of_methodNamed Bd.named Bd.method).1
  have X0 : Stand p l e ({ frames := 4, cells := 0, slots := 0, locals := 53 } : Room) s m #[(.ref a1), (.int i)] below meth c s₁ [] 0 0 := Stand.of_body Bd
  have e0 : s₁.heap = h0 := by rw [← hh, Bd.state]; rfl
  have N0 := Fr.nil n0
  have pre0 : ∀ t, Steps p.tables e below (s₁.setTop (mkF m 0 #[.val (.ref a1), .val (.int i), .unset] [])) t → Steps p.tables e below (s₁.setTop (entryFrame m #[(.ref a1), (.int i)] 3)) t := fun t kq => castTop (ef_rm_marks m a1 i) kq
  obtain ⟨E_a, F_v, F_c, B_v, hch⟩ := id hS
  obtain ⟨S_c, hcst, S_f, hfm⟩ := id hT
  obtain ⟨cq18, kq18, q18a, q18b, q18c⟩ := isOf hZ e0 (E_a)
  obtain ⟨_, _, ⟨T18, L18, k18, n18⟩, -, X18, ⟨Lc18, hQ18, l18, y18, z18⟩, st18⟩ := X0.virtualBack hx (y := (⟨"java/lang/String", "length", "()I"⟩ : MethodName)) (z := (⟨"java/lang/String", "length", "()I"⟩ : MethodName)) hown (mvT hZ (own_q hw 27 rfl)) (mvT hZ (own_q hw 28 rfl)) (notFace_of_selects (args := #[]) (mvT hZ (own_q hw 30 rfl))) (mvT hZ (own_q hw 30 rfl)) (mvT hZ (own_q hw 29 rfl)) (by decide) (backOf (W := 1) (rm_len l Z a0 hw [] a1 h0 n0 Z0 vb kb z ch cst fmt hS hT) hZ (own_q hw 31 rfl) (own_q hw 4 rfl) (by decide) (by decide)) q18a q18c (g := (mkF m 2 #[.val (.ref a1), .val (.int i), .unset] [(.ref a1), (.int i)])) rfl (by rw [hml]; rfl) (Steps.refl _) (argsL := []) (rest := [(.int i)]) (lenOf pd_63 rfl) rfl (by show 2 * 0 + _ ≤ _; exact Nat.le_of_eq rfl) (hb hby d4_2) (fun _ _ => ⟨rfl, e0, (by decide : 0 + 0 ≤ _), (by decide : 0 + 0 ≤ _)⟩)
  dsimp only [Pt.U, Pt.locs, Pt.cells, Pt.slots] at X18 l18 y18 z18 st18 hQ18
  subst l18 y18 z18
  obtain ⟨rfl, N18q, e18⟩ := hQ18
  have N18 := Fr.app N0 N18q
  by_cases hc5_19 : i < z
  · -- pc 5: yes
    obtain ⟨cq20, kq20, q20a, q20b, q20c⟩ := isOf hZ e18 (E_a)
    obtain ⟨_, _, ⟨T20, L20, k20, n20⟩, -, X20, ⟨Lc20, hQ20, l20, y20, z20⟩, st20⟩ := X18.virtualBack hx (y := (⟨"java/lang/String", "charAt", "(I)C"⟩ : MethodName)) (z := (⟨"java/lang/String", "charAt", "(I)C"⟩ : MethodName)) hown (mvT hZ (own_q hw 100 rfl)) (mvT hZ (own_q hw 101 rfl)) (notFace_of_selects (args := #[]) (mvT hZ (own_q hw 103 rfl))) (mvT hZ (own_q hw 103 rfl)) (mvT hZ (own_q hw 102 rfl)) (by decide) (backOf (W := 0) (rm_ch l Z a0 hw [] a1 i h0 n0 Z0 vb kb z ch cst fmt hS hT hi0 hc5_19) hZ (own_q hw 104 rfl) (own_q hw 4 rfl) (by decide) (by decide)) q20a q20c (g := (mkF m 12 #[.val (.ref a1), .val (.int i), .unset] [(.int i), (.ref a1)])) rfl (by rw [hml]; rfl) (Steps.refl _) (argsL := [(.int i)]) (rest := []) (lenOf pd_68 rfl) rfl (by show 2 * 0 + _ ≤ _; exact Nat.le_of_eq rfl) (hb hby d4_12) (fun _ _ => ⟨rfl, e18, (by decide : 0 + 0 ≤ _), (by decide : 0 + 0 ≤ _)⟩)
    dsimp only [Pt.U, Pt.locs, Pt.cells, Pt.slots] at X20 l20 y20 z20 st20 hQ20
    subst l20 y20 z20
    obtain ⟨rfl, N20q, e20⟩ := hQ20
    have N20 := Fr.app N18 N20q
    have ck22 : ∀ t, Steps p.tables e below (T20.setTop (mkF m 19 #[.val (.ref a1), .val (.int i), .val (.int (ch i.toNatClampNeg))] [(.int (46 : Int32)), (.int (ch i.toNatClampNeg))])) t → Steps p.tables e below (s₁.setTop (entryFrame m #[(.ref a1), (.int i)] 3)) t := by
      intro t kt
      refine pre0 _ ?_
      refine XS.iloadN X0.here hx rfl (hb hby d4_0) rfl ?_
      refine XS.aloadN X0.here hx rfl (hb hby d4_1) rfl rfl ?_
      refine st18.trans ?_
      show Steps p.tables e below (T18.setTop (mkF m 5 #[.val (.ref a1), .val (.int i), .unset] [(.int z), (.int i)])) _
      refine XS.icmpYes X18.here hx rfl (pc0 := 5) (pc' := 10) rfl (hb hby d4_5) rfl (tlt hc5_19).1 (by decide) (by decide) ?_
      refine XS.aloadN X18.here hx rfl (hb hby d4_10) rfl rfl ?_
      refine XS.iloadN X18.here hx rfl (hb hby d4_11) rfl ?_
      refine st20.trans ?_
      show Steps p.tables e below (T20.setTop (mkF m 15 #[.val (.ref a1), .val (.int i), .unset] [(.int (ch i.toNatClampNeg))])) _
      refine XS.istoreN X20.here hx rfl (hb hby d4_15) rfl (l' := #[.val (.ref a1), .val (.int i), .val (.int (ch i.toNatClampNeg))]) rfl ?_
      refine XS.iloadN X20.here hx rfl (hb hby d4_16) rfl ?_
      refine XS.bipush X20.here hx rfl (hb hby d4_17) ?_
      exact kt
    (try clear N20q); (try clear st20); (try clear Lc20); (try clear n20); (try clear k20); (try clear L20); (try clear q20c); (try clear q20b); (try clear q20a); (try clear kq20); (try clear cq20)
    by_cases hc19_21 : (ch i.toNatClampNeg) = (46 : Int32)
    · -- pc 19: yes
      obtain ⟨fs, hr, hrun, hended, hW, hsame⟩ := X20.leave (v := some (.int (1 : Int32))) (fun h => by rw [Bd.returns] at h; cases h)
      refine ⟨_, _, ck22 _ ?_, hrun, hended, _, _, rfl, ?_, ⟨_, rfl⟩, hW, hsame.mono (by decide) (by decide)⟩
      · refine XS.icmpYes X20.here hx rfl (pc0 := 19) (pc' := 34) rfl (hb hby d4_19) rfl (teq hc19_21).1 (by decide) (by decide) ?_
        refine XS.iconst X20.here hx rfl (hb hby d4_34) ?_
        refine XS.goto X20.here hx rfl (pc0 := 35) (pc' := 39) rfl (hb hby d4_35) (by decide) (by decide) ?_
        exact retN X20 hx (t := .boolean) Bd.returns (by simp) (hb hby d4_39) hr
      · show own_Pure (some (.int r)) h0 n0 _ T20.heap _
        rw [e20]
        exact ⟨by rw [← hres]; simp only [if_pos hc5_19, if_pos hc19_21], N20, rfl⟩
    · -- pc 19: no
      by_cases hc25_23 : (ch i.toNatClampNeg) = (101 : Int32)
      · -- pc 25: yes
        obtain ⟨fs, hr, hrun, hended, hW, hsame⟩ := X20.leave (v := some (.int (1 : Int32))) (fun h => by rw [Bd.returns] at h; cases h)
        refine ⟨_, _, ck22 _ ?_, hrun, hended, _, _, rfl, ?_, ⟨_, rfl⟩, hW, hsame.mono (by decide) (by decide)⟩
        · refine XS.icmpNo X20.here hx rfl (hb hby d4_19) rfl (feq hc19_21).1 ?_
          refine XS.iloadN X20.here hx rfl (hb hby d4_22) rfl ?_
          refine XS.bipush X20.here hx rfl (hb hby d4_23) ?_
          refine XS.icmpYes X20.here hx rfl (pc0 := 25) (pc' := 34) rfl (hb hby d4_25) rfl (teq hc25_23).1 (by decide) (by decide) ?_
          refine XS.iconst X20.here hx rfl (hb hby d4_34) ?_
          refine XS.goto X20.here hx rfl (pc0 := 35) (pc' := 39) rfl (hb hby d4_35) (by decide) (by decide) ?_
          exact retN X20 hx (t := .boolean) Bd.returns (by simp) (hb hby d4_39) hr
        · show own_Pure (some (.int r)) h0 n0 _ T20.heap _
          rw [e20]
          exact ⟨by rw [← hres]; simp only [if_pos hc5_19, if_neg hc19_21, if_pos hc25_23], N20, rfl⟩
      · -- pc 25: no
        have ck25 : ∀ t, Steps p.tables e below (T20.setTop (mkF m 31 #[.val (.ref a1), .val (.int i), .val (.int (ch i.toNatClampNeg))] [(.int (69 : Int32)), (.int (ch i.toNatClampNeg))])) t → Steps p.tables e below (s₁.setTop (entryFrame m #[(.ref a1), (.int i)] 3)) t := by
          intro t kt
          refine ck22 _ ?_
          refine XS.icmpNo X20.here hx rfl (hb hby d4_19) rfl (feq hc19_21).1 ?_
          refine XS.iloadN X20.here hx rfl (hb hby d4_22) rfl ?_
          refine XS.bipush X20.here hx rfl (hb hby d4_23) ?_
          refine XS.icmpNo X20.here hx rfl (hb hby d4_25) rfl (feq hc25_23).1 ?_
          refine XS.iloadN X20.here hx rfl (hb hby d4_28) rfl ?_
          refine XS.bipush X20.here hx rfl (hb hby d4_29) ?_
          exact kt
        by_cases hc31_24 : (ch i.toNatClampNeg) = (69 : Int32)
        · -- pc 31: yes
          obtain ⟨fs, hr, hrun, hended, hW, hsame⟩ := X20.leave (v := some (.int (1 : Int32))) (fun h => by rw [Bd.returns] at h; cases h)
          refine ⟨_, _, ck25 _ ?_, hrun, hended, _, _, rfl, ?_, ⟨_, rfl⟩, hW, hsame.mono (by decide) (by decide)⟩
          · refine XS.icmpNo X20.here hx rfl (hb hby d4_31) rfl (teq hc31_24).2 ?_
            refine XS.iconst X20.here hx rfl (hb hby d4_34) ?_
            refine XS.goto X20.here hx rfl (pc0 := 35) (pc' := 39) rfl (hb hby d4_35) (by decide) (by decide) ?_
            exact retN X20 hx (t := .boolean) Bd.returns (by simp) (hb hby d4_39) hr
          · show own_Pure (some (.int r)) h0 n0 _ T20.heap _
            rw [e20]
            exact ⟨by rw [← hres]; simp only [if_pos hc5_19, if_neg hc19_21, if_neg hc25_23, if_pos hc31_24], N20, rfl⟩
        · -- pc 31: no
          obtain ⟨fs, hr, hrun, hended, hW, hsame⟩ := X20.leave (v := some (.int (0 : Int32))) (fun h => by rw [Bd.returns] at h; cases h)
          refine ⟨_, _, ck25 _ ?_, hrun, hended, _, _, rfl, ?_, ⟨_, rfl⟩, hW, hsame.mono (by decide) (by decide)⟩
          · refine XS.icmpYes X20.here hx rfl (pc0 := 31) (pc' := 38) rfl (hb hby d4_31) rfl (feq hc31_24).2 (by decide) (by decide) ?_
            refine XS.iconst X20.here hx rfl (hb hby d4_38) ?_
            exact retN X20 hx (t := .boolean) Bd.returns (by simp) (hb hby d4_39) hr
          · show own_Pure (some (.int r)) h0 n0 _ T20.heap _
            rw [e20]
            exact ⟨by rw [← hres]; simp only [if_pos hc5_19, if_neg hc19_21, if_neg hc25_23, if_neg hc31_24], N20, rfl⟩
  · -- pc 5: no
    obtain ⟨fs, hr, hrun, hended, hW, hsame⟩ := X18.leave (v := some (.int (0 : Int32))) (fun h => by rw [Bd.returns] at h; cases h)
    refine ⟨_, _, pre0 _ ?_, hrun, hended, _, _, rfl, ?_, ⟨_, rfl⟩, hW, hsame.mono (by decide) (by decide)⟩
    · refine XS.iloadN X0.here hx rfl (hb hby d4_0) rfl ?_
      refine XS.aloadN X0.here hx rfl (hb hby d4_1) rfl rfl ?_
      refine st18.trans ?_
      show Steps p.tables e below (T18.setTop (mkF m 5 #[.val (.ref a1), .val (.int i), .unset] [(.int z), (.int i)])) _
      refine XS.icmpNo X18.here hx rfl (hb hby d4_5) rfl (flt hc5_19).1 ?_
      refine XS.iconst X18.here hx rfl (hb hby d4_8) ?_
      exact retN X18 hx (t := .boolean) Bd.returns (by simp) (hb hby d4_9) hr
    · show own_Pure (some (.int r)) h0 n0 _ T18.heap _
      rw [e18]
      exact ⟨by rw [← hres]; simp only [if_neg hc5_19], N18, rfl⟩
theorem d9_0 : decode prog_33_method_4_code 0 = .ok (.iload_n 1, 1) := by decide +kernel
theorem d9_1 : decode prog_33_method_4_code 1 = .ok (.istore_n 2, 1) := by decide +kernel
theorem d9_2 : decode prog_33_method_4_code 2 = .ok (.iload_n 2, 1) := by decide +kernel
theorem d9_3 : decode prog_33_method_4_code 3 = .ok (.aload_n 0, 1) := by decide +kernel
theorem d9_4 : decode prog_33_method_4_code 4 = .ok (.invokeinterface 22 1, 5) := by decide +kernel
theorem d9_9 : decode prog_33_method_4_code 9 = .ok (.if_icmp .ge 33, 3) := by decide +kernel
theorem d9_12 : decode prog_33_method_4_code 12 = .ok (.aload_n 0, 1) := by decide +kernel
theorem d9_13 : decode prog_33_method_4_code 13 = .ok (.iload_n 2, 1) := by decide +kernel
theorem d9_14 : decode prog_33_method_4_code 14 = .ok (.invokeinterface 28 2, 5) := by decide +kernel
theorem d9_19 : decode prog_33_method_4_code 19 = .ok (.bipush 48, 2) := by decide +kernel
theorem d9_21 : decode prog_33_method_4_code 21 = .ok (.if_icmp .lt 21, 3) := by decide +kernel
theorem d9_24 : decode prog_33_method_4_code 24 = .ok (.aload_n 0, 1) := by decide +kernel
theorem d9_25 : decode prog_33_method_4_code 25 = .ok (.iload_n 2, 1) := by decide +kernel
theorem d9_26 : decode prog_33_method_4_code 26 = .ok (.invokeinterface 28 2, 5) := by decide +kernel
theorem d9_31 : decode prog_33_method_4_code 31 = .ok (.bipush 57, 2) := by decide +kernel
theorem d9_33 : decode prog_33_method_4_code 33 = .ok (.if_icmp .gt 9, 3) := by decide +kernel
theorem d9_36 : decode prog_33_method_4_code 36 = .ok (.iinc 2 1, 3) := by decide +kernel
theorem d9_39 : decode prog_33_method_4_code 39 = .ok (.goto (-37), 3) := by decide +kernel
theorem d9_42 : decode prog_33_method_4_code 42 = .ok (.iload_n 2, 1) := by decide +kernel
theorem d9_43 : decode prog_33_method_4_code 43 = .ok (.ireturn, 1) := by decide +kernel
theorem pn_107 : plainName "com/example/rowstrata/rowstrata/type/Numeral$Bounds" = true := by first | (simp [plainName, overriddenIn]; done) | decide +kernel
theorem ef_rm_de (m : MethodId) (x0 : Addr) (x1 : Int32) : entryFrame m #[(.ref x0), (.int x1)] 3 = mkF m 0 #[.val (.ref x0), .val (.int x1), .unset] [] := by first | (simp [entryFrame, mkF, argsToLocals, Value.category]; done) | rfl
set_option maxRecDepth 65536 in
set_option maxHeartbeats 40000000 in
theorem rm_de (l : Launch) (Z : State) (a0 : Array Value) (hw : ∀ d ∈ tables_1, d.before a0 Z = true) (ws : List Jvm.Cond) (a1 : Addr) (i : Int32) (h0 : Heap) (n0 : Nat) (Z0 : n0 ≤ h0.size) (vb : Addr) (kb : ClassId) (z : Int32) (ch : Nat → Int32) (cst : Int32) (fmt : Value) (hS : own_S Z h0 a1 vb kb z ch) (hT : own_T Z h0 cst fmt) (hi : 0 ≤ i.toInt ∧ i.toInt ≤ z.toInt) :
    MetFree l (⟨"com/example/rowstrata/rowstrata/type/Numeral$Bounds", "digitsEnd", "(Ljava/lang/CharSequence;I)I"⟩ : MethodName) (head1 (Jvm.Cond.code (⟨"com/example/rowstrata/rowstrata/type/Numeral$Bounds", "digitsEnd", "(Ljava/lang/CharSequence;I)I"⟩ : MethodName) prog_33_method_4_code 3 (some .int) :: ws) ({ frames := 4, cells := 0, slots := 0, locals := 53 } : Room)) (fun aQ UQ => aQ = #[(.ref a1), (.int i)] ∧ Z.Warmed39 UQ.vm ∧ UQ.heap = h0) (fun _ _ _ _ _ => True) (fun _ UQ oQ UR => ∃ vQ LQ, oQ = .returned vQ ∧ own_DE (own_de ch z.toNatClampNeg i.toNatClampNeg) h0 n0 vQ UR.heap LQ ∧ FrameEnd UQ oQ UR LQ ({ frames := 4, cells := 0, slots := 0, locals := 53 } : Room).cells ({ frames := 4, cells := 0, slots := 0, locals := 53 } : Room).slots) := by
  refine MetFree.of_bodySF (plainFor_of_name pn_107) hisR ?_
  intro p e s m args below meth c s₁ Bd hml0 hP hK
  obtain ⟨rfl, hZ, hh⟩ := hP
  have hx := Bd.exec
  have hby := Bd.bytes
  have hml : c.maxLocals = 3 := hml0
  have hown : s.vm.findClass "com/example/rowstrata/rowstrata/type/Numeral$Bounds" = some m.cls := findClass_of_methodNamed Bd.named
  have hnm := (name_of_methodNamed Bd.named Bd.method).1
  have X0 : Stand p l e ({ frames := 4, cells := 0, slots := 0, locals := 53 } : Room) s m #[(.ref a1), (.int i)] below meth c s₁ [] 0 0 := Stand.of_body Bd
  have e0 : s₁.heap = h0 := by rw [← hh, Bd.state]; rfl
  have N0 := Fr.nil n0
  have pre0 : ∀ t, Steps p.tables e below (s₁.setTop (mkF m 0 #[.val (.ref a1), .val (.int i), .unset] [])) t → Steps p.tables e below (s₁.setTop (entryFrame m #[(.ref a1), (.int i)] 3)) t := fun t kq => castTop (ef_rm_de m a1 i) kq
  obtain ⟨E_a, F_v, F_c, B_v, hch⟩ := id hS
  obtain ⟨S_c, hcst, S_f, hfm⟩ := id hT
  have loop : ∀ j : Nat, (∀ t, t < j → i.toInt + (t : Int) < z.toInt ∧ own_dig (ch (i.toNatClampNeg + t))) → ∃ (TJ : State) (LJ : List Loc) (q : Int32), Stand p l e ({ frames := 4, cells := 0, slots := 0, locals := 53 } : Room) s m #[(.ref a1), (.int i)] below meth c TJ LJ 0 0 ∧ TJ.heap = h0 ∧ Fr n0 LJ ∧ q.toInt = i.toInt + (j : Int) ∧ (∀ t, Steps p.tables e below (TJ.setTop (mkF m 2 #[.val (.ref a1), .val (.int i), .val (.int q)] [])) t → Steps p.tables e below (s₁.setTop (entryFrame m #[(.ref a1), (.int i)] 3)) t) := by
    intro j
    induction j with
    | zero =>
      intro _
      refine ⟨s₁, _, i, X0, e0, N0, (by simp), fun t kt => ?_⟩
      refine pre0 _ ?_
      refine XS.iloadN X0.here hx rfl (hb hby d9_0) rfl ?_
      refine XS.istoreN X0.here hx rfl (hb hby d9_1) rfl (l' := #[.val (.ref a1), .val (.int i), .val (.int i)]) rfl ?_
      exact kt
    | succ j ih =>
      intro hj
      obtain ⟨TI, LI, q, XI, eI, NI, hq, ckI⟩ := ih (fun t ht => hj t (Nat.lt_succ_of_lt ht))
      have hj1 := hj j (Nat.lt_succ_self j)
      have hqn : q.toNatClampNeg = i.toNatClampNeg + j := by show q.toInt.toNat = i.toInt.toNat + j; omega
      have hd : own_dig (ch q.toNatClampNeg) := by rw [hqn]; exact hj1.2
      have hqz : q < z := own_lt32 (by omega)
      have hq0 : ¬ q < (0 : Int32) := own_nn (by omega)
      obtain ⟨cq26, kq26, q26a, q26b, q26c⟩ := isOf hZ eI (E_a)
      obtain ⟨_, _, ⟨T26, L26, k26, n26⟩, -, X26, ⟨Lc26, hQ26, l26, y26, z26⟩, st26⟩ := XI.interfaceBack hx (xi := (⟨"java/lang/CharSequence", "length", "()I"⟩ : MethodName)) (y := (⟨"java/lang/String", "length", "()I"⟩ : MethodName)) hown (mvT hZ (own_q hw 46 rfl)) (mvT hZ (own_q hw 47 rfl)) (mvT hZ (own_q hw 48 rfl)) (mvT hZ (own_q hw 49 rfl)) (mvT hZ (own_q hw 29 rfl)) (mvT hZ (own_q hw 50 rfl)) (mvT hZ (own_q hw 51 rfl)) (mvT hZ (own_q hw 52 rfl)) (by decide) (backOf (W := 1) (rm_len l Z a0 hw [] a1 h0 n0 Z0 vb kb z ch cst fmt hS hT) hZ (own_q hw 31 rfl) (own_q hw 4 rfl) (by decide) (by decide)) q26a q26b q26c (g := (mkF m 4 #[.val (.ref a1), .val (.int i), .val (.int q)] [(.ref a1), (.int q)])) rfl (by rw [hml]; rfl) (Steps.refl _) (argsL := []) (rest := [(.int q)]) (lenOf pd_63 rfl) rfl (by show 2 * 0 + _ ≤ _; exact Nat.le_of_eq rfl) (hb hby d9_4) (fun _ _ => ⟨rfl, eI, (by decide : 0 + 0 ≤ _), (by decide : 0 + 0 ≤ _)⟩)
      dsimp only [Pt.U, Pt.locs, Pt.cells, Pt.slots] at X26 l26 y26 z26 st26 hQ26
      subst l26 y26 z26
      obtain ⟨rfl, N26q, e26⟩ := hQ26
      have N26 := Fr.app NI N26q
      obtain ⟨cq27, kq27, q27a, q27b, q27c⟩ := isOf hZ e26 (E_a)
      obtain ⟨_, _, ⟨T27, L27, k27, n27⟩, -, X27, ⟨Lc27, hQ27, l27, y27, z27⟩, st27⟩ := X26.interfaceBack hx (xi := (⟨"java/lang/CharSequence", "charAt", "(I)C"⟩ : MethodName)) (y := (⟨"java/lang/String", "charAt", "(I)C"⟩ : MethodName)) hown (mvT hZ (own_q hw 122 rfl)) (mvT hZ (own_q hw 123 rfl)) (mvT hZ (own_q hw 124 rfl)) (mvT hZ (own_q hw 125 rfl)) (mvT hZ (own_q hw 102 rfl)) (mvT hZ (own_q hw 126 rfl)) (mvT hZ (own_q hw 127 rfl)) (mvT hZ (own_q hw 52 rfl)) (by decide) (backOf (W := 0) (rm_ch l Z a0 hw [] a1 q h0 n0 Z0 vb kb z ch cst fmt hS hT hq0 hqz) hZ (own_q hw 104 rfl) (own_q hw 4 rfl) (by decide) (by decide)) q27a q27b q27c (g := (mkF m 14 #[.val (.ref a1), .val (.int i), .val (.int q)] [(.int q), (.ref a1)])) rfl (by rw [hml]; rfl) (Steps.refl _) (argsL := [(.int q)]) (rest := []) (lenOf pd_68 rfl) rfl (by show 2 * 0 + _ ≤ _; exact Nat.le_of_eq rfl) (hb hby d9_14) (fun _ _ => ⟨rfl, e26, (by decide : 0 + 0 ≤ _), (by decide : 0 + 0 ≤ _)⟩)
      dsimp only [Pt.U, Pt.locs, Pt.cells, Pt.slots] at X27 l27 y27 z27 st27 hQ27
      subst l27 y27 z27
      obtain ⟨rfl, N27q, e27⟩ := hQ27
      have N27 := Fr.app N26 N27q
      obtain ⟨cq28, kq28, q28a, q28b, q28c⟩ := isOf hZ e27 (E_a)
      obtain ⟨_, _, ⟨T28, L28, k28, n28⟩, -, X28, ⟨Lc28, hQ28, l28, y28, z28⟩, st28⟩ := X27.interfaceBack hx (xi := (⟨"java/lang/CharSequence", "charAt", "(I)C"⟩ : MethodName)) (y := (⟨"java/lang/String", "charAt", "(I)C"⟩ : MethodName)) hown (mvT hZ (own_q hw 122 rfl)) (mvT hZ (own_q hw 123 rfl)) (mvT hZ (own_q hw 124 rfl)) (mvT hZ (own_q hw 125 rfl)) (mvT hZ (own_q hw 102 rfl)) (mvT hZ (own_q hw 126 rfl)) (mvT hZ (own_q hw 127 rfl)) (mvT hZ (own_q hw 52 rfl)) (by decide) (backOf (W := 0) (rm_ch l Z a0 hw [] a1 q h0 n0 Z0 vb kb z ch cst fmt hS hT hq0 hqz) hZ (own_q hw 104 rfl) (own_q hw 4 rfl) (by decide) (by decide)) q28a q28b q28c (g := (mkF m 26 #[.val (.ref a1), .val (.int i), .val (.int q)] [(.int q), (.ref a1)])) rfl (by rw [hml]; rfl) (Steps.refl _) (argsL := [(.int q)]) (rest := []) (lenOf pd_68 rfl) rfl (by show 2 * 0 + _ ≤ _; exact Nat.le_of_eq rfl) (hb hby d9_26) (fun _ _ => ⟨rfl, e27, (by decide : 0 + 0 ≤ _), (by decide : 0 + 0 ≤ _)⟩)
      dsimp only [Pt.U, Pt.locs, Pt.cells, Pt.slots] at X28 l28 y28 z28 st28 hQ28
      subst l28 y28 z28
      obtain ⟨rfl, N28q, e28⟩ := hQ28
      have N28 := Fr.app N27 N28q
      refine ⟨T28, _, (q + (1 : Int32)), X28, e28, N28, (own_inc hqz hq), fun t kt => ?_⟩
      refine ckI _ ?_
      refine XS.iloadN XI.here hx rfl (hb hby d9_2) rfl ?_
      refine XS.aloadN XI.here hx rfl (hb hby d9_3) rfl rfl ?_
      refine st26.trans ?_
      show Steps p.tables e below (T26.setTop (mkF m 9 #[.val (.ref a1), .val (.int i), .val (.int q)] [(.int z), (.int q)])) _
      refine XS.icmpNo X26.here hx rfl (hb hby d9_9) rfl (tlt (hqz : q < z)).2.1 ?_
      refine XS.aloadN X26.here hx rfl (hb hby d9_12) rfl rfl ?_
      refine XS.iloadN X26.here hx rfl (hb hby d9_13) rfl ?_
      refine st27.trans ?_
      show Steps p.tables e below (T27.setTop (mkF m 19 #[.val (.ref a1), .val (.int i), .val (.int q)] [(.int (ch q.toNatClampNeg))])) _
      refine XS.bipush X27.here hx rfl (hb hby d9_19) ?_
      refine XS.icmpNo X27.here hx rfl (hb hby d9_21) rfl (flt (hd.1 : ¬ ((ch q.toNatClampNeg) < (48 : Int32)))).1 ?_
      refine XS.aloadN X27.here hx rfl (hb hby d9_24) rfl rfl ?_
      refine XS.iloadN X27.here hx rfl (hb hby d9_25) rfl ?_
      refine st28.trans ?_
      show Steps p.tables e below (T28.setTop (mkF m 31 #[.val (.ref a1), .val (.int i), .val (.int q)] [(.int (ch q.toNatClampNeg))])) _
      refine XS.bipush X28.here hx rfl (hb hby d9_31) ?_
      refine XS.icmpNo X28.here hx rfl (hb hby d9_33) rfl (flt (hd.2 : ¬ ((57 : Int32) < (ch q.toNatClampNeg)))).2.2.1 ?_
      refine XS.iinc X28.here hx rfl (hb hby d9_36) rfl (l' := #[.val (.ref a1), .val (.int i), .val (.int (q + (1 : Int32)))]) rfl ?_
      refine XS.goto X28.here hx rfl (pc0 := 39) (pc' := 2) rfl (hb hby d9_39) (by decide) (by decide) ?_
      exact kt
  have hde1 := own_cnt_ge ch (z.toNatClampNeg - i.toNatClampNeg) i.toNatClampNeg
  have hde2 := own_cnt_le ch (z.toNatClampNeg - i.toNatClampNeg) i.toNatClampNeg
  have hzn : (z.toNatClampNeg : Int) = z.toInt := (nat_of (own_nn (by omega))).symm
  have hin' : (i.toNatClampNeg : Int) = i.toInt := (nat_of (own_nn (by omega))).symm
  obtain ⟨TE, LE, q, XE, eE, NE, hq, ckE⟩ := loop (own_cnt ch (z.toNatClampNeg - i.toNatClampNeg) i.toNatClampNeg - i.toNatClampNeg) (fun t ht => ⟨by omega, own_cnt_dig ch (z.toNatClampNeg - i.toNatClampNeg) i.toNatClampNeg _ (by omega) (by omega)⟩)
  have hqn : q.toNatClampNeg = own_cnt ch (z.toNatClampNeg - i.toNatClampNeg) i.toNatClampNeg := by show q.toInt.toNat = _; omega
  have hq0 : ¬ q < (0 : Int32) := own_nn (by omega)
  have hend := own_cnt_end ch (z.toNatClampNeg - i.toNatClampNeg) i.toNatClampNeg
  rw [← hqn] at hend
  obtain ⟨cq29, kq29, q29a, q29b, q29c⟩ := isOf hZ eE (E_a)
  obtain ⟨_, _, ⟨T29, L29, k29, n29⟩, -, X29, ⟨Lc29, hQ29, l29, y29, z29⟩, st29⟩ := XE.interfaceBack hx (xi := (⟨"java/lang/CharSequence", "length", "()I"⟩ : MethodName)) (y := (⟨"java/lang/String", "length", "()I"⟩ : MethodName)) hown (mvT hZ (own_q hw 46 rfl)) (mvT hZ (own_q hw 47 rfl)) (mvT hZ (own_q hw 48 rfl)) (mvT hZ (own_q hw 49 rfl)) (mvT hZ (own_q hw 29 rfl)) (mvT hZ (own_q hw 50 rfl)) (mvT hZ (own_q hw 51 rfl)) (mvT hZ (own_q hw 52 rfl)) (by decide) (backOf (W := 1) (rm_len l Z a0 hw [] a1 h0 n0 Z0 vb kb z ch cst fmt hS hT) hZ (own_q hw 31 rfl) (own_q hw 4 rfl) (by decide) (by decide)) q29a q29b q29c (g := (mkF m 4 #[.val (.ref a1), .val (.int i), .val (.int q)] [(.ref a1), (.int q)])) rfl (by rw [hml]; rfl) (Steps.refl _) (argsL := []) (rest := [(.int q)]) (lenOf pd_63 rfl) rfl (by show 2 * 0 + _ ≤ _; exact Nat.le_of_eq rfl) (hb hby d9_4) (fun _ _ => ⟨rfl, eE, (by decide : 0 + 0 ≤ _), (by decide : 0 + 0 ≤ _)⟩)
  dsimp only [Pt.U, Pt.locs, Pt.cells, Pt.slots] at X29 l29 y29 z29 st29 hQ29
  subst l29 y29 z29
  obtain ⟨rfl, N29q, e29⟩ := hQ29
  have N29 := Fr.app NE N29q
  by_cases hc9_30 : q < z
  · -- pc 9: yes
    obtain ⟨cq31, kq31, q31a, q31b, q31c⟩ := isOf hZ e29 (E_a)
    obtain ⟨_, _, ⟨T31, L31, k31, n31⟩, -, X31, ⟨Lc31, hQ31, l31, y31, z31⟩, st31⟩ := X29.interfaceBack hx (xi := (⟨"java/lang/CharSequence", "charAt", "(I)C"⟩ : MethodName)) (y := (⟨"java/lang/String", "charAt", "(I)C"⟩ : MethodName)) hown (mvT hZ (own_q hw 122 rfl)) (mvT hZ (own_q hw 123 rfl)) (mvT hZ (own_q hw 124 rfl)) (mvT hZ (own_q hw 125 rfl)) (mvT hZ (own_q hw 102 rfl)) (mvT hZ (own_q hw 126 rfl)) (mvT hZ (own_q hw 127 rfl)) (mvT hZ (own_q hw 52 rfl)) (by decide) (backOf (W := 0) (rm_ch l Z a0 hw [] a1 q h0 n0 Z0 vb kb z ch cst fmt hS hT hq0 hc9_30) hZ (own_q hw 104 rfl) (own_q hw 4 rfl) (by decide) (by decide)) q31a q31b q31c (g := (mkF m 14 #[.val (.ref a1), .val (.int i), .val (.int q)] [(.int q), (.ref a1)])) rfl (by rw [hml]; rfl) (Steps.refl _) (argsL := [(.int q)]) (rest := []) (lenOf pd_68 rfl) rfl (by show 2 * 0 + _ ≤ _; exact Nat.le_of_eq rfl) (hb hby d9_14) (fun _ _ => ⟨rfl, e29, (by decide : 0 + 0 ≤ _), (by decide : 0 + 0 ≤ _)⟩)
    dsimp only [Pt.U, Pt.locs, Pt.cells, Pt.slots] at X31 l31 y31 z31 st31 hQ31
    subst l31 y31 z31
    obtain ⟨rfl, N31q, e31⟩ := hQ31
    have N31 := Fr.app N29 N31q
    have ck33 : ∀ t, Steps p.tables e below (T31.setTop (mkF m 21 #[.val (.ref a1), .val (.int i), .val (.int q)] [(.int (48 : Int32)), (.int (ch q.toNatClampNeg))])) t → Steps p.tables e below (s₁.setTop (entryFrame m #[(.ref a1), (.int i)] 3)) t := by
      intro t kt
      refine ckE _ ?_
      refine XS.iloadN XE.here hx rfl (hb hby d9_2) rfl ?_
      refine XS.aloadN XE.here hx rfl (hb hby d9_3) rfl rfl ?_
      refine st29.trans ?_
      show Steps p.tables e below (T29.setTop (mkF m 9 #[.val (.ref a1), .val (.int i), .val (.int q)] [(.int z), (.int q)])) _
      refine XS.icmpNo X29.here hx rfl (hb hby d9_9) rfl (tlt hc9_30).2.1 ?_
      refine XS.aloadN X29.here hx rfl (hb hby d9_12) rfl rfl ?_
      refine XS.iloadN X29.here hx rfl (hb hby d9_13) rfl ?_
      refine st31.trans ?_
      show Steps p.tables e below (T31.setTop (mkF m 19 #[.val (.ref a1), .val (.int i), .val (.int q)] [(.int (ch q.toNatClampNeg))])) _
      refine XS.bipush X31.here hx rfl (hb hby d9_19) ?_
      exact kt
    (try clear N31q); (try clear st31); (try clear Lc31); (try clear n31); (try clear k31); (try clear L31); (try clear q31c); (try clear q31b); (try clear q31a); (try clear kq31); (try clear cq31)
    by_cases hc21_32 : (ch q.toNatClampNeg) < (48 : Int32)
    · -- pc 21: yes
      obtain ⟨fs, hr, hrun, hended, hW, hsame⟩ := X31.leave (v := some (.int q)) (fun h => by rw [Bd.returns] at h; cases h)
      refine ⟨_, _, ck33 _ ?_, hrun, hended, _, _, rfl, ?_, ⟨_, rfl⟩, hW, hsame.mono (by decide) (by decide)⟩
      · refine XS.icmpYes X31.here hx rfl (pc0 := 21) (pc' := 42) rfl (hb hby d9_21) rfl (tlt hc21_32).1 (by decide) (by decide) ?_
        refine XS.iloadN X31.here hx rfl (hb hby d9_42) rfl ?_
        exact retOut X31 hx Bd.returns rfl (Or.inl ⟨rfl, Or.inl rfl, _, rfl⟩) (hb hby d9_43) hr
      · show own_DE (own_de ch z.toNatClampNeg i.toNatClampNeg) h0 n0 _ T31.heap _
        rw [e31]
        exact ⟨q, rfl, N31, rfl, by show q.toInt = (own_cnt ch _ _ : Int); omega⟩
    · -- pc 21: no
      obtain ⟨cq34, kq34, q34a, q34b, q34c⟩ := isOf hZ e31 (E_a)
      obtain ⟨_, _, ⟨T34, L34, k34, n34⟩, -, X34, ⟨Lc34, hQ34, l34, y34, z34⟩, st34⟩ := X31.interfaceBack hx (xi := (⟨"java/lang/CharSequence", "charAt", "(I)C"⟩ : MethodName)) (y := (⟨"java/lang/String", "charAt", "(I)C"⟩ : MethodName)) hown (mvT hZ (own_q hw 122 rfl)) (mvT hZ (own_q hw 123 rfl)) (mvT hZ (own_q hw 124 rfl)) (mvT hZ (own_q hw 125 rfl)) (mvT hZ (own_q hw 102 rfl)) (mvT hZ (own_q hw 126 rfl)) (mvT hZ (own_q hw 127 rfl)) (mvT hZ (own_q hw 52 rfl)) (by decide) (backOf (W := 0) (rm_ch l Z a0 hw [] a1 q h0 n0 Z0 vb kb z ch cst fmt hS hT hq0 hc9_30) hZ (own_q hw 104 rfl) (own_q hw 4 rfl) (by decide) (by decide)) q34a q34b q34c (g := (mkF m 26 #[.val (.ref a1), .val (.int i), .val (.int q)] [(.int q), (.ref a1)])) rfl (by rw [hml]; rfl) (Steps.refl _) (argsL := [(.int q)]) (rest := []) (lenOf pd_68 rfl) rfl (by show 2 * 0 + _ ≤ _; exact Nat.le_of_eq rfl) (hb hby d9_26) (fun _ _ => ⟨rfl, e31, (by decide : 0 + 0 ≤ _), (by decide : 0 + 0 ≤ _)⟩)
      dsimp only [Pt.U, Pt.locs, Pt.cells, Pt.slots] at X34 l34 y34 z34 st34 hQ34
      subst l34 y34 z34
      obtain ⟨rfl, N34q, e34⟩ := hQ34
      have N34 := Fr.app N31 N34q
      have ck36 : ∀ t, Steps p.tables e below (T34.setTop (mkF m 33 #[.val (.ref a1), .val (.int i), .val (.int q)] [(.int (57 : Int32)), (.int (ch q.toNatClampNeg))])) t → Steps p.tables e below (s₁.setTop (entryFrame m #[(.ref a1), (.int i)] 3)) t := by
        intro t kt
        refine ck33 _ ?_
        refine XS.icmpNo X31.here hx rfl (hb hby d9_21) rfl (flt hc21_32).1 ?_
        refine XS.aloadN X31.here hx rfl (hb hby d9_24) rfl rfl ?_
        refine XS.iloadN X31.here hx rfl (hb hby d9_25) rfl ?_
        refine st34.trans ?_
        show Steps p.tables e below (T34.setTop (mkF m 31 #[.val (.ref a1), .val (.int i), .val (.int q)] [(.int (ch q.toNatClampNeg))])) _
        refine XS.bipush X34.here hx rfl (hb hby d9_31) ?_
        exact kt
      (try clear N34q); (try clear st34); (try clear Lc34); (try clear n34); (try clear k34); (try clear L34); (try clear q34c); (try clear q34b); (try clear q34a); (try clear kq34); (try clear cq34)
      by_cases hc33_35 : (57 : Int32) < (ch q.toNatClampNeg)
      · -- pc 33: yes
        obtain ⟨fs, hr, hrun, hended, hW, hsame⟩ := X34.leave (v := some (.int q)) (fun h => by rw [Bd.returns] at h; cases h)
        refine ⟨_, _, ck36 _ ?_, hrun, hended, _, _, rfl, ?_, ⟨_, rfl⟩, hW, hsame.mono (by decide) (by decide)⟩
        · refine XS.icmpYes X34.here hx rfl (pc0 := 33) (pc' := 42) rfl (hb hby d9_33) rfl (tlt hc33_35).2.2.1 (by decide) (by decide) ?_
          refine XS.iloadN X34.here hx rfl (hb hby d9_42) rfl ?_
          exact retOut X34 hx Bd.returns rfl (Or.inl ⟨rfl, Or.inl rfl, _, rfl⟩) (hb hby d9_43) hr
        · show own_DE (own_de ch z.toNatClampNeg i.toNatClampNeg) h0 n0 _ T34.heap _
          rw [e34]
          exact ⟨q, rfl, N34, rfl, by show q.toInt = (own_cnt ch _ _ : Int); omega⟩
      · -- pc 33: no
        exfalso; have d_z := hc9_30; rw [Int32.lt_iff_toInt_lt] at d_z; exact hend.elim (fun hh => by omega) (fun hh => hh ⟨hc21_32, hc33_35⟩)
  · -- pc 9: no
    have d_z := hc9_30; rw [Int32.lt_iff_toInt_lt] at d_z
    obtain ⟨fs, hr, hrun, hended, hW, hsame⟩ := X29.leave (v := some (.int q)) (fun h => by rw [Bd.returns] at h; cases h)
    refine ⟨_, _, ckE _ ?_, hrun, hended, _, _, rfl, ?_, ⟨_, rfl⟩, hW, hsame.mono (by decide) (by decide)⟩
    · refine XS.iloadN XE.here hx rfl (hb hby d9_2) rfl ?_
      refine XS.aloadN XE.here hx rfl (hb hby d9_3) rfl rfl ?_
      refine st29.trans ?_
      show Steps p.tables e below (T29.setTop (mkF m 9 #[.val (.ref a1), .val (.int i), .val (.int q)] [(.int z), (.int q)])) _
      refine XS.icmpYes X29.here hx rfl (pc0 := 9) (pc' := 42) rfl (hb hby d9_9) rfl (flt hc9_30).2.1 (by decide) (by decide) ?_
      refine XS.iloadN X29.here hx rfl (hb hby d9_42) rfl ?_
      exact retOut X29 hx Bd.returns rfl (Or.inl ⟨rfl, Or.inl rfl, _, rfl⟩) (hb hby d9_43) hr
    · show own_DE (own_de ch z.toNatClampNeg i.toNatClampNeg) h0 n0 _ T29.heap _
      rw [e29]
      exact ⟨q, rfl, N29, rfl, by show q.toInt = (own_cnt ch _ _ : Int); omega⟩
theorem d24_0 : decode prog_33_method_5_code 0 = .ok (.iload_n 0, 1) := by decide +kernel
theorem d24_1 : decode prog_33_method_5_code 1 = .ok (.bipush 43, 2) := by decide +kernel
theorem d24_3 : decode prog_33_method_5_code 3 = .ok (.if_icmp .eq 9, 3) := by decide +kernel
theorem d24_12 : decode prog_33_method_5_code 12 = .ok (.iconst 1, 1) := by decide +kernel
theorem d24_13 : decode prog_33_method_5_code 13 = .ok (.goto 4, 3) := by decide +kernel
theorem d24_17 : decode prog_33_method_5_code 17 = .ok (.ireturn, 1) := by decide +kernel
theorem d24_6 : decode prog_33_method_5_code 6 = .ok (.iload_n 0, 1) := by decide +kernel
theorem d24_7 : decode prog_33_method_5_code 7 = .ok (.bipush 45, 2) := by decide +kernel
theorem d24_9 : decode prog_33_method_5_code 9 = .ok (.if_icmp .ne 7, 3) := by decide +kernel
theorem d24_16 : decode prog_33_method_5_code 16 = .ok (.iconst 0, 1) := by decide +kernel
theorem ef_rm_sg (m : MethodId) (x0 : Int32) : entryFrame m #[(.int x0)] 1 = mkF m 0 #[.val (.int x0)] [] := by first | (simp [entryFrame, mkF, argsToLocals, Value.category]; done) | rfl
set_option maxRecDepth 65536 in
set_option maxHeartbeats 40000000 in
theorem rm_sg (l : Launch) (Z : State) (a0 : Array Value) (hw : ∀ d ∈ tables_1, d.before a0 Z = true) (ws : List Jvm.Cond) (x : Int32) (h0 : Heap) (n0 : Nat) (Z0 : n0 ≤ h0.size) (r : Int32) (hres : (if x = (43 : Int32) then (1 : Int32) else if x = (45 : Int32) then (1 : Int32) else (0 : Int32)) = r) :
    MetFree l (⟨"com/example/rowstrata/rowstrata/type/Numeral$Bounds", "isSign", "(C)Z"⟩ : MethodName) (head1 (Jvm.Cond.code (⟨"com/example/rowstrata/rowstrata/type/Numeral$Bounds", "isSign", "(C)Z"⟩ : MethodName) prog_33_method_5_code 1 (some .boolean) :: ws) ({ frames := 0, cells := 0, slots := 0, locals := 0 } : Room)) (fun aQ UQ => aQ = #[(.int x)] ∧ Z.Warmed39 UQ.vm ∧ UQ.heap = h0) (fun _ _ _ _ _ => True) (fun _ UQ oQ UR => ∃ vQ LQ, oQ = .returned vQ ∧ own_Pure (some (.int r)) h0 n0 vQ UR.heap LQ ∧ FrameEnd UQ oQ UR LQ ({ frames := 0, cells := 0, slots := 0, locals := 0 } : Room).cells ({ frames := 0, cells := 0, slots := 0, locals := 0 } : Room).slots) := by
  refine MetFree.of_bodySF (plainFor_of_name pn_107) hisR ?_
  intro p e s m args below meth c s₁ Bd hml0 hP hK
  obtain ⟨rfl, hZ, hh⟩ := hP
  have hx := Bd.exec
  have hby := Bd.bytes
  have hml : c.maxLocals = 1 := hml0
  have hown : s.vm.findClass "com/example/rowstrata/rowstrata/type/Numeral$Bounds" = some m.cls := findClass_of_methodNamed Bd.named
  have hnm := (name_of_methodNamed Bd.named Bd.method).1
  have X0 : Stand p l e ({ frames := 0, cells := 0, slots := 0, locals := 0 } : Room) s m #[(.int x)] below meth c s₁ [] 0 0 := Stand.of_body Bd
  have e0 : s₁.heap = h0 := by rw [← hh, Bd.state]; rfl
  have N0 := Fr.nil n0
  have pre0 : ∀ t, Steps p.tables e below (s₁.setTop (mkF m 0 #[.val (.int x)] [])) t → Steps p.tables e below (s₁.setTop (entryFrame m #[(.int x)] 1)) t := fun t kq => castTop (ef_rm_sg m x) kq
  by_cases hc3_37 : x = (43 : Int32)
  · -- pc 3: yes
    obtain ⟨fs, hr, hrun, hended, hW, hsame⟩ := X0.leave (v := some (.int (1 : Int32))) (fun h => by rw [Bd.returns] at h; cases h)
    refine ⟨_, _, pre0 _ ?_, hrun, hended, _, _, rfl, ?_, ⟨_, rfl⟩, hW, hsame.mono (by decide) (by decide)⟩
    · refine XS.iloadN X0.here hx rfl (hb hby d24_0) rfl ?_
      refine XS.bipush X0.here hx rfl (hb hby d24_1) ?_
      refine XS.icmpYes X0.here hx rfl (pc0 := 3) (pc' := 12) rfl (hb hby d24_3) rfl (teq hc3_37).1 (by decide) (by decide) ?_
      refine XS.iconst X0.here hx rfl (hb hby d24_12) ?_
      refine XS.goto X0.here hx rfl (pc0 := 13) (pc' := 17) rfl (hb hby d24_13) (by decide) (by decide) ?_
      exact retN X0 hx (t := .boolean) Bd.returns (by simp) (hb hby d24_17) hr
    · show own_Pure (some (.int r)) h0 n0 _ s₁.heap _
      rw [e0]
      exact ⟨by rw [← hres]; simp only [if_pos hc3_37], N0, rfl⟩
  · -- pc 3: no
    have ck39 : ∀ t, Steps p.tables e below (s₁.setTop (mkF m 9 #[.val (.int x)] [(.int (45 : Int32)), (.int x)])) t → Steps p.tables e below (s₁.setTop (entryFrame m #[(.int x)] 1)) t := by
      intro t kt
      refine pre0 _ ?_
      refine XS.iloadN X0.here hx rfl (hb hby d24_0) rfl ?_
      refine XS.bipush X0.here hx rfl (hb hby d24_1) ?_
      refine XS.icmpNo X0.here hx rfl (hb hby d24_3) rfl (feq hc3_37).1 ?_
      refine XS.iloadN X0.here hx rfl (hb hby d24_6) rfl ?_
      refine XS.bipush X0.here hx rfl (hb hby d24_7) ?_
      exact kt
    by_cases hc9_38 : x = (45 : Int32)
    · -- pc 9: yes
      obtain ⟨fs, hr, hrun, hended, hW, hsame⟩ := X0.leave (v := some (.int (1 : Int32))) (fun h => by rw [Bd.returns] at h; cases h)
      refine ⟨_, _, ck39 _ ?_, hrun, hended, _, _, rfl, ?_, ⟨_, rfl⟩, hW, hsame.mono (by decide) (by decide)⟩
      · refine XS.icmpNo X0.here hx rfl (hb hby d24_9) rfl (teq hc9_38).2 ?_
        refine XS.iconst X0.here hx rfl (hb hby d24_12) ?_
        refine XS.goto X0.here hx rfl (pc0 := 13) (pc' := 17) rfl (hb hby d24_13) (by decide) (by decide) ?_
        exact retN X0 hx (t := .boolean) Bd.returns (by simp) (hb hby d24_17) hr
      · show own_Pure (some (.int r)) h0 n0 _ s₁.heap _
        rw [e0]
        exact ⟨by rw [← hres]; simp only [if_neg hc3_37, if_pos hc9_38], N0, rfl⟩
    · -- pc 9: no
      obtain ⟨fs, hr, hrun, hended, hW, hsame⟩ := X0.leave (v := some (.int (0 : Int32))) (fun h => by rw [Bd.returns] at h; cases h)
      refine ⟨_, _, ck39 _ ?_, hrun, hended, _, _, rfl, ?_, ⟨_, rfl⟩, hW, hsame.mono (by decide) (by decide)⟩
      · refine XS.icmpYes X0.here hx rfl (pc0 := 9) (pc' := 16) rfl (hb hby d24_9) rfl (feq hc9_38).2 (by decide) (by decide) ?_
        refine XS.iconst X0.here hx rfl (hb hby d24_16) ?_
        exact retN X0 hx (t := .boolean) Bd.returns (by simp) (hb hby d24_17) hr
      · show own_Pure (some (.int r)) h0 n0 _ s₁.heap _
        rw [e0]
        exact ⟨by rw [← hres]; simp only [if_neg hc3_37, if_neg hc9_38], N0, rfl⟩
theorem d25_0 : decode prog_33_method_3_code 0 = .ok (.iload_n 1, 1) := by decide +kernel
theorem d25_1 : decode prog_33_method_3_code 1 = .ok (.aload_n 0, 1) := by decide +kernel
theorem d25_2 : decode prog_33_method_3_code 2 = .ok (.invokeinterface 22 1, 5) := by decide +kernel
theorem d25_7 : decode prog_33_method_3_code 7 = .ok (.if_icmp .eq 27, 3) := by decide +kernel
theorem d25_34 : decode prog_33_method_3_code 34 = .ok (.iload_n 1, 1) := by decide +kernel
theorem d25_35 : decode prog_33_method_3_code 35 = .ok (.ireturn, 1) := by decide +kernel
theorem d25_10 : decode prog_33_method_3_code 10 = .ok (.aload_n 0, 1) := by decide +kernel
theorem d25_11 : decode prog_33_method_3_code 11 = .ok (.iload_n 1, 1) := by decide +kernel
theorem d25_12 : decode prog_33_method_3_code 12 = .ok (.invokeinterface 28 2, 5) := by decide +kernel
theorem d25_17 : decode prog_33_method_3_code 17 = .ok (.bipush 101, 2) := by decide +kernel
theorem d25_19 : decode prog_33_method_3_code 19 = .ok (.if_icmp .eq 17, 3) := by decide +kernel
theorem d25_36 : decode prog_33_method_3_code 36 = .ok (.iload_n 1, 1) := by decide +kernel
theorem d25_37 : decode prog_33_method_3_code 37 = .ok (.iconst 1, 1) := by decide +kernel
theorem d25_38 : decode prog_33_method_3_code 38 = .ok (.iadd, 1) := by decide +kernel
theorem d25_39 : decode prog_33_method_3_code 39 = .ok (.aload_n 0, 1) := by decide +kernel
theorem d25_40 : decode prog_33_method_3_code 40 = .ok (.invokeinterface 22 1, 5) := by decide +kernel
theorem d25_45 : decode prog_33_method_3_code 45 = .ok (.if_icmp .ge 24, 3) := by decide +kernel
theorem d25_48 : decode prog_33_method_3_code 48 = .ok (.aload_n 0, 1) := by decide +kernel
theorem d25_49 : decode prog_33_method_3_code 49 = .ok (.iload_n 1, 1) := by decide +kernel
theorem d25_50 : decode prog_33_method_3_code 50 = .ok (.iconst 1, 1) := by decide +kernel
theorem d25_51 : decode prog_33_method_3_code 51 = .ok (.iadd, 1) := by decide +kernel
theorem d25_52 : decode prog_33_method_3_code 52 = .ok (.invokeinterface 28 2, 5) := by decide +kernel
theorem pd_140 : parseMethodDescriptor "(C)Z" = some ⟨[.char], some .boolean⟩ := by decide +kernel
theorem d25_57 : decode prog_33_method_3_code 57 = .ok (.invokestatic 32, 3) := by decide +kernel
theorem d25_60 : decode prog_33_method_3_code 60 = .ok (.ifCond .eq 9, 3) := by decide +kernel
theorem d25_69 : decode prog_33_method_3_code 69 = .ok (.iload_n 1, 1) := by decide +kernel
theorem d25_70 : decode prog_33_method_3_code 70 = .ok (.iconst 1, 1) := by decide +kernel
theorem d25_71 : decode prog_33_method_3_code 71 = .ok (.iadd, 1) := by decide +kernel
theorem d25_72 : decode prog_33_method_3_code 72 = .ok (.istore_n 2, 1) := by decide +kernel
theorem d25_73 : decode prog_33_method_3_code 73 = .ok (.aload_n 0, 1) := by decide +kernel
theorem d25_74 : decode prog_33_method_3_code 74 = .ok (.iload_n 2, 1) := by decide +kernel
theorem pd_149 : parseMethodDescriptor "(Ljava/lang/CharSequence;I)I" = some ⟨[(.object "java/lang/CharSequence"), .int], some .int⟩ := by decide +kernel
theorem d25_75 : decode prog_33_method_3_code 75 = .ok (.invokestatic 36, 3) := by decide +kernel
theorem d25_78 : decode prog_33_method_3_code 78 = .ok (.istore_n 3, 1) := by decide +kernel
theorem d25_79 : decode prog_33_method_3_code 79 = .ok (.iload_n 3, 1) := by decide +kernel
theorem d25_80 : decode prog_33_method_3_code 80 = .ok (.iload_n 2, 1) := by decide +kernel
theorem d25_81 : decode prog_33_method_3_code 81 = .ok (.if_icmp .le 7, 3) := by decide +kernel
theorem d25_84 : decode prog_33_method_3_code 84 = .ok (.iload_n 3, 1) := by decide +kernel
theorem d25_85 : decode prog_33_method_3_code 85 = .ok (.goto 4, 3) := by decide +kernel
theorem d25_89 : decode prog_33_method_3_code 89 = .ok (.ireturn, 1) := by decide +kernel
theorem d25_88 : decode prog_33_method_3_code 88 = .ok (.iload_n 1, 1) := by decide +kernel
theorem d25_63 : decode prog_33_method_3_code 63 = .ok (.iload_n 1, 1) := by decide +kernel
theorem d25_64 : decode prog_33_method_3_code 64 = .ok (.iconst 2, 1) := by decide +kernel
theorem d25_65 : decode prog_33_method_3_code 65 = .ok (.iadd, 1) := by decide +kernel
theorem d25_66 : decode prog_33_method_3_code 66 = .ok (.goto 6, 3) := by decide +kernel
theorem d25_22 : decode prog_33_method_3_code 22 = .ok (.aload_n 0, 1) := by decide +kernel
theorem d25_23 : decode prog_33_method_3_code 23 = .ok (.iload_n 1, 1) := by decide +kernel
theorem d25_24 : decode prog_33_method_3_code 24 = .ok (.invokeinterface 28 2, 5) := by decide +kernel
theorem d25_29 : decode prog_33_method_3_code 29 = .ok (.bipush 69, 2) := by decide +kernel
theorem d25_31 : decode prog_33_method_3_code 31 = .ok (.if_icmp .eq 5, 3) := by decide +kernel
theorem ef_rm_ex (m : MethodId) (x0 : Addr) (x1 : Int32) : entryFrame m #[(.ref x0), (.int x1)] 4 = mkF m 0 #[.val (.ref x0), .val (.int x1), .unset, .unset] [] := by first | (simp [entryFrame, mkF, argsToLocals, Value.category]; done) | rfl
set_option maxRecDepth 65536 in
set_option maxHeartbeats 40000000 in
theorem rm_ex (l : Launch) (Z : State) (a0 : Array Value) (hw : ∀ d ∈ tables_1, d.before a0 Z = true) (ws : List Jvm.Cond) (a1 : Addr) (i : Int32) (h0 : Heap) (n0 : Nat) (Z0 : n0 ≤ h0.size) (vb : Addr) (kb : ClassId) (z : Int32) (ch : Nat → Int32) (cst : Int32) (fmt : Value) (hS : own_S Z h0 a1 vb kb z ch) (hT : own_T Z h0 cst fmt) (hi : 0 ≤ i.toInt ∧ i.toInt ≤ z.toInt) :
    MetFree l (⟨"com/example/rowstrata/rowstrata/type/Numeral$Bounds", "exponentEnd", "(Ljava/lang/CharSequence;I)I"⟩ : MethodName) (head1 (Jvm.Cond.code (⟨"com/example/rowstrata/rowstrata/type/Numeral$Bounds", "exponentEnd", "(Ljava/lang/CharSequence;I)I"⟩ : MethodName) prog_33_method_3_code 4 (some .int) :: ws) ({ frames := 5, cells := 0, slots := 0, locals := 67 } : Room)) (fun aQ UQ => aQ = #[(.ref a1), (.int i)] ∧ Z.Warmed39 UQ.vm ∧ UQ.heap = h0) (fun _ _ _ _ _ => True) (fun _ UQ oQ UR => ∃ vQ LQ, oQ = .returned vQ ∧ own_DE (own_ee ch z.toNatClampNeg i.toNatClampNeg) h0 n0 vQ UR.heap LQ ∧ FrameEnd UQ oQ UR LQ ({ frames := 5, cells := 0, slots := 0, locals := 67 } : Room).cells ({ frames := 5, cells := 0, slots := 0, locals := 67 } : Room).slots) := by
  refine MetFree.of_bodySF (plainFor_of_name pn_107) hisR ?_
  intro p e s m args below meth c s₁ Bd hml0 hP hK
  obtain ⟨rfl, hZ, hh⟩ := hP
  have hx := Bd.exec
  have hby := Bd.bytes
  have hml : c.maxLocals = 4 := hml0
  have hown : s.vm.findClass "com/example/rowstrata/rowstrata/type/Numeral$Bounds" = some m.cls := findClass_of_methodNamed Bd.named
  have hnm := (name_of_methodNamed Bd.named Bd.method).1
  have X0 : Stand p l e ({ frames := 5, cells := 0, slots := 0, locals := 67 } : Room) s m #[(.ref a1), (.int i)] below meth c s₁ [] 0 0 := Stand.of_body Bd
  have e0 : s₁.heap = h0 := by rw [← hh, Bd.state]; rfl
  have N0 := Fr.nil n0
  have pre0 : ∀ t, Steps p.tables e below (s₁.setTop (mkF m 0 #[.val (.ref a1), .val (.int i), .unset, .unset] [])) t → Steps p.tables e below (s₁.setTop (entryFrame m #[(.ref a1), (.int i)] 4)) t := fun t kq => castTop (ef_rm_ex m a1 i) kq
  obtain ⟨E_a, F_v, F_c, B_v, hch⟩ := id hS
  obtain ⟨S_c, hcst, S_f, hfm⟩ := id hT
  obtain ⟨cq40, kq40, q40a, q40b, q40c⟩ := isOf hZ e0 (E_a)
  obtain ⟨_, _, ⟨T40, L40, k40, n40⟩, -, X40, ⟨Lc40, hQ40, l40, y40, z40⟩, st40⟩ := X0.interfaceBack hx (xi := (⟨"java/lang/CharSequence", "length", "()I"⟩ : MethodName)) (y := (⟨"java/lang/String", "length", "()I"⟩ : MethodName)) hown (mvT hZ (own_q hw 46 rfl)) (mvT hZ (own_q hw 47 rfl)) (mvT hZ (own_q hw 48 rfl)) (mvT hZ (own_q hw 49 rfl)) (mvT hZ (own_q hw 29 rfl)) (mvT hZ (own_q hw 50 rfl)) (mvT hZ (own_q hw 51 rfl)) (mvT hZ (own_q hw 52 rfl)) (by decide) (backOf (W := 1) (rm_len l Z a0 hw [] a1 h0 n0 Z0 vb kb z ch cst fmt hS hT) hZ (own_q hw 31 rfl) (own_q hw 4 rfl) (by decide) (by decide)) q40a q40b q40c (g := (mkF m 2 #[.val (.ref a1), .val (.int i), .unset, .unset] [(.ref a1), (.int i)])) rfl (by rw [hml]; rfl) (Steps.refl _) (argsL := []) (rest := [(.int i)]) (lenOf pd_63 rfl) rfl (by show 2 * 0 + _ ≤ _; exact Nat.le_of_eq rfl) (hb hby d25_2) (fun _ _ => ⟨rfl, e0, (by decide : 0 + 0 ≤ _), (by decide : 0 + 0 ≤ _)⟩)
  dsimp only [Pt.U, Pt.locs, Pt.cells, Pt.slots] at X40 l40 y40 z40 st40 hQ40
  subst l40 y40 z40
  obtain ⟨rfl, N40q, e40⟩ := hQ40
  have N40 := Fr.app N0 N40q
  by_cases hc7_41 : i = z
  · -- pc 7: yes
    have t_i := own_tn hi.1
    have t_z := own_tn (x := z) (by omega)
    have hz := congrArg Int32.toInt hc7_41
    have hee := own_ee1 (ch := ch) (n := z.toNatClampNeg) (i := i.toNatClampNeg) (by omega)
    obtain ⟨fs, hr, hrun, hended, hW, hsame⟩ := X40.leave (v := some (.int i)) (fun h => by rw [Bd.returns] at h; cases h)
    refine ⟨_, _, pre0 _ ?_, hrun, hended, _, _, rfl, ?_, ⟨_, rfl⟩, hW, hsame.mono (by decide) (by decide)⟩
    · refine XS.iloadN X0.here hx rfl (hb hby d25_0) rfl ?_
      refine XS.aloadN X0.here hx rfl (hb hby d25_1) rfl rfl ?_
      refine st40.trans ?_
      show Steps p.tables e below (T40.setTop (mkF m 7 #[.val (.ref a1), .val (.int i), .unset, .unset] [(.int z), (.int i)])) _
      refine XS.icmpYes X40.here hx rfl (pc0 := 7) (pc' := 34) rfl (hb hby d25_7) rfl (teq hc7_41).1 (by decide) (by decide) ?_
      refine XS.iloadN X40.here hx rfl (hb hby d25_34) rfl ?_
      exact retOut X40 hx Bd.returns rfl (Or.inl ⟨rfl, Or.inl rfl, _, rfl⟩) (hb hby d25_35) hr
    · show own_DE (own_ee ch z.toNatClampNeg i.toNatClampNeg) h0 n0 _ T40.heap _
      rw [e40]
      exact ⟨_, rfl, N40, rfl, by rw [hee]; omega⟩
  · -- pc 7: no
    have hiz_12 : i < z := own_lt32 (own_i1 hi hc7_41).2
    obtain ⟨cq42, kq42, q42a, q42b, q42c⟩ := isOf hZ e40 (E_a)
    obtain ⟨_, _, ⟨T42, L42, k42, n42⟩, -, X42, ⟨Lc42, hQ42, l42, y42, z42⟩, st42⟩ := X40.interfaceBack hx (xi := (⟨"java/lang/CharSequence", "charAt", "(I)C"⟩ : MethodName)) (y := (⟨"java/lang/String", "charAt", "(I)C"⟩ : MethodName)) hown (mvT hZ (own_q hw 122 rfl)) (mvT hZ (own_q hw 123 rfl)) (mvT hZ (own_q hw 124 rfl)) (mvT hZ (own_q hw 125 rfl)) (mvT hZ (own_q hw 102 rfl)) (mvT hZ (own_q hw 126 rfl)) (mvT hZ (own_q hw 127 rfl)) (mvT hZ (own_q hw 52 rfl)) (by decide) (backOf (W := 0) (rm_ch l Z a0 hw [] a1 i h0 n0 Z0 vb kb z ch cst fmt hS hT (own_nn hi.1) hiz_12) hZ (own_q hw 104 rfl) (own_q hw 4 rfl) (by decide) (by decide)) q42a q42b q42c (g := (mkF m 12 #[.val (.ref a1), .val (.int i), .unset, .unset] [(.int i), (.ref a1)])) rfl (by rw [hml]; rfl) (Steps.refl _) (argsL := [(.int i)]) (rest := []) (lenOf pd_68 rfl) rfl (by show 2 * 0 + _ ≤ _; exact Nat.le_of_eq rfl) (hb hby d25_12) (fun _ _ => ⟨rfl, e40, (by decide : 0 + 0 ≤ _), (by decide : 0 + 0 ≤ _)⟩)
    dsimp only [Pt.U, Pt.locs, Pt.cells, Pt.slots] at X42 l42 y42 z42 st42 hQ42
    subst l42 y42 z42
    obtain ⟨rfl, N42q, e42⟩ := hQ42
    have N42 := Fr.app N40 N42q
    have ck44 : ∀ t, Steps p.tables e below (T42.setTop (mkF m 19 #[.val (.ref a1), .val (.int i), .unset, .unset] [(.int (101 : Int32)), (.int (ch i.toNatClampNeg))])) t → Steps p.tables e below (s₁.setTop (entryFrame m #[(.ref a1), (.int i)] 4)) t := by
      intro t kt
      refine pre0 _ ?_
      refine XS.iloadN X0.here hx rfl (hb hby d25_0) rfl ?_
      refine XS.aloadN X0.here hx rfl (hb hby d25_1) rfl rfl ?_
      refine st40.trans ?_
      show Steps p.tables e below (T40.setTop (mkF m 7 #[.val (.ref a1), .val (.int i), .unset, .unset] [(.int z), (.int i)])) _
      refine XS.icmpNo X40.here hx rfl (hb hby d25_7) rfl (feq hc7_41).1 ?_
      refine XS.aloadN X40.here hx rfl (hb hby d25_10) rfl rfl ?_
      refine XS.iloadN X40.here hx rfl (hb hby d25_11) rfl ?_
      refine st42.trans ?_
      show Steps p.tables e below (T42.setTop (mkF m 17 #[.val (.ref a1), .val (.int i), .unset, .unset] [(.int (ch i.toNatClampNeg))])) _
      refine XS.bipush X42.here hx rfl (hb hby d25_17) ?_
      exact kt
    (try clear N42q); (try clear st42); (try clear Lc42); (try clear n42); (try clear k42); (try clear L42); (try clear q42c); (try clear q42b); (try clear q42a); (try clear kq42); (try clear cq42)
    by_cases hc19_43 : (ch i.toNatClampNeg) = (101 : Int32)
    · -- pc 19: yes
      obtain ⟨i1, h_i1⟩ : ∃ zQ : Int32, (i + (1 : Int32)) = zQ := ⟨_, rfl⟩
      have hi1 : i1.toInt = i.toInt + 1 ∧ i.toInt < z.toInt := by rw [← h_i1]; exact own_i1 hi hc7_41
      obtain ⟨cq45, kq45, q45a, q45b, q45c⟩ := isOf hZ e42 (E_a)
      obtain ⟨_, _, ⟨T45, L45, k45, n45⟩, -, X45, ⟨Lc45, hQ45, l45, y45, z45⟩, st45⟩ := X42.interfaceBack hx (xi := (⟨"java/lang/CharSequence", "length", "()I"⟩ : MethodName)) (y := (⟨"java/lang/String", "length", "()I"⟩ : MethodName)) hown (mvT hZ (own_q hw 46 rfl)) (mvT hZ (own_q hw 47 rfl)) (mvT hZ (own_q hw 48 rfl)) (mvT hZ (own_q hw 49 rfl)) (mvT hZ (own_q hw 29 rfl)) (mvT hZ (own_q hw 50 rfl)) (mvT hZ (own_q hw 51 rfl)) (mvT hZ (own_q hw 52 rfl)) (by decide) (backOf (W := 1) (rm_len l Z a0 hw [] a1 h0 n0 Z0 vb kb z ch cst fmt hS hT) hZ (own_q hw 31 rfl) (own_q hw 4 rfl) (by decide) (by decide)) q45a q45b q45c (g := (mkF m 40 #[.val (.ref a1), .val (.int i), .unset, .unset] [(.ref a1), (.int i1)])) rfl (by rw [hml]; rfl) (Steps.refl _) (argsL := []) (rest := [(.int i1)]) (lenOf pd_63 rfl) rfl (by show 2 * 0 + _ ≤ _; exact Nat.le_of_eq rfl) (hb hby d25_40) (fun _ _ => ⟨rfl, e42, (by decide : 0 + 0 ≤ _), (by decide : 0 + 0 ≤ _)⟩)
      dsimp only [Pt.U, Pt.locs, Pt.cells, Pt.slots] at X45 l45 y45 z45 st45 hQ45
      subst l45 y45 z45
      obtain ⟨rfl, N45q, e45⟩ := hQ45
      have N45 := Fr.app N42 N45q
      have ck47 : ∀ t, Steps p.tables e below (T45.setTop (mkF m 45 #[.val (.ref a1), .val (.int i), .unset, .unset] [(.int z), (.int i1)])) t → Steps p.tables e below (s₁.setTop (entryFrame m #[(.ref a1), (.int i)] 4)) t := by
        intro t kt
        refine ck44 _ ?_
        refine XS.icmpYes X42.here hx rfl (pc0 := 19) (pc' := 36) rfl (hb hby d25_19) rfl (teq hc19_43).1 (by decide) (by decide) ?_
        refine XS.iloadN X42.here hx rfl (hb hby d25_36) rfl ?_
        refine XS.iconst X42.here hx rfl (hb hby d25_37) ?_
        refine XS.iadd X42.here hx rfl (hb hby d25_38) rfl ?_
        show Steps p.tables e below (T42.setTop (mkF m 39 #[.val (.ref a1), .val (.int i), .unset, .unset] [(.int (i + (1 : Int32)))])) _
        rw [h_i1]
        show Steps p.tables e below (T42.setTop (mkF m 39 #[.val (.ref a1), .val (.int i), .unset, .unset] [(.int i1)])) _
        refine XS.aloadN X42.here hx rfl (hb hby d25_39) rfl rfl ?_
        refine st45.trans ?_
        exact kt
      (try clear N45q); (try clear st45); (try clear Lc45); (try clear n45); (try clear k45); (try clear L45); (try clear q45c); (try clear q45b); (try clear q45a); (try clear kq45); (try clear cq45)
      by_cases hc45_46 : i1 < z
      · -- pc 45: yes
        obtain ⟨cq48, kq48, q48a, q48b, q48c⟩ := isOf hZ e45 (E_a)
        obtain ⟨_, _, ⟨T48, L48, k48, n48⟩, -, X48, ⟨Lc48, hQ48, l48, y48, z48⟩, st48⟩ := X45.interfaceBack hx (xi := (⟨"java/lang/CharSequence", "charAt", "(I)C"⟩ : MethodName)) (y := (⟨"java/lang/String", "charAt", "(I)C"⟩ : MethodName)) hown (mvT hZ (own_q hw 122 rfl)) (mvT hZ (own_q hw 123 rfl)) (mvT hZ (own_q hw 124 rfl)) (mvT hZ (own_q hw 125 rfl)) (mvT hZ (own_q hw 102 rfl)) (mvT hZ (own_q hw 126 rfl)) (mvT hZ (own_q hw 127 rfl)) (mvT hZ (own_q hw 52 rfl)) (by decide) (backOf (W := 0) (rm_ch l Z a0 hw [] a1 i1 h0 n0 Z0 vb kb z ch cst fmt hS hT (own_nn (by omega)) hc45_46) hZ (own_q hw 104 rfl) (own_q hw 4 rfl) (by decide) (by decide)) q48a q48b q48c (g := (mkF m 52 #[.val (.ref a1), .val (.int i), .unset, .unset] [(.int i1), (.ref a1)])) rfl (by rw [hml]; rfl) (Steps.refl _) (argsL := [(.int i1)]) (rest := []) (lenOf pd_68 rfl) rfl (by show 2 * 0 + _ ≤ _; exact Nat.le_of_eq rfl) (hb hby d25_52) (fun _ _ => ⟨rfl, e45, (by decide : 0 + 0 ≤ _), (by decide : 0 + 0 ≤ _)⟩)
        dsimp only [Pt.U, Pt.locs, Pt.cells, Pt.slots] at X48 l48 y48 z48 st48 hQ48
        subst l48 y48 z48
        obtain ⟨rfl, N48q, e48⟩ := hQ48
        have N48 := Fr.app N45 N48q
        obtain ⟨sg, h_sg⟩ : ∃ r : Int32, (if (ch i1.toNatClampNeg) = (43 : Int32) then (1 : Int32) else if (ch i1.toNatClampNeg) = (45 : Int32) then (1 : Int32) else (0 : Int32)) = r := ⟨_, rfl⟩
        obtain ⟨_, _, ⟨T49, L49, k49, n49⟩, -, X49, ⟨Lc49, hQ49, l49, y49, z49⟩, st49⟩ := Jvm.LawKit.callS X48 hx (y := (⟨"com/example/rowstrata/rowstrata/type/Numeral$Bounds", "isSign", "(C)Z"⟩ : MethodName)) hown (mvT hZ (own_q hw 128 rfl)) (mvT hZ (own_q hw 129 rfl)) (mvT hZ (own_q hw 44 rfl)) (mvT hZ (own_q hw 130 rfl)) (by decide) (backOf (W := 0) (rm_sg l Z a0 hw [] (ch i1.toNatClampNeg) h0 n0 Z0 sg h_sg) hZ (own_q hw 130 rfl) (own_q hw 44 rfl) (by decide) (by decide)) (g := (mkF m 57 #[.val (.ref a1), .val (.int i), .unset, .unset] [(.int (ch i1.toNatClampNeg))])) rfl (by rw [hml]; rfl) (argsL := [(.int (ch i1.toNatClampNeg))]) (rest := []) (lenOf pd_140 rfl) rfl (by show 2 * 0 + _ ≤ _; exact Nat.le_of_eq rfl) (hb hby d25_57) (fun _ _ => ⟨rfl, e48, (by decide : 0 + 0 ≤ _), (by decide : 0 + 0 ≤ _)⟩)
        dsimp only [Pt.U, Pt.locs, Pt.cells, Pt.slots] at X49 l49 y49 z49 st49 hQ49
        subst l49 y49 z49
        obtain ⟨rfl, N49q, e49⟩ := hQ49
        have N49 := Fr.app N48 N49q
        have ck51 : ∀ t, Steps p.tables e below (T49.setTop (mkF m 60 #[.val (.ref a1), .val (.int i), .unset, .unset] [(.int sg)])) t → Steps p.tables e below (s₁.setTop (entryFrame m #[(.ref a1), (.int i)] 4)) t := by
          intro t kt
          refine ck47 _ ?_
          refine XS.icmpNo X45.here hx rfl (hb hby d25_45) rfl (tlt hc45_46).2.1 ?_
          refine XS.aloadN X45.here hx rfl (hb hby d25_48) rfl rfl ?_
          refine XS.iloadN X45.here hx rfl (hb hby d25_49) rfl ?_
          refine XS.iconst X45.here hx rfl (hb hby d25_50) ?_
          refine XS.iadd X45.here hx rfl (hb hby d25_51) rfl ?_
          show Steps p.tables e below (T45.setTop (mkF m 52 #[.val (.ref a1), .val (.int i), .unset, .unset] [(.int (i + (1 : Int32))), (.ref a1)])) _
          rw [h_i1]
          show Steps p.tables e below (T45.setTop (mkF m 52 #[.val (.ref a1), .val (.int i), .unset, .unset] [(.int i1), (.ref a1)])) _
          refine st48.trans ?_
          show Steps p.tables e below (T48.setTop (mkF m 57 #[.val (.ref a1), .val (.int i), .unset, .unset] [(.int (ch i1.toNatClampNeg))])) _
          refine st49 _ ?_
          exact kt
        (try clear N49q); (try clear st49); (try clear Lc49); (try clear n49); (try clear k49); (try clear L49); (try clear N48); (try clear e48); (try clear N48q); (try clear st48); (try clear Lc48); (try clear X48); (try clear n48); (try clear k48); (try clear L48); (try clear T48); (try clear q48c); (try clear q48b); (try clear q48a); (try clear kq48); (try clear cq48)
        by_cases hc60_50 : sg = (0 : Int32)
        · -- pc 60: yes
          obtain ⟨_, _, ⟨T52, L52, k52, n52⟩, -, X52, ⟨Lc52, hQ52, l52, y52, z52⟩, st52⟩ := Jvm.LawKit.callS X49 hx (y := (⟨"com/example/rowstrata/rowstrata/type/Numeral$Bounds", "digitsEnd", "(Ljava/lang/CharSequence;I)I"⟩ : MethodName)) hown (mvT hZ (own_q hw 53 rfl)) (mvT hZ (own_q hw 54 rfl)) (mvT hZ (own_q hw 44 rfl)) (mvT hZ (own_q hw 55 rfl)) (by decide) (backOf (W := 0) (rm_de l Z a0 hw [] a1 i1 h0 n0 Z0 vb kb z ch cst fmt hS hT (by omega)) hZ (own_q hw 55 rfl) (own_q hw 44 rfl) (by decide) (by decide)) (g := (mkF m 75 #[.val (.ref a1), .val (.int i), .val (.int i1), .unset] [(.int i1), (.ref a1)])) rfl (by rw [hml]; rfl) (argsL := [(.ref a1), (.int i1)]) (rest := []) (lenOf pd_149 rfl) rfl (by show 2 * 0 + _ ≤ _; exact Nat.le_of_eq rfl) (hb hby d25_75) (fun _ _ => ⟨rfl, e49, (by decide : 0 + 0 ≤ _), (by decide : 0 + 0 ≤ _)⟩)
          dsimp only [Pt.U, Pt.locs, Pt.cells, Pt.slots] at X52 l52 y52 z52 st52 hQ52
          subst l52 y52 z52
          obtain ⟨rd, rfl, N52q, e52, h_rd⟩ := hQ52
          have N52 := Fr.app N49 N52q
          have ck54 : ∀ t, Steps p.tables e below (T52.setTop (mkF m 81 #[.val (.ref a1), .val (.int i), .val (.int i1), .val (.int rd)] [(.int i1), (.int rd)])) t → Steps p.tables e below (s₁.setTop (entryFrame m #[(.ref a1), (.int i)] 4)) t := by
            intro t kt
            refine ck51 _ ?_
            refine XS.ifYes X49.here hx rfl (pc0 := 60) (pc' := 69) rfl (hb hby d25_60) rfl ((if0 _ _).trans (teq hc60_50).1) (by decide) (by decide) ?_
            refine XS.iloadN X49.here hx rfl (hb hby d25_69) rfl ?_
            refine XS.iconst X49.here hx rfl (hb hby d25_70) ?_
            refine XS.iadd X49.here hx rfl (hb hby d25_71) rfl ?_
            show Steps p.tables e below (T49.setTop (mkF m 72 #[.val (.ref a1), .val (.int i), .unset, .unset] [(.int (i + (1 : Int32)))])) _
            rw [h_i1]
            show Steps p.tables e below (T49.setTop (mkF m 72 #[.val (.ref a1), .val (.int i), .unset, .unset] [(.int i1)])) _
            refine XS.istoreN X49.here hx rfl (hb hby d25_72) rfl (l' := #[.val (.ref a1), .val (.int i), .val (.int i1), .unset]) rfl ?_
            refine XS.aloadN X49.here hx rfl (hb hby d25_73) rfl rfl ?_
            refine XS.iloadN X49.here hx rfl (hb hby d25_74) rfl ?_
            refine st52 _ ?_
            show Steps p.tables e below (T52.setTop (mkF m 78 #[.val (.ref a1), .val (.int i), .val (.int i1), .unset] [(.int rd)])) _
            refine XS.istoreN X52.here hx rfl (hb hby d25_78) rfl (l' := #[.val (.ref a1), .val (.int i), .val (.int i1), .val (.int rd)]) rfl ?_
            refine XS.iloadN X52.here hx rfl (hb hby d25_79) rfl ?_
            refine XS.iloadN X52.here hx rfl (hb hby d25_80) rfl ?_
            exact kt
          (try clear N52q); (try clear st52); (try clear Lc52); (try clear n52); (try clear k52); (try clear L52)
          by_cases hc81_53 : i1 < rd
          · -- pc 81: yes
            have t_i := own_tn hi.1
            have t_z := own_tn (x := z) (by omega)
            have t_1 := own_tn (x := i1) (by omega)
            have n_1 : i1.toNatClampNeg = i.toNatClampNeg + 1 := by omega
            have t_d := own_tn (x := i1) (by omega)
            have hl1 := hc45_46; rw [Int32.lt_iff_toInt_lt] at hl1
            have hxx := own_x3 (ch := ch) (n := z.toNatClampNeg) (i := i.toNatClampNeg) (by rw [← n_1]; exact (own_sg0 h_sg).1 hc60_50)
            have hxd : own_x ch z.toNatClampNeg i.toNatClampNeg = i1.toNatClampNeg := by omega
            have hl2 := hc81_53; rw [Int32.lt_iff_toInt_lt] at hl2
            have hee := own_ee3 (by omega) (Or.inl hc19_43) hxd (by omega)
            obtain ⟨fs, hr, hrun, hended, hW, hsame⟩ := X52.leave (v := some (.int rd)) (fun h => by rw [Bd.returns] at h; cases h)
            refine ⟨_, _, ck54 _ ?_, hrun, hended, _, _, rfl, ?_, ⟨_, rfl⟩, hW, hsame.mono (by decide) (by decide)⟩
            · refine XS.icmpNo X52.here hx rfl (hb hby d25_81) rfl (tlt hc81_53).2.2.2 ?_
              refine XS.iloadN X52.here hx rfl (hb hby d25_84) rfl ?_
              refine XS.goto X52.here hx rfl (pc0 := 85) (pc' := 89) rfl (hb hby d25_85) (by decide) (by decide) ?_
              exact retOut X52 hx Bd.returns rfl (Or.inl ⟨rfl, Or.inl rfl, _, rfl⟩) (hb hby d25_89) hr
            · show own_DE (own_ee ch z.toNatClampNeg i.toNatClampNeg) h0 n0 _ T52.heap _
              rw [e52]
              exact ⟨_, rfl, N52, rfl, by rw [hee]; omega⟩
          · -- pc 81: no
            have t_i := own_tn hi.1
            have t_z := own_tn (x := z) (by omega)
            have t_1 := own_tn (x := i1) (by omega)
            have n_1 : i1.toNatClampNeg = i.toNatClampNeg + 1 := by omega
            have t_d := own_tn (x := i1) (by omega)
            have hl1 := hc45_46; rw [Int32.lt_iff_toInt_lt] at hl1
            have hxx := own_x3 (ch := ch) (n := z.toNatClampNeg) (i := i.toNatClampNeg) (by rw [← n_1]; exact (own_sg0 h_sg).1 hc60_50)
            have hxd : own_x ch z.toNatClampNeg i.toNatClampNeg = i1.toNatClampNeg := by omega
            have hl2 := hc81_53; rw [Int32.lt_iff_toInt_lt] at hl2
            have hee := own_ee4 hxd (by omega)
            obtain ⟨fs, hr, hrun, hended, hW, hsame⟩ := X52.leave (v := some (.int i)) (fun h => by rw [Bd.returns] at h; cases h)
            refine ⟨_, _, ck54 _ ?_, hrun, hended, _, _, rfl, ?_, ⟨_, rfl⟩, hW, hsame.mono (by decide) (by decide)⟩
            · refine XS.icmpYes X52.here hx rfl (pc0 := 81) (pc' := 88) rfl (hb hby d25_81) rfl (flt hc81_53).2.2.2 (by decide) (by decide) ?_
              refine XS.iloadN X52.here hx rfl (hb hby d25_88) rfl ?_
              exact retOut X52 hx Bd.returns rfl (Or.inl ⟨rfl, Or.inl rfl, _, rfl⟩) (hb hby d25_89) hr
            · show own_DE (own_ee ch z.toNatClampNeg i.toNatClampNeg) h0 n0 _ T52.heap _
              rw [e52]
              exact ⟨_, rfl, N52, rfl, by rw [hee]; omega⟩
        · -- pc 60: no
          obtain ⟨i2, h_i2⟩ : ∃ zQ : Int32, (i + (2 : Int32)) = zQ := ⟨_, rfl⟩
          have hi2 : i2.toInt = i.toInt + 2 := by rw [← h_i2]; have hlt := hc45_46; rw [Int32.lt_iff_toInt_lt] at hlt; exact own_i2 (z := z) hi.1 (by omega)
          have hlt2 : i.toInt + 1 < z.toInt := by have hlt := hc45_46; rw [Int32.lt_iff_toInt_lt] at hlt; omega
          obtain ⟨_, _, ⟨T55, L55, k55, n55⟩, -, X55, ⟨Lc55, hQ55, l55, y55, z55⟩, st55⟩ := Jvm.LawKit.callS X49 hx (y := (⟨"com/example/rowstrata/rowstrata/type/Numeral$Bounds", "digitsEnd", "(Ljava/lang/CharSequence;I)I"⟩ : MethodName)) hown (mvT hZ (own_q hw 53 rfl)) (mvT hZ (own_q hw 54 rfl)) (mvT hZ (own_q hw 44 rfl)) (mvT hZ (own_q hw 55 rfl)) (by decide) (backOf (W := 0) (rm_de l Z a0 hw [] a1 i2 h0 n0 Z0 vb kb z ch cst fmt hS hT (by omega)) hZ (own_q hw 55 rfl) (own_q hw 44 rfl) (by decide) (by decide)) (g := (mkF m 75 #[.val (.ref a1), .val (.int i), .val (.int i2), .unset] [(.int i2), (.ref a1)])) rfl (by rw [hml]; rfl) (argsL := [(.ref a1), (.int i2)]) (rest := []) (lenOf pd_149 rfl) rfl (by show 2 * 0 + _ ≤ _; exact Nat.le_of_eq rfl) (hb hby d25_75) (fun _ _ => ⟨rfl, e49, (by decide : 0 + 0 ≤ _), (by decide : 0 + 0 ≤ _)⟩)
          dsimp only [Pt.U, Pt.locs, Pt.cells, Pt.slots] at X55 l55 y55 z55 st55 hQ55
          subst l55 y55 z55
          obtain ⟨rd, rfl, N55q, e55, h_rd⟩ := hQ55
          have N55 := Fr.app N49 N55q
          have ck57 : ∀ t, Steps p.tables e below (T55.setTop (mkF m 81 #[.val (.ref a1), .val (.int i), .val (.int i2), .val (.int rd)] [(.int i2), (.int rd)])) t → Steps p.tables e below (s₁.setTop (entryFrame m #[(.ref a1), (.int i)] 4)) t := by
            intro t kt
            refine ck51 _ ?_
            refine XS.ifNo X49.here hx rfl (hb hby d25_60) rfl ((if0 _ _).trans (feq hc60_50).1) ?_
            refine XS.iloadN X49.here hx rfl (hb hby d25_63) rfl ?_
            refine XS.iconst X49.here hx rfl (hb hby d25_64) ?_
            refine XS.iadd X49.here hx rfl (hb hby d25_65) rfl ?_
            show Steps p.tables e below (T49.setTop (mkF m 66 #[.val (.ref a1), .val (.int i), .unset, .unset] [(.int (i + (2 : Int32)))])) _
            rw [h_i2]
            show Steps p.tables e below (T49.setTop (mkF m 66 #[.val (.ref a1), .val (.int i), .unset, .unset] [(.int i2)])) _
            refine XS.goto X49.here hx rfl (pc0 := 66) (pc' := 72) rfl (hb hby d25_66) (by decide) (by decide) ?_
            refine XS.istoreN X49.here hx rfl (hb hby d25_72) rfl (l' := #[.val (.ref a1), .val (.int i), .val (.int i2), .unset]) rfl ?_
            refine XS.aloadN X49.here hx rfl (hb hby d25_73) rfl rfl ?_
            refine XS.iloadN X49.here hx rfl (hb hby d25_74) rfl ?_
            refine st55 _ ?_
            show Steps p.tables e below (T55.setTop (mkF m 78 #[.val (.ref a1), .val (.int i), .val (.int i2), .unset] [(.int rd)])) _
            refine XS.istoreN X55.here hx rfl (hb hby d25_78) rfl (l' := #[.val (.ref a1), .val (.int i), .val (.int i2), .val (.int rd)]) rfl ?_
            refine XS.iloadN X55.here hx rfl (hb hby d25_79) rfl ?_
            refine XS.iloadN X55.here hx rfl (hb hby d25_80) rfl ?_
            exact kt
          (try clear N55q); (try clear st55); (try clear Lc55); (try clear n55); (try clear k55); (try clear L55)
          by_cases hc81_56 : i2 < rd
          · -- pc 81: yes
            have t_i := own_tn hi.1
            have t_z := own_tn (x := z) (by omega)
            have t_1 := own_tn (x := i1) (by omega)
            have n_1 : i1.toNatClampNeg = i.toNatClampNeg + 1 := by omega
            have t_d := own_tn (x := i2) (by omega)
            have hl1 := hc45_46; rw [Int32.lt_iff_toInt_lt] at hl1
            have hxx := own_x1 (ch := ch) (n := z.toNatClampNeg) (i := i.toNatClampNeg) (by omega) (by rw [← n_1]; exact (own_sg0 h_sg).2 hc60_50)
            have hxd : own_x ch z.toNatClampNeg i.toNatClampNeg = i2.toNatClampNeg := by omega
            have hl2 := hc81_56; rw [Int32.lt_iff_toInt_lt] at hl2
            have hee := own_ee3 (by omega) (Or.inl hc19_43) hxd (by omega)
            obtain ⟨fs, hr, hrun, hended, hW, hsame⟩ := X55.leave (v := some (.int rd)) (fun h => by rw [Bd.returns] at h; cases h)
            refine ⟨_, _, ck57 _ ?_, hrun, hended, _, _, rfl, ?_, ⟨_, rfl⟩, hW, hsame.mono (by decide) (by decide)⟩
            · refine XS.icmpNo X55.here hx rfl (hb hby d25_81) rfl (tlt hc81_56).2.2.2 ?_
              refine XS.iloadN X55.here hx rfl (hb hby d25_84) rfl ?_
              refine XS.goto X55.here hx rfl (pc0 := 85) (pc' := 89) rfl (hb hby d25_85) (by decide) (by decide) ?_
              exact retOut X55 hx Bd.returns rfl (Or.inl ⟨rfl, Or.inl rfl, _, rfl⟩) (hb hby d25_89) hr
            · show own_DE (own_ee ch z.toNatClampNeg i.toNatClampNeg) h0 n0 _ T55.heap _
              rw [e55]
              exact ⟨_, rfl, N55, rfl, by rw [hee]; omega⟩
          · -- pc 81: no
            have t_i := own_tn hi.1
            have t_z := own_tn (x := z) (by omega)
            have t_1 := own_tn (x := i1) (by omega)
            have n_1 : i1.toNatClampNeg = i.toNatClampNeg + 1 := by omega
            have t_d := own_tn (x := i2) (by omega)
            have hl1 := hc45_46; rw [Int32.lt_iff_toInt_lt] at hl1
            have hxx := own_x1 (ch := ch) (n := z.toNatClampNeg) (i := i.toNatClampNeg) (by omega) (by rw [← n_1]; exact (own_sg0 h_sg).2 hc60_50)
            have hxd : own_x ch z.toNatClampNeg i.toNatClampNeg = i2.toNatClampNeg := by omega
            have hl2 := hc81_56; rw [Int32.lt_iff_toInt_lt] at hl2
            have hee := own_ee4 hxd (by omega)
            obtain ⟨fs, hr, hrun, hended, hW, hsame⟩ := X55.leave (v := some (.int i)) (fun h => by rw [Bd.returns] at h; cases h)
            refine ⟨_, _, ck57 _ ?_, hrun, hended, _, _, rfl, ?_, ⟨_, rfl⟩, hW, hsame.mono (by decide) (by decide)⟩
            · refine XS.icmpYes X55.here hx rfl (pc0 := 81) (pc' := 88) rfl (hb hby d25_81) rfl (flt hc81_56).2.2.2 (by decide) (by decide) ?_
              refine XS.iloadN X55.here hx rfl (hb hby d25_88) rfl ?_
              exact retOut X55 hx Bd.returns rfl (Or.inl ⟨rfl, Or.inl rfl, _, rfl⟩) (hb hby d25_89) hr
            · show own_DE (own_ee ch z.toNatClampNeg i.toNatClampNeg) h0 n0 _ T55.heap _
              rw [e55]
              exact ⟨_, rfl, N55, rfl, by rw [hee]; omega⟩
      · -- pc 45: no
        obtain ⟨_, _, ⟨T58, L58, k58, n58⟩, -, X58, ⟨Lc58, hQ58, l58, y58, z58⟩, st58⟩ := Jvm.LawKit.callS X45 hx (y := (⟨"com/example/rowstrata/rowstrata/type/Numeral$Bounds", "digitsEnd", "(Ljava/lang/CharSequence;I)I"⟩ : MethodName)) hown (mvT hZ (own_q hw 53 rfl)) (mvT hZ (own_q hw 54 rfl)) (mvT hZ (own_q hw 44 rfl)) (mvT hZ (own_q hw 55 rfl)) (by decide) (backOf (W := 0) (rm_de l Z a0 hw [] a1 i1 h0 n0 Z0 vb kb z ch cst fmt hS hT (by omega)) hZ (own_q hw 55 rfl) (own_q hw 44 rfl) (by decide) (by decide)) (g := (mkF m 75 #[.val (.ref a1), .val (.int i), .val (.int i1), .unset] [(.int i1), (.ref a1)])) rfl (by rw [hml]; rfl) (argsL := [(.ref a1), (.int i1)]) (rest := []) (lenOf pd_149 rfl) rfl (by show 2 * 0 + _ ≤ _; exact Nat.le_of_eq rfl) (hb hby d25_75) (fun _ _ => ⟨rfl, e45, (by decide : 0 + 0 ≤ _), (by decide : 0 + 0 ≤ _)⟩)
        dsimp only [Pt.U, Pt.locs, Pt.cells, Pt.slots] at X58 l58 y58 z58 st58 hQ58
        subst l58 y58 z58
        obtain ⟨rd, rfl, N58q, e58, h_rd⟩ := hQ58
        have N58 := Fr.app N45 N58q
        have ck60 : ∀ t, Steps p.tables e below (T58.setTop (mkF m 81 #[.val (.ref a1), .val (.int i), .val (.int i1), .val (.int rd)] [(.int i1), (.int rd)])) t → Steps p.tables e below (s₁.setTop (entryFrame m #[(.ref a1), (.int i)] 4)) t := by
          intro t kt
          refine ck47 _ ?_
          refine XS.icmpYes X45.here hx rfl (pc0 := 45) (pc' := 69) rfl (hb hby d25_45) rfl (flt hc45_46).2.1 (by decide) (by decide) ?_
          refine XS.iloadN X45.here hx rfl (hb hby d25_69) rfl ?_
          refine XS.iconst X45.here hx rfl (hb hby d25_70) ?_
          refine XS.iadd X45.here hx rfl (hb hby d25_71) rfl ?_
          show Steps p.tables e below (T45.setTop (mkF m 72 #[.val (.ref a1), .val (.int i), .unset, .unset] [(.int (i + (1 : Int32)))])) _
          rw [h_i1]
          show Steps p.tables e below (T45.setTop (mkF m 72 #[.val (.ref a1), .val (.int i), .unset, .unset] [(.int i1)])) _
          refine XS.istoreN X45.here hx rfl (hb hby d25_72) rfl (l' := #[.val (.ref a1), .val (.int i), .val (.int i1), .unset]) rfl ?_
          refine XS.aloadN X45.here hx rfl (hb hby d25_73) rfl rfl ?_
          refine XS.iloadN X45.here hx rfl (hb hby d25_74) rfl ?_
          refine st58 _ ?_
          show Steps p.tables e below (T58.setTop (mkF m 78 #[.val (.ref a1), .val (.int i), .val (.int i1), .unset] [(.int rd)])) _
          refine XS.istoreN X58.here hx rfl (hb hby d25_78) rfl (l' := #[.val (.ref a1), .val (.int i), .val (.int i1), .val (.int rd)]) rfl ?_
          refine XS.iloadN X58.here hx rfl (hb hby d25_79) rfl ?_
          refine XS.iloadN X58.here hx rfl (hb hby d25_80) rfl ?_
          exact kt
        (try clear N58q); (try clear st58); (try clear Lc58); (try clear n58); (try clear k58); (try clear L58)
        by_cases hc81_59 : i1 < rd
        · -- pc 81: yes
          have t_i := own_tn hi.1
          have t_z := own_tn (x := z) (by omega)
          have t_1 := own_tn (x := i1) (by omega)
          have n_1 : i1.toNatClampNeg = i.toNatClampNeg + 1 := by omega
          have t_d := own_tn (x := i1) (by omega)
          have hl1 := hc45_46; rw [Int32.lt_iff_toInt_lt] at hl1
          have hxx := own_x2 (ch := ch) (n := z.toNatClampNeg) (i := i.toNatClampNeg) (by omega)
          have hxd : own_x ch z.toNatClampNeg i.toNatClampNeg = i1.toNatClampNeg := by omega
          have hl2 := hc81_59; rw [Int32.lt_iff_toInt_lt] at hl2
          have hee := own_ee3 (by omega) (Or.inl hc19_43) hxd (by omega)
          obtain ⟨fs, hr, hrun, hended, hW, hsame⟩ := X58.leave (v := some (.int rd)) (fun h => by rw [Bd.returns] at h; cases h)
          refine ⟨_, _, ck60 _ ?_, hrun, hended, _, _, rfl, ?_, ⟨_, rfl⟩, hW, hsame.mono (by decide) (by decide)⟩
          · refine XS.icmpNo X58.here hx rfl (hb hby d25_81) rfl (tlt hc81_59).2.2.2 ?_
            refine XS.iloadN X58.here hx rfl (hb hby d25_84) rfl ?_
            refine XS.goto X58.here hx rfl (pc0 := 85) (pc' := 89) rfl (hb hby d25_85) (by decide) (by decide) ?_
            exact retOut X58 hx Bd.returns rfl (Or.inl ⟨rfl, Or.inl rfl, _, rfl⟩) (hb hby d25_89) hr
          · show own_DE (own_ee ch z.toNatClampNeg i.toNatClampNeg) h0 n0 _ T58.heap _
            rw [e58]
            exact ⟨_, rfl, N58, rfl, by rw [hee]; omega⟩
        · -- pc 81: no
          have t_i := own_tn hi.1
          have t_z := own_tn (x := z) (by omega)
          have t_1 := own_tn (x := i1) (by omega)
          have n_1 : i1.toNatClampNeg = i.toNatClampNeg + 1 := by omega
          have t_d := own_tn (x := i1) (by omega)
          have hl1 := hc45_46; rw [Int32.lt_iff_toInt_lt] at hl1
          have hxx := own_x2 (ch := ch) (n := z.toNatClampNeg) (i := i.toNatClampNeg) (by omega)
          have hxd : own_x ch z.toNatClampNeg i.toNatClampNeg = i1.toNatClampNeg := by omega
          have hl2 := hc81_59; rw [Int32.lt_iff_toInt_lt] at hl2
          have hee := own_ee4 hxd (by omega)
          obtain ⟨fs, hr, hrun, hended, hW, hsame⟩ := X58.leave (v := some (.int i)) (fun h => by rw [Bd.returns] at h; cases h)
          refine ⟨_, _, ck60 _ ?_, hrun, hended, _, _, rfl, ?_, ⟨_, rfl⟩, hW, hsame.mono (by decide) (by decide)⟩
          · refine XS.icmpYes X58.here hx rfl (pc0 := 81) (pc' := 88) rfl (hb hby d25_81) rfl (flt hc81_59).2.2.2 (by decide) (by decide) ?_
            refine XS.iloadN X58.here hx rfl (hb hby d25_88) rfl ?_
            exact retOut X58 hx Bd.returns rfl (Or.inl ⟨rfl, Or.inl rfl, _, rfl⟩) (hb hby d25_89) hr
          · show own_DE (own_ee ch z.toNatClampNeg i.toNatClampNeg) h0 n0 _ T58.heap _
            rw [e58]
            exact ⟨_, rfl, N58, rfl, by rw [hee]; omega⟩
    · -- pc 19: no
      have hiz_24 : i < z := own_lt32 (own_i1 hi hc7_41).2
      obtain ⟨cq61, kq61, q61a, q61b, q61c⟩ := isOf hZ e42 (E_a)
      obtain ⟨_, _, ⟨T61, L61, k61, n61⟩, -, X61, ⟨Lc61, hQ61, l61, y61, z61⟩, st61⟩ := X42.interfaceBack hx (xi := (⟨"java/lang/CharSequence", "charAt", "(I)C"⟩ : MethodName)) (y := (⟨"java/lang/String", "charAt", "(I)C"⟩ : MethodName)) hown (mvT hZ (own_q hw 122 rfl)) (mvT hZ (own_q hw 123 rfl)) (mvT hZ (own_q hw 124 rfl)) (mvT hZ (own_q hw 125 rfl)) (mvT hZ (own_q hw 102 rfl)) (mvT hZ (own_q hw 126 rfl)) (mvT hZ (own_q hw 127 rfl)) (mvT hZ (own_q hw 52 rfl)) (by decide) (backOf (W := 0) (rm_ch l Z a0 hw [] a1 i h0 n0 Z0 vb kb z ch cst fmt hS hT (own_nn hi.1) hiz_24) hZ (own_q hw 104 rfl) (own_q hw 4 rfl) (by decide) (by decide)) q61a q61b q61c (g := (mkF m 24 #[.val (.ref a1), .val (.int i), .unset, .unset] [(.int i), (.ref a1)])) rfl (by rw [hml]; rfl) (Steps.refl _) (argsL := [(.int i)]) (rest := []) (lenOf pd_68 rfl) rfl (by show 2 * 0 + _ ≤ _; exact Nat.le_of_eq rfl) (hb hby d25_24) (fun _ _ => ⟨rfl, e42, (by decide : 0 + 0 ≤ _), (by decide : 0 + 0 ≤ _)⟩)
      dsimp only [Pt.U, Pt.locs, Pt.cells, Pt.slots] at X61 l61 y61 z61 st61 hQ61
      subst l61 y61 z61
      obtain ⟨rfl, N61q, e61⟩ := hQ61
      have N61 := Fr.app N42 N61q
      have ck63 : ∀ t, Steps p.tables e below (T61.setTop (mkF m 31 #[.val (.ref a1), .val (.int i), .unset, .unset] [(.int (69 : Int32)), (.int (ch i.toNatClampNeg))])) t → Steps p.tables e below (s₁.setTop (entryFrame m #[(.ref a1), (.int i)] 4)) t := by
        intro t kt
        refine ck44 _ ?_
        refine XS.icmpNo X42.here hx rfl (hb hby d25_19) rfl (feq hc19_43).1 ?_
        refine XS.aloadN X42.here hx rfl (hb hby d25_22) rfl rfl ?_
        refine XS.iloadN X42.here hx rfl (hb hby d25_23) rfl ?_
        refine st61.trans ?_
        show Steps p.tables e below (T61.setTop (mkF m 29 #[.val (.ref a1), .val (.int i), .unset, .unset] [(.int (ch i.toNatClampNeg))])) _
        refine XS.bipush X61.here hx rfl (hb hby d25_29) ?_
        exact kt
      (try clear N61q); (try clear st61); (try clear Lc61); (try clear n61); (try clear k61); (try clear L61); (try clear q61c); (try clear q61b); (try clear q61a); (try clear kq61); (try clear cq61)
      by_cases hc31_62 : (ch i.toNatClampNeg) = (69 : Int32)
      · -- pc 31: yes
        obtain ⟨i1, h_i1⟩ : ∃ zQ : Int32, (i + (1 : Int32)) = zQ := ⟨_, rfl⟩
        have hi1 : i1.toInt = i.toInt + 1 ∧ i.toInt < z.toInt := by rw [← h_i1]; exact own_i1 hi hc7_41
        obtain ⟨cq64, kq64, q64a, q64b, q64c⟩ := isOf hZ e61 (E_a)
        obtain ⟨_, _, ⟨T64, L64, k64, n64⟩, -, X64, ⟨Lc64, hQ64, l64, y64, z64⟩, st64⟩ := X61.interfaceBack hx (xi := (⟨"java/lang/CharSequence", "length", "()I"⟩ : MethodName)) (y := (⟨"java/lang/String", "length", "()I"⟩ : MethodName)) hown (mvT hZ (own_q hw 46 rfl)) (mvT hZ (own_q hw 47 rfl)) (mvT hZ (own_q hw 48 rfl)) (mvT hZ (own_q hw 49 rfl)) (mvT hZ (own_q hw 29 rfl)) (mvT hZ (own_q hw 50 rfl)) (mvT hZ (own_q hw 51 rfl)) (mvT hZ (own_q hw 52 rfl)) (by decide) (backOf (W := 1) (rm_len l Z a0 hw [] a1 h0 n0 Z0 vb kb z ch cst fmt hS hT) hZ (own_q hw 31 rfl) (own_q hw 4 rfl) (by decide) (by decide)) q64a q64b q64c (g := (mkF m 40 #[.val (.ref a1), .val (.int i), .unset, .unset] [(.ref a1), (.int i1)])) rfl (by rw [hml]; rfl) (Steps.refl _) (argsL := []) (rest := [(.int i1)]) (lenOf pd_63 rfl) rfl (by show 2 * 0 + _ ≤ _; exact Nat.le_of_eq rfl) (hb hby d25_40) (fun _ _ => ⟨rfl, e61, (by decide : 0 + 0 ≤ _), (by decide : 0 + 0 ≤ _)⟩)
        dsimp only [Pt.U, Pt.locs, Pt.cells, Pt.slots] at X64 l64 y64 z64 st64 hQ64
        subst l64 y64 z64
        obtain ⟨rfl, N64q, e64⟩ := hQ64
        have N64 := Fr.app N61 N64q
        have ck66 : ∀ t, Steps p.tables e below (T64.setTop (mkF m 45 #[.val (.ref a1), .val (.int i), .unset, .unset] [(.int z), (.int i1)])) t → Steps p.tables e below (s₁.setTop (entryFrame m #[(.ref a1), (.int i)] 4)) t := by
          intro t kt
          refine ck63 _ ?_
          refine XS.icmpYes X61.here hx rfl (pc0 := 31) (pc' := 36) rfl (hb hby d25_31) rfl (teq hc31_62).1 (by decide) (by decide) ?_
          refine XS.iloadN X61.here hx rfl (hb hby d25_36) rfl ?_
          refine XS.iconst X61.here hx rfl (hb hby d25_37) ?_
          refine XS.iadd X61.here hx rfl (hb hby d25_38) rfl ?_
          show Steps p.tables e below (T61.setTop (mkF m 39 #[.val (.ref a1), .val (.int i), .unset, .unset] [(.int (i + (1 : Int32)))])) _
          rw [h_i1]
          show Steps p.tables e below (T61.setTop (mkF m 39 #[.val (.ref a1), .val (.int i), .unset, .unset] [(.int i1)])) _
          refine XS.aloadN X61.here hx rfl (hb hby d25_39) rfl rfl ?_
          refine st64.trans ?_
          exact kt
        (try clear N64q); (try clear st64); (try clear Lc64); (try clear n64); (try clear k64); (try clear L64); (try clear q64c); (try clear q64b); (try clear q64a); (try clear kq64); (try clear cq64)
        by_cases hc45_65 : i1 < z
        · -- pc 45: yes
          obtain ⟨cq67, kq67, q67a, q67b, q67c⟩ := isOf hZ e64 (E_a)
          obtain ⟨_, _, ⟨T67, L67, k67, n67⟩, -, X67, ⟨Lc67, hQ67, l67, y67, z67⟩, st67⟩ := X64.interfaceBack hx (xi := (⟨"java/lang/CharSequence", "charAt", "(I)C"⟩ : MethodName)) (y := (⟨"java/lang/String", "charAt", "(I)C"⟩ : MethodName)) hown (mvT hZ (own_q hw 122 rfl)) (mvT hZ (own_q hw 123 rfl)) (mvT hZ (own_q hw 124 rfl)) (mvT hZ (own_q hw 125 rfl)) (mvT hZ (own_q hw 102 rfl)) (mvT hZ (own_q hw 126 rfl)) (mvT hZ (own_q hw 127 rfl)) (mvT hZ (own_q hw 52 rfl)) (by decide) (backOf (W := 0) (rm_ch l Z a0 hw [] a1 i1 h0 n0 Z0 vb kb z ch cst fmt hS hT (own_nn (by omega)) hc45_65) hZ (own_q hw 104 rfl) (own_q hw 4 rfl) (by decide) (by decide)) q67a q67b q67c (g := (mkF m 52 #[.val (.ref a1), .val (.int i), .unset, .unset] [(.int i1), (.ref a1)])) rfl (by rw [hml]; rfl) (Steps.refl _) (argsL := [(.int i1)]) (rest := []) (lenOf pd_68 rfl) rfl (by show 2 * 0 + _ ≤ _; exact Nat.le_of_eq rfl) (hb hby d25_52) (fun _ _ => ⟨rfl, e64, (by decide : 0 + 0 ≤ _), (by decide : 0 + 0 ≤ _)⟩)
          dsimp only [Pt.U, Pt.locs, Pt.cells, Pt.slots] at X67 l67 y67 z67 st67 hQ67
          subst l67 y67 z67
          obtain ⟨rfl, N67q, e67⟩ := hQ67
          have N67 := Fr.app N64 N67q
          obtain ⟨sg, h_sg⟩ : ∃ r : Int32, (if (ch i1.toNatClampNeg) = (43 : Int32) then (1 : Int32) else if (ch i1.toNatClampNeg) = (45 : Int32) then (1 : Int32) else (0 : Int32)) = r := ⟨_, rfl⟩
          obtain ⟨_, _, ⟨T68, L68, k68, n68⟩, -, X68, ⟨Lc68, hQ68, l68, y68, z68⟩, st68⟩ := Jvm.LawKit.callS X67 hx (y := (⟨"com/example/rowstrata/rowstrata/type/Numeral$Bounds", "isSign", "(C)Z"⟩ : MethodName)) hown (mvT hZ (own_q hw 128 rfl)) (mvT hZ (own_q hw 129 rfl)) (mvT hZ (own_q hw 44 rfl)) (mvT hZ (own_q hw 130 rfl)) (by decide) (backOf (W := 0) (rm_sg l Z a0 hw [] (ch i1.toNatClampNeg) h0 n0 Z0 sg h_sg) hZ (own_q hw 130 rfl) (own_q hw 44 rfl) (by decide) (by decide)) (g := (mkF m 57 #[.val (.ref a1), .val (.int i), .unset, .unset] [(.int (ch i1.toNatClampNeg))])) rfl (by rw [hml]; rfl) (argsL := [(.int (ch i1.toNatClampNeg))]) (rest := []) (lenOf pd_140 rfl) rfl (by show 2 * 0 + _ ≤ _; exact Nat.le_of_eq rfl) (hb hby d25_57) (fun _ _ => ⟨rfl, e67, (by decide : 0 + 0 ≤ _), (by decide : 0 + 0 ≤ _)⟩)
          dsimp only [Pt.U, Pt.locs, Pt.cells, Pt.slots] at X68 l68 y68 z68 st68 hQ68
          subst l68 y68 z68
          obtain ⟨rfl, N68q, e68⟩ := hQ68
          have N68 := Fr.app N67 N68q
          have ck70 : ∀ t, Steps p.tables e below (T68.setTop (mkF m 60 #[.val (.ref a1), .val (.int i), .unset, .unset] [(.int sg)])) t → Steps p.tables e below (s₁.setTop (entryFrame m #[(.ref a1), (.int i)] 4)) t := by
            intro t kt
            refine ck66 _ ?_
            refine XS.icmpNo X64.here hx rfl (hb hby d25_45) rfl (tlt hc45_65).2.1 ?_
            refine XS.aloadN X64.here hx rfl (hb hby d25_48) rfl rfl ?_
            refine XS.iloadN X64.here hx rfl (hb hby d25_49) rfl ?_
            refine XS.iconst X64.here hx rfl (hb hby d25_50) ?_
            refine XS.iadd X64.here hx rfl (hb hby d25_51) rfl ?_
            show Steps p.tables e below (T64.setTop (mkF m 52 #[.val (.ref a1), .val (.int i), .unset, .unset] [(.int (i + (1 : Int32))), (.ref a1)])) _
            rw [h_i1]
            show Steps p.tables e below (T64.setTop (mkF m 52 #[.val (.ref a1), .val (.int i), .unset, .unset] [(.int i1), (.ref a1)])) _
            refine st67.trans ?_
            show Steps p.tables e below (T67.setTop (mkF m 57 #[.val (.ref a1), .val (.int i), .unset, .unset] [(.int (ch i1.toNatClampNeg))])) _
            refine st68 _ ?_
            exact kt
          (try clear N68q); (try clear st68); (try clear Lc68); (try clear n68); (try clear k68); (try clear L68); (try clear N67); (try clear e67); (try clear N67q); (try clear st67); (try clear Lc67); (try clear X67); (try clear n67); (try clear k67); (try clear L67); (try clear T67); (try clear q67c); (try clear q67b); (try clear q67a); (try clear kq67); (try clear cq67)
          by_cases hc60_69 : sg = (0 : Int32)
          · -- pc 60: yes
            obtain ⟨_, _, ⟨T71, L71, k71, n71⟩, -, X71, ⟨Lc71, hQ71, l71, y71, z71⟩, st71⟩ := Jvm.LawKit.callS X68 hx (y := (⟨"com/example/rowstrata/rowstrata/type/Numeral$Bounds", "digitsEnd", "(Ljava/lang/CharSequence;I)I"⟩ : MethodName)) hown (mvT hZ (own_q hw 53 rfl)) (mvT hZ (own_q hw 54 rfl)) (mvT hZ (own_q hw 44 rfl)) (mvT hZ (own_q hw 55 rfl)) (by decide) (backOf (W := 0) (rm_de l Z a0 hw [] a1 i1 h0 n0 Z0 vb kb z ch cst fmt hS hT (by omega)) hZ (own_q hw 55 rfl) (own_q hw 44 rfl) (by decide) (by decide)) (g := (mkF m 75 #[.val (.ref a1), .val (.int i), .val (.int i1), .unset] [(.int i1), (.ref a1)])) rfl (by rw [hml]; rfl) (argsL := [(.ref a1), (.int i1)]) (rest := []) (lenOf pd_149 rfl) rfl (by show 2 * 0 + _ ≤ _; exact Nat.le_of_eq rfl) (hb hby d25_75) (fun _ _ => ⟨rfl, e68, (by decide : 0 + 0 ≤ _), (by decide : 0 + 0 ≤ _)⟩)
            dsimp only [Pt.U, Pt.locs, Pt.cells, Pt.slots] at X71 l71 y71 z71 st71 hQ71
            subst l71 y71 z71
            obtain ⟨rd, rfl, N71q, e71, h_rd⟩ := hQ71
            have N71 := Fr.app N68 N71q
            have ck73 : ∀ t, Steps p.tables e below (T71.setTop (mkF m 81 #[.val (.ref a1), .val (.int i), .val (.int i1), .val (.int rd)] [(.int i1), (.int rd)])) t → Steps p.tables e below (s₁.setTop (entryFrame m #[(.ref a1), (.int i)] 4)) t := by
              intro t kt
              refine ck70 _ ?_
              refine XS.ifYes X68.here hx rfl (pc0 := 60) (pc' := 69) rfl (hb hby d25_60) rfl ((if0 _ _).trans (teq hc60_69).1) (by decide) (by decide) ?_
              refine XS.iloadN X68.here hx rfl (hb hby d25_69) rfl ?_
              refine XS.iconst X68.here hx rfl (hb hby d25_70) ?_
              refine XS.iadd X68.here hx rfl (hb hby d25_71) rfl ?_
              show Steps p.tables e below (T68.setTop (mkF m 72 #[.val (.ref a1), .val (.int i), .unset, .unset] [(.int (i + (1 : Int32)))])) _
              rw [h_i1]
              show Steps p.tables e below (T68.setTop (mkF m 72 #[.val (.ref a1), .val (.int i), .unset, .unset] [(.int i1)])) _
              refine XS.istoreN X68.here hx rfl (hb hby d25_72) rfl (l' := #[.val (.ref a1), .val (.int i), .val (.int i1), .unset]) rfl ?_
              refine XS.aloadN X68.here hx rfl (hb hby d25_73) rfl rfl ?_
              refine XS.iloadN X68.here hx rfl (hb hby d25_74) rfl ?_
              refine st71 _ ?_
              show Steps p.tables e below (T71.setTop (mkF m 78 #[.val (.ref a1), .val (.int i), .val (.int i1), .unset] [(.int rd)])) _
              refine XS.istoreN X71.here hx rfl (hb hby d25_78) rfl (l' := #[.val (.ref a1), .val (.int i), .val (.int i1), .val (.int rd)]) rfl ?_
              refine XS.iloadN X71.here hx rfl (hb hby d25_79) rfl ?_
              refine XS.iloadN X71.here hx rfl (hb hby d25_80) rfl ?_
              exact kt
            (try clear N71q); (try clear st71); (try clear Lc71); (try clear n71); (try clear k71); (try clear L71)
            by_cases hc81_72 : i1 < rd
            · -- pc 81: yes
              have t_i := own_tn hi.1
              have t_z := own_tn (x := z) (by omega)
              have t_1 := own_tn (x := i1) (by omega)
              have n_1 : i1.toNatClampNeg = i.toNatClampNeg + 1 := by omega
              have t_d := own_tn (x := i1) (by omega)
              have hl1 := hc45_65; rw [Int32.lt_iff_toInt_lt] at hl1
              have hxx := own_x3 (ch := ch) (n := z.toNatClampNeg) (i := i.toNatClampNeg) (by rw [← n_1]; exact (own_sg0 h_sg).1 hc60_69)
              have hxd : own_x ch z.toNatClampNeg i.toNatClampNeg = i1.toNatClampNeg := by omega
              have hl2 := hc81_72; rw [Int32.lt_iff_toInt_lt] at hl2
              have hee := own_ee3 (by omega) (Or.inr hc31_62) hxd (by omega)
              obtain ⟨fs, hr, hrun, hended, hW, hsame⟩ := X71.leave (v := some (.int rd)) (fun h => by rw [Bd.returns] at h; cases h)
              refine ⟨_, _, ck73 _ ?_, hrun, hended, _, _, rfl, ?_, ⟨_, rfl⟩, hW, hsame.mono (by decide) (by decide)⟩
              · refine XS.icmpNo X71.here hx rfl (hb hby d25_81) rfl (tlt hc81_72).2.2.2 ?_
                refine XS.iloadN X71.here hx rfl (hb hby d25_84) rfl ?_
                refine XS.goto X71.here hx rfl (pc0 := 85) (pc' := 89) rfl (hb hby d25_85) (by decide) (by decide) ?_
                exact retOut X71 hx Bd.returns rfl (Or.inl ⟨rfl, Or.inl rfl, _, rfl⟩) (hb hby d25_89) hr
              · show own_DE (own_ee ch z.toNatClampNeg i.toNatClampNeg) h0 n0 _ T71.heap _
                rw [e71]
                exact ⟨_, rfl, N71, rfl, by rw [hee]; omega⟩
            · -- pc 81: no
              have t_i := own_tn hi.1
              have t_z := own_tn (x := z) (by omega)
              have t_1 := own_tn (x := i1) (by omega)
              have n_1 : i1.toNatClampNeg = i.toNatClampNeg + 1 := by omega
              have t_d := own_tn (x := i1) (by omega)
              have hl1 := hc45_65; rw [Int32.lt_iff_toInt_lt] at hl1
              have hxx := own_x3 (ch := ch) (n := z.toNatClampNeg) (i := i.toNatClampNeg) (by rw [← n_1]; exact (own_sg0 h_sg).1 hc60_69)
              have hxd : own_x ch z.toNatClampNeg i.toNatClampNeg = i1.toNatClampNeg := by omega
              have hl2 := hc81_72; rw [Int32.lt_iff_toInt_lt] at hl2
              have hee := own_ee4 hxd (by omega)
              obtain ⟨fs, hr, hrun, hended, hW, hsame⟩ := X71.leave (v := some (.int i)) (fun h => by rw [Bd.returns] at h; cases h)
              refine ⟨_, _, ck73 _ ?_, hrun, hended, _, _, rfl, ?_, ⟨_, rfl⟩, hW, hsame.mono (by decide) (by decide)⟩
              · refine XS.icmpYes X71.here hx rfl (pc0 := 81) (pc' := 88) rfl (hb hby d25_81) rfl (flt hc81_72).2.2.2 (by decide) (by decide) ?_
                refine XS.iloadN X71.here hx rfl (hb hby d25_88) rfl ?_
                exact retOut X71 hx Bd.returns rfl (Or.inl ⟨rfl, Or.inl rfl, _, rfl⟩) (hb hby d25_89) hr
              · show own_DE (own_ee ch z.toNatClampNeg i.toNatClampNeg) h0 n0 _ T71.heap _
                rw [e71]
                exact ⟨_, rfl, N71, rfl, by rw [hee]; omega⟩
          · -- pc 60: no
            obtain ⟨i2, h_i2⟩ : ∃ zQ : Int32, (i + (2 : Int32)) = zQ := ⟨_, rfl⟩
            have hi2 : i2.toInt = i.toInt + 2 := by rw [← h_i2]; have hlt := hc45_65; rw [Int32.lt_iff_toInt_lt] at hlt; exact own_i2 (z := z) hi.1 (by omega)
            have hlt2 : i.toInt + 1 < z.toInt := by have hlt := hc45_65; rw [Int32.lt_iff_toInt_lt] at hlt; omega
            obtain ⟨_, _, ⟨T74, L74, k74, n74⟩, -, X74, ⟨Lc74, hQ74, l74, y74, z74⟩, st74⟩ := Jvm.LawKit.callS X68 hx (y := (⟨"com/example/rowstrata/rowstrata/type/Numeral$Bounds", "digitsEnd", "(Ljava/lang/CharSequence;I)I"⟩ : MethodName)) hown (mvT hZ (own_q hw 53 rfl)) (mvT hZ (own_q hw 54 rfl)) (mvT hZ (own_q hw 44 rfl)) (mvT hZ (own_q hw 55 rfl)) (by decide) (backOf (W := 0) (rm_de l Z a0 hw [] a1 i2 h0 n0 Z0 vb kb z ch cst fmt hS hT (by omega)) hZ (own_q hw 55 rfl) (own_q hw 44 rfl) (by decide) (by decide)) (g := (mkF m 75 #[.val (.ref a1), .val (.int i), .val (.int i2), .unset] [(.int i2), (.ref a1)])) rfl (by rw [hml]; rfl) (argsL := [(.ref a1), (.int i2)]) (rest := []) (lenOf pd_149 rfl) rfl (by show 2 * 0 + _ ≤ _; exact Nat.le_of_eq rfl) (hb hby d25_75) (fun _ _ => ⟨rfl, e68, (by decide : 0 + 0 ≤ _), (by decide : 0 + 0 ≤ _)⟩)
            dsimp only [Pt.U, Pt.locs, Pt.cells, Pt.slots] at X74 l74 y74 z74 st74 hQ74
            subst l74 y74 z74
            obtain ⟨rd, rfl, N74q, e74, h_rd⟩ := hQ74
            have N74 := Fr.app N68 N74q
            have ck76 : ∀ t, Steps p.tables e below (T74.setTop (mkF m 81 #[.val (.ref a1), .val (.int i), .val (.int i2), .val (.int rd)] [(.int i2), (.int rd)])) t → Steps p.tables e below (s₁.setTop (entryFrame m #[(.ref a1), (.int i)] 4)) t := by
              intro t kt
              refine ck70 _ ?_
              refine XS.ifNo X68.here hx rfl (hb hby d25_60) rfl ((if0 _ _).trans (feq hc60_69).1) ?_
              refine XS.iloadN X68.here hx rfl (hb hby d25_63) rfl ?_
              refine XS.iconst X68.here hx rfl (hb hby d25_64) ?_
              refine XS.iadd X68.here hx rfl (hb hby d25_65) rfl ?_
              show Steps p.tables e below (T68.setTop (mkF m 66 #[.val (.ref a1), .val (.int i), .unset, .unset] [(.int (i + (2 : Int32)))])) _
              rw [h_i2]
              show Steps p.tables e below (T68.setTop (mkF m 66 #[.val (.ref a1), .val (.int i), .unset, .unset] [(.int i2)])) _
              refine XS.goto X68.here hx rfl (pc0 := 66) (pc' := 72) rfl (hb hby d25_66) (by decide) (by decide) ?_
              refine XS.istoreN X68.here hx rfl (hb hby d25_72) rfl (l' := #[.val (.ref a1), .val (.int i), .val (.int i2), .unset]) rfl ?_
              refine XS.aloadN X68.here hx rfl (hb hby d25_73) rfl rfl ?_
              refine XS.iloadN X68.here hx rfl (hb hby d25_74) rfl ?_
              refine st74 _ ?_
              show Steps p.tables e below (T74.setTop (mkF m 78 #[.val (.ref a1), .val (.int i), .val (.int i2), .unset] [(.int rd)])) _
              refine XS.istoreN X74.here hx rfl (hb hby d25_78) rfl (l' := #[.val (.ref a1), .val (.int i), .val (.int i2), .val (.int rd)]) rfl ?_
              refine XS.iloadN X74.here hx rfl (hb hby d25_79) rfl ?_
              refine XS.iloadN X74.here hx rfl (hb hby d25_80) rfl ?_
              exact kt
            (try clear N74q); (try clear st74); (try clear Lc74); (try clear n74); (try clear k74); (try clear L74)
            by_cases hc81_75 : i2 < rd
            · -- pc 81: yes
              have t_i := own_tn hi.1
              have t_z := own_tn (x := z) (by omega)
              have t_1 := own_tn (x := i1) (by omega)
              have n_1 : i1.toNatClampNeg = i.toNatClampNeg + 1 := by omega
              have t_d := own_tn (x := i2) (by omega)
              have hl1 := hc45_65; rw [Int32.lt_iff_toInt_lt] at hl1
              have hxx := own_x1 (ch := ch) (n := z.toNatClampNeg) (i := i.toNatClampNeg) (by omega) (by rw [← n_1]; exact (own_sg0 h_sg).2 hc60_69)
              have hxd : own_x ch z.toNatClampNeg i.toNatClampNeg = i2.toNatClampNeg := by omega
              have hl2 := hc81_75; rw [Int32.lt_iff_toInt_lt] at hl2
              have hee := own_ee3 (by omega) (Or.inr hc31_62) hxd (by omega)
              obtain ⟨fs, hr, hrun, hended, hW, hsame⟩ := X74.leave (v := some (.int rd)) (fun h => by rw [Bd.returns] at h; cases h)
              refine ⟨_, _, ck76 _ ?_, hrun, hended, _, _, rfl, ?_, ⟨_, rfl⟩, hW, hsame.mono (by decide) (by decide)⟩
              · refine XS.icmpNo X74.here hx rfl (hb hby d25_81) rfl (tlt hc81_75).2.2.2 ?_
                refine XS.iloadN X74.here hx rfl (hb hby d25_84) rfl ?_
                refine XS.goto X74.here hx rfl (pc0 := 85) (pc' := 89) rfl (hb hby d25_85) (by decide) (by decide) ?_
                exact retOut X74 hx Bd.returns rfl (Or.inl ⟨rfl, Or.inl rfl, _, rfl⟩) (hb hby d25_89) hr
              · show own_DE (own_ee ch z.toNatClampNeg i.toNatClampNeg) h0 n0 _ T74.heap _
                rw [e74]
                exact ⟨_, rfl, N74, rfl, by rw [hee]; omega⟩
            · -- pc 81: no
              have t_i := own_tn hi.1
              have t_z := own_tn (x := z) (by omega)
              have t_1 := own_tn (x := i1) (by omega)
              have n_1 : i1.toNatClampNeg = i.toNatClampNeg + 1 := by omega
              have t_d := own_tn (x := i2) (by omega)
              have hl1 := hc45_65; rw [Int32.lt_iff_toInt_lt] at hl1
              have hxx := own_x1 (ch := ch) (n := z.toNatClampNeg) (i := i.toNatClampNeg) (by omega) (by rw [← n_1]; exact (own_sg0 h_sg).2 hc60_69)
              have hxd : own_x ch z.toNatClampNeg i.toNatClampNeg = i2.toNatClampNeg := by omega
              have hl2 := hc81_75; rw [Int32.lt_iff_toInt_lt] at hl2
              have hee := own_ee4 hxd (by omega)
              obtain ⟨fs, hr, hrun, hended, hW, hsame⟩ := X74.leave (v := some (.int i)) (fun h => by rw [Bd.returns] at h; cases h)
              refine ⟨_, _, ck76 _ ?_, hrun, hended, _, _, rfl, ?_, ⟨_, rfl⟩, hW, hsame.mono (by decide) (by decide)⟩
              · refine XS.icmpYes X74.here hx rfl (pc0 := 81) (pc' := 88) rfl (hb hby d25_81) rfl (flt hc81_75).2.2.2 (by decide) (by decide) ?_
                refine XS.iloadN X74.here hx rfl (hb hby d25_88) rfl ?_
                exact retOut X74 hx Bd.returns rfl (Or.inl ⟨rfl, Or.inl rfl, _, rfl⟩) (hb hby d25_89) hr
              · show own_DE (own_ee ch z.toNatClampNeg i.toNatClampNeg) h0 n0 _ T74.heap _
                rw [e74]
                exact ⟨_, rfl, N74, rfl, by rw [hee]; omega⟩
        · -- pc 45: no
          obtain ⟨_, _, ⟨T77, L77, k77, n77⟩, -, X77, ⟨Lc77, hQ77, l77, y77, z77⟩, st77⟩ := Jvm.LawKit.callS X64 hx (y := (⟨"com/example/rowstrata/rowstrata/type/Numeral$Bounds", "digitsEnd", "(Ljava/lang/CharSequence;I)I"⟩ : MethodName)) hown (mvT hZ (own_q hw 53 rfl)) (mvT hZ (own_q hw 54 rfl)) (mvT hZ (own_q hw 44 rfl)) (mvT hZ (own_q hw 55 rfl)) (by decide) (backOf (W := 0) (rm_de l Z a0 hw [] a1 i1 h0 n0 Z0 vb kb z ch cst fmt hS hT (by omega)) hZ (own_q hw 55 rfl) (own_q hw 44 rfl) (by decide) (by decide)) (g := (mkF m 75 #[.val (.ref a1), .val (.int i), .val (.int i1), .unset] [(.int i1), (.ref a1)])) rfl (by rw [hml]; rfl) (argsL := [(.ref a1), (.int i1)]) (rest := []) (lenOf pd_149 rfl) rfl (by show 2 * 0 + _ ≤ _; exact Nat.le_of_eq rfl) (hb hby d25_75) (fun _ _ => ⟨rfl, e64, (by decide : 0 + 0 ≤ _), (by decide : 0 + 0 ≤ _)⟩)
          dsimp only [Pt.U, Pt.locs, Pt.cells, Pt.slots] at X77 l77 y77 z77 st77 hQ77
          subst l77 y77 z77
          obtain ⟨rd, rfl, N77q, e77, h_rd⟩ := hQ77
          have N77 := Fr.app N64 N77q
          have ck79 : ∀ t, Steps p.tables e below (T77.setTop (mkF m 81 #[.val (.ref a1), .val (.int i), .val (.int i1), .val (.int rd)] [(.int i1), (.int rd)])) t → Steps p.tables e below (s₁.setTop (entryFrame m #[(.ref a1), (.int i)] 4)) t := by
            intro t kt
            refine ck66 _ ?_
            refine XS.icmpYes X64.here hx rfl (pc0 := 45) (pc' := 69) rfl (hb hby d25_45) rfl (flt hc45_65).2.1 (by decide) (by decide) ?_
            refine XS.iloadN X64.here hx rfl (hb hby d25_69) rfl ?_
            refine XS.iconst X64.here hx rfl (hb hby d25_70) ?_
            refine XS.iadd X64.here hx rfl (hb hby d25_71) rfl ?_
            show Steps p.tables e below (T64.setTop (mkF m 72 #[.val (.ref a1), .val (.int i), .unset, .unset] [(.int (i + (1 : Int32)))])) _
            rw [h_i1]
            show Steps p.tables e below (T64.setTop (mkF m 72 #[.val (.ref a1), .val (.int i), .unset, .unset] [(.int i1)])) _
            refine XS.istoreN X64.here hx rfl (hb hby d25_72) rfl (l' := #[.val (.ref a1), .val (.int i), .val (.int i1), .unset]) rfl ?_
            refine XS.aloadN X64.here hx rfl (hb hby d25_73) rfl rfl ?_
            refine XS.iloadN X64.here hx rfl (hb hby d25_74) rfl ?_
            refine st77 _ ?_
            show Steps p.tables e below (T77.setTop (mkF m 78 #[.val (.ref a1), .val (.int i), .val (.int i1), .unset] [(.int rd)])) _
            refine XS.istoreN X77.here hx rfl (hb hby d25_78) rfl (l' := #[.val (.ref a1), .val (.int i), .val (.int i1), .val (.int rd)]) rfl ?_
            refine XS.iloadN X77.here hx rfl (hb hby d25_79) rfl ?_
            refine XS.iloadN X77.here hx rfl (hb hby d25_80) rfl ?_
            exact kt
          (try clear N77q); (try clear st77); (try clear Lc77); (try clear n77); (try clear k77); (try clear L77)
          by_cases hc81_78 : i1 < rd
          · -- pc 81: yes
            have t_i := own_tn hi.1
            have t_z := own_tn (x := z) (by omega)
            have t_1 := own_tn (x := i1) (by omega)
            have n_1 : i1.toNatClampNeg = i.toNatClampNeg + 1 := by omega
            have t_d := own_tn (x := i1) (by omega)
            have hl1 := hc45_65; rw [Int32.lt_iff_toInt_lt] at hl1
            have hxx := own_x2 (ch := ch) (n := z.toNatClampNeg) (i := i.toNatClampNeg) (by omega)
            have hxd : own_x ch z.toNatClampNeg i.toNatClampNeg = i1.toNatClampNeg := by omega
            have hl2 := hc81_78; rw [Int32.lt_iff_toInt_lt] at hl2
            have hee := own_ee3 (by omega) (Or.inr hc31_62) hxd (by omega)
            obtain ⟨fs, hr, hrun, hended, hW, hsame⟩ := X77.leave (v := some (.int rd)) (fun h => by rw [Bd.returns] at h; cases h)
            refine ⟨_, _, ck79 _ ?_, hrun, hended, _, _, rfl, ?_, ⟨_, rfl⟩, hW, hsame.mono (by decide) (by decide)⟩
            · refine XS.icmpNo X77.here hx rfl (hb hby d25_81) rfl (tlt hc81_78).2.2.2 ?_
              refine XS.iloadN X77.here hx rfl (hb hby d25_84) rfl ?_
              refine XS.goto X77.here hx rfl (pc0 := 85) (pc' := 89) rfl (hb hby d25_85) (by decide) (by decide) ?_
              exact retOut X77 hx Bd.returns rfl (Or.inl ⟨rfl, Or.inl rfl, _, rfl⟩) (hb hby d25_89) hr
            · show own_DE (own_ee ch z.toNatClampNeg i.toNatClampNeg) h0 n0 _ T77.heap _
              rw [e77]
              exact ⟨_, rfl, N77, rfl, by rw [hee]; omega⟩
          · -- pc 81: no
            have t_i := own_tn hi.1
            have t_z := own_tn (x := z) (by omega)
            have t_1 := own_tn (x := i1) (by omega)
            have n_1 : i1.toNatClampNeg = i.toNatClampNeg + 1 := by omega
            have t_d := own_tn (x := i1) (by omega)
            have hl1 := hc45_65; rw [Int32.lt_iff_toInt_lt] at hl1
            have hxx := own_x2 (ch := ch) (n := z.toNatClampNeg) (i := i.toNatClampNeg) (by omega)
            have hxd : own_x ch z.toNatClampNeg i.toNatClampNeg = i1.toNatClampNeg := by omega
            have hl2 := hc81_78; rw [Int32.lt_iff_toInt_lt] at hl2
            have hee := own_ee4 hxd (by omega)
            obtain ⟨fs, hr, hrun, hended, hW, hsame⟩ := X77.leave (v := some (.int i)) (fun h => by rw [Bd.returns] at h; cases h)
            refine ⟨_, _, ck79 _ ?_, hrun, hended, _, _, rfl, ?_, ⟨_, rfl⟩, hW, hsame.mono (by decide) (by decide)⟩
            · refine XS.icmpYes X77.here hx rfl (pc0 := 81) (pc' := 88) rfl (hb hby d25_81) rfl (flt hc81_78).2.2.2 (by decide) (by decide) ?_
              refine XS.iloadN X77.here hx rfl (hb hby d25_88) rfl ?_
              exact retOut X77 hx Bd.returns rfl (Or.inl ⟨rfl, Or.inl rfl, _, rfl⟩) (hb hby d25_89) hr
            · show own_DE (own_ee ch z.toNatClampNeg i.toNatClampNeg) h0 n0 _ T77.heap _
              rw [e77]
              exact ⟨_, rfl, N77, rfl, by rw [hee]; omega⟩
      · -- pc 31: no
        have t_i := own_tn hi.1
        have t_z := own_tn (x := z) (by omega)
        have hee := own_ee2 (n := z.toNatClampNeg) (show ¬ own_isE (ch i.toNatClampNeg) from fun q => q.elim hc19_43 hc31_62)
        obtain ⟨fs, hr, hrun, hended, hW, hsame⟩ := X61.leave (v := some (.int i)) (fun h => by rw [Bd.returns] at h; cases h)
        refine ⟨_, _, ck63 _ ?_, hrun, hended, _, _, rfl, ?_, ⟨_, rfl⟩, hW, hsame.mono (by decide) (by decide)⟩
        · refine XS.icmpNo X61.here hx rfl (hb hby d25_31) rfl (feq hc31_62).1 ?_
          refine XS.iloadN X61.here hx rfl (hb hby d25_34) rfl ?_
          exact retOut X61 hx Bd.returns rfl (Or.inl ⟨rfl, Or.inl rfl, _, rfl⟩) (hb hby d25_35) hr
        · show own_DE (own_ee ch z.toNatClampNeg i.toNatClampNeg) h0 n0 _ T61.heap _
          rw [e61]
          exact ⟨_, rfl, N61, rfl, by rw [hee]; omega⟩
theorem d13_0 : decode jdk_30_method_1_code 0 = .ok (.aload_n 0, 1) := by decide +kernel
theorem d13_1 : decode jdk_30_method_1_code 1 = .ok (.invokespecial 1, 3) := by decide +kernel
theorem d13_4 : decode jdk_30_method_1_code 4 = .ok (.return_, 1) := by decide +kernel
theorem pn_171 : plainName "java/lang/Record" = true := by first | (simp [plainName, overriddenIn]; done) | decide +kernel
theorem ef_rm_rec (m : MethodId) (x0 : Addr) : entryFrame m #[(.ref x0)] 1 = mkF m 0 #[.val (.ref x0)] [] := by first | (simp [entryFrame, mkF, argsToLocals, Value.category]; done) | rfl
set_option maxRecDepth 65536 in
set_option maxHeartbeats 40000000 in
theorem rm_rec (l : Launch) (Z : State) (a0 : Array Value) (hw : ∀ d ∈ tables_1, d.before a0 Z = true) (ws : List Jvm.Cond) (a1 : Addr) (h0 : Heap) (n0 : Nat) (Z0 : n0 ≤ h0.size)  :
    MetFree l (⟨"java/lang/Record", "<init>", "()V"⟩ : MethodName) (head1 (Jvm.Cond.code (⟨"java/lang/Record", "<init>", "()V"⟩ : MethodName) jdk_30_method_1_code 1 none :: ws) ({ frames := 1, cells := 0, slots := 0, locals := 12 } : Room)) (fun aQ UQ => aQ = #[(.ref a1)] ∧ Z.Warmed39 UQ.vm ∧ UQ.heap = h0) (fun _ _ _ _ _ => True) (fun _ UQ oQ UR => ∃ vQ LQ, oQ = .returned vQ ∧ own_Pure none h0 n0 vQ UR.heap LQ ∧ FrameEnd UQ oQ UR LQ ({ frames := 1, cells := 0, slots := 0, locals := 12 } : Room).cells ({ frames := 1, cells := 0, slots := 0, locals := 12 } : Room).slots) := by
  refine MetFree.of_bodySF (plainFor_of_name pn_171) hisR ?_
  intro p e s m args below meth c s₁ Bd hml0 hP hK
  obtain ⟨rfl, hZ, hh⟩ := hP
  have hx := Bd.exec
  have hby := Bd.bytes
  have hml : c.maxLocals = 1 := hml0
  have hown : s.vm.findClass "java/lang/Record" = some m.cls := findClass_of_methodNamed Bd.named
  have hnm := (name_of_methodNamed Bd.named Bd.method).1
  have X0 : Stand p l e ({ frames := 1, cells := 0, slots := 0, locals := 12 } : Room) s m #[(.ref a1)] below meth c s₁ [] 0 0 := Stand.of_body Bd
  have e0 : s₁.heap = h0 := by rw [← hh, Bd.state]; rfl
  have N0 := Fr.nil n0
  have pre0 : ∀ t, Steps p.tables e below (s₁.setTop (mkF m 0 #[.val (.ref a1)] [])) t → Steps p.tables e below (s₁.setTop (entryFrame m #[(.ref a1)] 1)) t := fun t kq => castTop (ef_rm_rec m a1) kq
  obtain ⟨T80, X80, e80, st80⟩ := initO X0 hx hZ hown (own_q hw 73 rfl) (own_q hw 13 rfl) (own_q hw 14 rfl) e0 (g := (mkF m 1 #[.val (.ref a1)] [(.ref a1)])) rfl (by rw [hml]; rfl) rfl (hb hby d13_1) (by decide) (W := 0) (by show 2 * 0 + _ ≤ _; exact Nat.le_of_eq rfl) (by decide)
  obtain ⟨fs, hr, hrun, hended, hW, hsame⟩ := X80.leave (v := none) (fun _ => rfl)
  refine ⟨_, _, pre0 _ ?_, hrun, hended, _, _, rfl, ?_, ⟨_, rfl⟩, hW, hsame.mono (by decide) (by decide)⟩
  · refine XS.aloadN X0.here hx rfl (hb hby d13_0) rfl rfl ?_
    refine st80 _ ?_
    show Steps p.tables e below (T80.setTop (mkF m 4 #[.val (.ref a1)] [])) _
    exact X80.returnOut hx Bd.returns (hb hby d13_4) hr
  · show own_Pure none h0 n0 _ T80.heap _
    rw [e80]
    exact ⟨rfl, N0, rfl⟩
theorem d26_0 : decode prog_33_method_1_code 0 = .ok (.aload_n 0, 1) := by decide +kernel
theorem pd_173 : parseMethodDescriptor "()V" = some ⟨[], none⟩ := by decide +kernel
theorem d26_1 : decode prog_33_method_1_code 1 = .ok (.invokespecial 1, 3) := by decide +kernel
theorem d26_4 : decode prog_33_method_1_code 4 = .ok (.aload_n 0, 1) := by decide +kernel
theorem d26_5 : decode prog_33_method_1_code 5 = .ok (.iload_n 1, 1) := by decide +kernel
theorem d26_6 : decode prog_33_method_1_code 6 = .ok (.putfield 7, 3) := by decide +kernel
theorem d26_9 : decode prog_33_method_1_code 9 = .ok (.aload_n 0, 1) := by decide +kernel
theorem d26_10 : decode prog_33_method_1_code 10 = .ok (.iload_n 2, 1) := by decide +kernel
theorem d26_11 : decode prog_33_method_1_code 11 = .ok (.putfield 13, 3) := by decide +kernel
theorem d26_14 : decode prog_33_method_1_code 14 = .ok (.aload_n 0, 1) := by decide +kernel
theorem d26_15 : decode prog_33_method_1_code 15 = .ok (.iload_n 3, 1) := by decide +kernel
theorem d26_16 : decode prog_33_method_1_code 16 = .ok (.putfield 16, 3) := by decide +kernel
theorem d26_19 : decode prog_33_method_1_code 19 = .ok (.aload_n 0, 1) := by decide +kernel
theorem d26_20 : decode prog_33_method_1_code 20 = .ok (.iload 4, 2) := by decide +kernel
theorem d26_22 : decode prog_33_method_1_code 22 = .ok (.putfield 19, 3) := by decide +kernel
theorem d26_25 : decode prog_33_method_1_code 25 = .ok (.return_, 1) := by decide +kernel
theorem ef_rm_bi (m : MethodId) (x0 : Addr) (x1 : Int32) (x2 : Int32) (x3 : Int32) (x4 : Int32) : entryFrame m #[(.ref x0), (.int x1), (.int x2), (.int x3), (.int x4)] 5 = mkF m 0 #[.val (.ref x0), .val (.int x1), .val (.int x2), .val (.int x3), .val (.int x4)] [] := by first | (simp [entryFrame, mkF, argsToLocals, Value.category]; done) | rfl
set_option maxRecDepth 65536 in
set_option maxHeartbeats 40000000 in
theorem rm_bi (l : Launch) (Z : State) (a0 : Array Value) (hw : ∀ d ∈ tables_1, d.before a0 Z = true) (ws : List Jvm.Cond) (a1 : Addr) (w1 : Int32) (w2 : Int32) (w3 : Int32) (w4 : Int32) (h0 : Heap) (n0 : Nat) (Z0 : n0 ≤ h0.size) (E_a : Exa Z h0 a1 "com/example/rowstrata/rowstrata/type/Numeral$Bounds") (F_start : Fld Z h0 a1 "com/example/rowstrata/rowstrata/type/Numeral$Bounds" "start" "I" (.int (0 : Int32))) (F_digitsEnd : Fld Z h0 a1 "com/example/rowstrata/rowstrata/type/Numeral$Bounds" "digitsEnd" "I" (.int (0 : Int32))) (F_fractionEnd : Fld Z h0 a1 "com/example/rowstrata/rowstrata/type/Numeral$Bounds" "fractionEnd" "I" (.int (0 : Int32))) (F_end : Fld Z h0 a1 "com/example/rowstrata/rowstrata/type/Numeral$Bounds" "end" "I" (.int (0 : Int32))) (gn_a : n0 ≤ a1) :
    MetFree l (⟨"com/example/rowstrata/rowstrata/type/Numeral$Bounds", "<init>", "(IIII)V"⟩ : MethodName) (head1 (Jvm.Cond.code (⟨"com/example/rowstrata/rowstrata/type/Numeral$Bounds", "<init>", "(IIII)V"⟩ : MethodName) prog_33_method_1_code 5 none :: ws) ({ frames := 2, cells := 0, slots := 0, locals := 24 } : Room)) (fun aQ UQ => aQ = #[(.ref a1), (.int w1), (.int w2), (.int w3), (.int w4)] ∧ Z.Warmed39 UQ.vm ∧ UQ.heap = h0) (fun _ _ _ _ _ => True) (fun _ UQ oQ UR => ∃ vQ LQ, oQ = .returned vQ ∧ own_BInit Z a1 w1 w2 w3 w4 h0 n0 vQ UR.heap LQ ∧ FrameEnd UQ oQ UR LQ ({ frames := 2, cells := 0, slots := 0, locals := 24 } : Room).cells ({ frames := 2, cells := 0, slots := 0, locals := 24 } : Room).slots) := by
  refine MetFree.of_bodySF (plainFor_of_name pn_107) hisR ?_
  intro p e s m args below meth c s₁ Bd hml0 hP hK
  obtain ⟨rfl, hZ, hh⟩ := hP
  have hx := Bd.exec
  have hby := Bd.bytes
  have hml : c.maxLocals = 5 := hml0
  have hown : s.vm.findClass "com/example/rowstrata/rowstrata/type/Numeral$Bounds" = some m.cls := findClass_of_methodNamed Bd.named
  have hnm := (name_of_methodNamed Bd.named Bd.method).1
  have X0 : Stand p l e ({ frames := 2, cells := 0, slots := 0, locals := 24 } : Room) s m #[(.ref a1), (.int w1), (.int w2), (.int w3), (.int w4)] below meth c s₁ [] 0 0 := Stand.of_body Bd
  have e0 : s₁.heap = h0 := by rw [← hh, Bd.state]; rfl
  have N0 := Fr.nil n0
  have pre0 : ∀ t, Steps p.tables e below (s₁.setTop (mkF m 0 #[.val (.ref a1), .val (.int w1), .val (.int w2), .val (.int w3), .val (.int w4)] [])) t → Steps p.tables e below (s₁.setTop (entryFrame m #[(.ref a1), (.int w1), (.int w2), (.int w3), (.int w4)] 5)) t := fun t kq => castTop (ef_rm_bi m a1 w1 w2 w3 w4) kq
  obtain ⟨_, _, ⟨T81, L81, k81, n81⟩, -, X81, ⟨Lc81, hQ81, l81, y81, z81⟩, st81⟩ := X0.specialBack hx (y := (⟨"java/lang/Record", "<init>", "()V"⟩ : MethodName)) rfl hown (mvT hZ (own_q hw 139 rfl)) (mvT hZ (own_q hw 69 rfl)) (mvT hZ (own_q hw 72 rfl)) (by decide) (backOf (W := 0) (rm_rec l Z a0 hw [] a1 h0 n0 Z0) hZ (own_q hw 72 rfl) (own_q hw 71 rfl) (by decide) (by decide)) (g := (mkF m 1 #[.val (.ref a1), .val (.int w1), .val (.int w2), .val (.int w3), .val (.int w4)] [(.ref a1)])) rfl (by rw [hml]; rfl) (Steps.refl _) (a := a1) (argsL := []) (rest := []) (lenOf pd_173 rfl) rfl (by show 2 * 0 + _ ≤ _; exact Nat.le_of_eq rfl) (hb hby d26_1) (fun _ _ => ⟨rfl, e0, (by decide : 0 + 0 ≤ _), (by decide : 0 + 0 ≤ _)⟩)
  dsimp only [Pt.U, Pt.locs, Pt.cells, Pt.slots] at X81 l81 y81 z81 st81 hQ81
  subst l81 y81 z81
  obtain ⟨rfl, N81q, e81⟩ := hQ81
  have N81 := Fr.app N0 N81q
  obtain ⟨T82, h82, X82, e82, W82, st82⟩ := putF X81 hx hZ hown (host := "") (Or.inl (own_q hw 140 rfl)) Via.refl e81 F_start E_a (Or.inr ⟨(own_q hw 141 rfl), rfl, hnm⟩) (own_q hw 132 rfl) (ty := .int) (by decide) rfl rfl (g := (mkF m 6 #[.val (.ref a1), .val (.int w1), .val (.int w2), .val (.int w3), .val (.int w4)] [(.int w1), (.ref a1)])) rfl rfl (hb hby d26_6)
  have KP82 := Keep.wr (Keep.refl h0 [a1]) W82 (Or.inl (List.mem_of_getElem? (i := 0) rfl))
  have Fw82 := F_start.same W82
  have N82 := Fr.snoc X82 N81 gn_a
  have Fx83 := (E_a.wr W82)
  have Fx84 := (F_digitsEnd.other W82 (Or.inr (slot_ne (Or.inr (own_q hw 143 rfl)) (Or.inr (own_q hw 141 rfl)) (by decide) (t := .int) (t' := .int) (by decide) (by decide))))
  obtain ⟨T85, h85, X85, e85, W85, st85⟩ := putF X82 hx hZ hown (host := "") (Or.inl (own_q hw 142 rfl)) Via.refl e82 Fx84 Fx83 (Or.inr ⟨(own_q hw 143 rfl), rfl, hnm⟩) (own_q hw 132 rfl) (ty := .int) (by decide) rfl rfl (g := (mkF m 11 #[.val (.ref a1), .val (.int w1), .val (.int w2), .val (.int w3), .val (.int w4)] [(.int w2), (.ref a1)])) rfl rfl (hb hby d26_11)
  have KP85 := Keep.wr KP82 W85 (Or.inl (List.mem_of_getElem? (i := 0) rfl))
  have Fw85 := Fx84.same W85
  have N85 := Fr.snoc X85 N82 gn_a
  have Fx86 := (Fx83.wr W85)
  have Fx87 := ((F_fractionEnd.other W82 (Or.inr (slot_ne (Or.inr (own_q hw 145 rfl)) (Or.inr (own_q hw 141 rfl)) (by decide) (t := .int) (t' := .int) (by decide) (by decide)))).other W85 (Or.inr (slot_ne (Or.inr (own_q hw 145 rfl)) (Or.inr (own_q hw 143 rfl)) (by decide) (t := .int) (t' := .int) (by decide) (by decide))))
  obtain ⟨T88, h88, X88, e88, W88, st88⟩ := putF X85 hx hZ hown (host := "") (Or.inl (own_q hw 144 rfl)) Via.refl e85 Fx87 Fx86 (Or.inr ⟨(own_q hw 145 rfl), rfl, hnm⟩) (own_q hw 132 rfl) (ty := .int) (by decide) rfl rfl (g := (mkF m 16 #[.val (.ref a1), .val (.int w1), .val (.int w2), .val (.int w3), .val (.int w4)] [(.int w3), (.ref a1)])) rfl rfl (hb hby d26_16)
  have KP88 := Keep.wr KP85 W88 (Or.inl (List.mem_of_getElem? (i := 0) rfl))
  have Fw88 := Fx87.same W88
  have N88 := Fr.snoc X88 N85 gn_a
  have Fx89 := (Fx86.wr W88)
  have Fx90 := (((F_end.other W82 (Or.inr (slot_ne (Or.inr (own_q hw 147 rfl)) (Or.inr (own_q hw 141 rfl)) (by decide) (t := .int) (t' := .int) (by decide) (by decide)))).other W85 (Or.inr (slot_ne (Or.inr (own_q hw 147 rfl)) (Or.inr (own_q hw 143 rfl)) (by decide) (t := .int) (t' := .int) (by decide) (by decide)))).other W88 (Or.inr (slot_ne (Or.inr (own_q hw 147 rfl)) (Or.inr (own_q hw 145 rfl)) (by decide) (t := .int) (t' := .int) (by decide) (by decide))))
  obtain ⟨T91, h91, X91, e91, W91, st91⟩ := putF X88 hx hZ hown (host := "") (Or.inl (own_q hw 146 rfl)) Via.refl e88 Fx90 Fx89 (Or.inr ⟨(own_q hw 147 rfl), rfl, hnm⟩) (own_q hw 132 rfl) (ty := .int) (by decide) rfl rfl (g := (mkF m 22 #[.val (.ref a1), .val (.int w1), .val (.int w2), .val (.int w3), .val (.int w4)] [(.int w4), (.ref a1)])) rfl rfl (hb hby d26_22)
  have KP91 := Keep.wr KP88 W91 (Or.inl (List.mem_of_getElem? (i := 0) rfl))
  have Fw91 := Fx90.same W91
  have N91 := Fr.snoc X91 N88 gn_a
  have Fx92 := (((Fw82.other W85 (Or.inr (slot_ne (Or.inr (own_q hw 141 rfl)) (Or.inr (own_q hw 143 rfl)) (by decide) (t := .int) (t' := .int) (by decide) (by decide)))).other W88 (Or.inr (slot_ne (Or.inr (own_q hw 141 rfl)) (Or.inr (own_q hw 145 rfl)) (by decide) (t := .int) (t' := .int) (by decide) (by decide)))).other W91 (Or.inr (slot_ne (Or.inr (own_q hw 141 rfl)) (Or.inr (own_q hw 147 rfl)) (by decide) (t := .int) (t' := .int) (by decide) (by decide))))
  have Fx93 := ((Fw85.other W88 (Or.inr (slot_ne (Or.inr (own_q hw 143 rfl)) (Or.inr (own_q hw 145 rfl)) (by decide) (t := .int) (t' := .int) (by decide) (by decide)))).other W91 (Or.inr (slot_ne (Or.inr (own_q hw 143 rfl)) (Or.inr (own_q hw 147 rfl)) (by decide) (t := .int) (t' := .int) (by decide) (by decide))))
  have Fx94 := (Fw88.other W91 (Or.inr (slot_ne (Or.inr (own_q hw 145 rfl)) (Or.inr (own_q hw 147 rfl)) (by decide) (t := .int) (t' := .int) (by decide) (by decide))))
  obtain ⟨fs, hr, hrun, hended, hW, hsame⟩ := X91.leave (v := none) (fun _ => rfl)
  refine ⟨_, _, pre0 _ ?_, hrun, hended, _, _, rfl, ?_, ⟨_, rfl⟩, hW, hsame.mono (by decide) (by decide)⟩
  · refine XS.aloadN X0.here hx rfl (hb hby d26_0) rfl rfl ?_
    refine st81.trans ?_
    show Steps p.tables e below (T81.setTop (mkF m 4 #[.val (.ref a1), .val (.int w1), .val (.int w2), .val (.int w3), .val (.int w4)] [])) _
    refine XS.aloadN X81.here hx rfl (hb hby d26_4) rfl rfl ?_
    refine XS.iloadN X81.here hx rfl (hb hby d26_5) rfl ?_
    refine st82 _ ?_
    show Steps p.tables e below (T82.setTop (mkF m 9 #[.val (.ref a1), .val (.int w1), .val (.int w2), .val (.int w3), .val (.int w4)] [])) _
    refine XS.aloadN X82.here hx rfl (hb hby d26_9) rfl rfl ?_
    refine XS.iloadN X82.here hx rfl (hb hby d26_10) rfl ?_
    refine st85 _ ?_
    show Steps p.tables e below (T85.setTop (mkF m 14 #[.val (.ref a1), .val (.int w1), .val (.int w2), .val (.int w3), .val (.int w4)] [])) _
    refine XS.aloadN X85.here hx rfl (hb hby d26_14) rfl rfl ?_
    refine XS.iloadN X85.here hx rfl (hb hby d26_15) rfl ?_
    refine st88 _ ?_
    show Steps p.tables e below (T88.setTop (mkF m 19 #[.val (.ref a1), .val (.int w1), .val (.int w2), .val (.int w3), .val (.int w4)] [])) _
    refine XS.aloadN X88.here hx rfl (hb hby d26_19) rfl rfl ?_
    refine XS.iload X88.here hx rfl (hb hby d26_20) rfl ?_
    refine st91 _ ?_
    show Steps p.tables e below (T91.setTop (mkF m 25 #[.val (.ref a1), .val (.int w1), .val (.int w2), .val (.int w3), .val (.int w4)] [])) _
    exact X91.returnOut hx Bd.returns (hb hby d26_25) hr
  · show own_BInit Z a1 w1 w2 w3 w4 h0 n0 _ T91.heap _
    rw [e91]
    exact ⟨rfl, N91, KP91, Fx92, Fx93, Fx94, Fw91⟩
theorem d8_0 : decode prog_33_method_2_code 0 = .ok (.iload_n 1, 1) := by decide +kernel
theorem d8_1 : decode prog_33_method_2_code 1 = .ok (.aload_n 0, 1) := by decide +kernel
theorem d8_2 : decode prog_33_method_2_code 2 = .ok (.invokeinterface 22 1, 5) := by decide +kernel
theorem d8_7 : decode prog_33_method_2_code 7 = .ok (.if_icmp .ge 22, 3) := by decide +kernel
theorem d8_10 : decode prog_33_method_2_code 10 = .ok (.aload_n 0, 1) := by decide +kernel
theorem d8_11 : decode prog_33_method_2_code 11 = .ok (.iload_n 1, 1) := by decide +kernel
theorem d8_12 : decode prog_33_method_2_code 12 = .ok (.invokeinterface 28 2, 5) := by decide +kernel
theorem d8_17 : decode prog_33_method_2_code 17 = .ok (.invokestatic 32, 3) := by decide +kernel
theorem d8_20 : decode prog_33_method_2_code 20 = .ok (.ifCond .eq 9, 3) := by decide +kernel
theorem d8_29 : decode prog_33_method_2_code 29 = .ok (.iload_n 1, 1) := by decide +kernel
theorem d8_23 : decode prog_33_method_2_code 23 = .ok (.iload_n 1, 1) := by decide +kernel
theorem d8_24 : decode prog_33_method_2_code 24 = .ok (.iconst 1, 1) := by decide +kernel
theorem d8_25 : decode prog_33_method_2_code 25 = .ok (.iadd, 1) := by decide +kernel
theorem d8_26 : decode prog_33_method_2_code 26 = .ok (.goto 4, 3) := by decide +kernel
theorem d8_30 : decode prog_33_method_2_code 30 = .ok (.istore_n 2, 1) := by decide +kernel
theorem d8_31 : decode prog_33_method_2_code 31 = .ok (.aload_n 0, 1) := by decide +kernel
theorem d8_32 : decode prog_33_method_2_code 32 = .ok (.iload_n 2, 1) := by decide +kernel
theorem d8_33 : decode prog_33_method_2_code 33 = .ok (.invokestatic 36, 3) := by decide +kernel
theorem d8_36 : decode prog_33_method_2_code 36 = .ok (.istore_n 3, 1) := by decide +kernel
theorem d8_37 : decode prog_33_method_2_code 37 = .ok (.iload_n 3, 1) := by decide +kernel
theorem d8_38 : decode prog_33_method_2_code 38 = .ok (.aload_n 0, 1) := by decide +kernel
theorem d8_39 : decode prog_33_method_2_code 39 = .ok (.invokeinterface 22 1, 5) := by decide +kernel
theorem d8_44 : decode prog_33_method_2_code 44 = .ok (.if_icmp .ge 25, 3) := by decide +kernel
theorem d8_47 : decode prog_33_method_2_code 47 = .ok (.aload_n 0, 1) := by decide +kernel
theorem d8_48 : decode prog_33_method_2_code 48 = .ok (.iload_n 3, 1) := by decide +kernel
theorem d8_49 : decode prog_33_method_2_code 49 = .ok (.invokeinterface 28 2, 5) := by decide +kernel
theorem d8_54 : decode prog_33_method_2_code 54 = .ok (.bipush 46, 2) := by decide +kernel
theorem d8_56 : decode prog_33_method_2_code 56 = .ok (.if_icmp .ne 13, 3) := by decide +kernel
theorem d8_59 : decode prog_33_method_2_code 59 = .ok (.aload_n 0, 1) := by decide +kernel
theorem d8_60 : decode prog_33_method_2_code 60 = .ok (.iload_n 3, 1) := by decide +kernel
theorem d8_61 : decode prog_33_method_2_code 61 = .ok (.iconst 1, 1) := by decide +kernel
theorem d8_62 : decode prog_33_method_2_code 62 = .ok (.iadd, 1) := by decide +kernel
theorem d8_63 : decode prog_33_method_2_code 63 = .ok (.invokestatic 36, 3) := by decide +kernel
theorem d8_66 : decode prog_33_method_2_code 66 = .ok (.goto 4, 3) := by decide +kernel
theorem d8_69 : decode prog_33_method_2_code 69 = .ok (.iload_n 3, 1) := by decide +kernel
theorem d8_70 : decode prog_33_method_2_code 70 = .ok (.istore 4, 2) := by decide +kernel
theorem d8_72 : decode prog_33_method_2_code 72 = .ok (.iload_n 3, 1) := by decide +kernel
theorem d8_73 : decode prog_33_method_2_code 73 = .ok (.iload_n 2, 1) := by decide +kernel
theorem d8_74 : decode prog_33_method_2_code 74 = .ok (.if_icmp .ne 13, 3) := by decide +kernel
theorem d8_77 : decode prog_33_method_2_code 77 = .ok (.iload 4, 2) := by decide +kernel
theorem d8_79 : decode prog_33_method_2_code 79 = .ok (.iload_n 3, 1) := by decide +kernel
theorem d8_80 : decode prog_33_method_2_code 80 = .ok (.iconst 1, 1) := by decide +kernel
theorem d8_81 : decode prog_33_method_2_code 81 = .ok (.iadd, 1) := by decide +kernel
theorem d8_82 : decode prog_33_method_2_code 82 = .ok (.if_icmp .gt 5, 3) := by decide +kernel
theorem d8_87 : decode prog_33_method_2_code 87 = .ok (.new 8, 3) := by decide +kernel
theorem d8_90 : decode prog_33_method_2_code 90 = .ok (.dup, 1) := by decide +kernel
theorem d8_91 : decode prog_33_method_2_code 91 = .ok (.iload_n 2, 1) := by decide +kernel
theorem d8_92 : decode prog_33_method_2_code 92 = .ok (.iload_n 3, 1) := by decide +kernel
theorem d8_93 : decode prog_33_method_2_code 93 = .ok (.iload 4, 2) := by decide +kernel
theorem d8_95 : decode prog_33_method_2_code 95 = .ok (.aload_n 0, 1) := by decide +kernel
theorem d8_96 : decode prog_33_method_2_code 96 = .ok (.iload 4, 2) := by decide +kernel
theorem d8_98 : decode prog_33_method_2_code 98 = .ok (.invokestatic 39, 3) := by decide +kernel
theorem pd_240 : parseMethodDescriptor "(IIII)V" = some ⟨[.int, .int, .int, .int], none⟩ := by decide +kernel
theorem d8_101 : decode prog_33_method_2_code 101 = .ok (.invokespecial 42, 3) := by decide +kernel
theorem d8_104 : decode prog_33_method_2_code 104 = .ok (.areturn, 1) := by decide +kernel
theorem d8_85 : decode prog_33_method_2_code 85 = .ok (.aconst_null, 1) := by decide +kernel
theorem d8_86 : decode prog_33_method_2_code 86 = .ok (.areturn, 1) := by decide +kernel
theorem ef_rm_bo (m : MethodId) (x0 : Addr) : entryFrame m #[(.ref x0), (.int (0 : Int32))] 5 = mkF m 0 #[.val (.ref x0), .val (.int (0 : Int32)), .unset, .unset, .unset] [] := by first | (simp [entryFrame, mkF, argsToLocals, Value.category]; done) | rfl
set_option maxRecDepth 65536 in
set_option maxHeartbeats 40000000 in
theorem rm_bo (l : Launch) (Z : State) (a0 : Array Value) (hw : ∀ d ∈ tables_1, d.before a0 Z = true) (ws : List Jvm.Cond) (a1 : Addr) (h0 : Heap) (n0 : Nat) (Z0 : n0 ≤ h0.size) (vb : Addr) (kb : ClassId) (z : Int32) (ch : Nat → Int32) (cst : Int32) (fmt : Value) (hS : own_S Z h0 a1 vb kb z ch) (hT : own_T Z h0 cst fmt) (hz0 : 0 ≤ z.toInt) :
    MetFree l (⟨"com/example/rowstrata/rowstrata/type/Numeral$Bounds", "of", "(Ljava/lang/CharSequence;I)Lcom/example/rowstrata/rowstrata/type/Numeral$Bounds;"⟩ : MethodName) (head1 (Jvm.Cond.code (⟨"com/example/rowstrata/rowstrata/type/Numeral$Bounds", "of", "(Ljava/lang/CharSequence;I)Lcom/example/rowstrata/rowstrata/type/Numeral$Bounds;"⟩ : MethodName) prog_33_method_2_code 5 (some (.object "com/example/rowstrata/rowstrata/type/Numeral$Bounds")) :: ws) ({ frames := 6, cells := 1, slots := 4, locals := 87 } : Room)) (fun aQ UQ => aQ = #[(.ref a1), (.int (0 : Int32))] ∧ Z.Warmed39 UQ.vm ∧ UQ.heap = h0) (fun _ _ _ _ _ => True) (fun _ UQ oQ UR => ∃ vQ LQ, oQ = .returned vQ ∧ own_Bnd Z ch z.toNatClampNeg h0 n0 vQ UR.heap LQ ∧ FrameEnd UQ oQ UR LQ ({ frames := 6, cells := 1, slots := 4, locals := 87 } : Room).cells ({ frames := 6, cells := 1, slots := 4, locals := 87 } : Room).slots) := by
  refine MetFree.of_bodySF (plainFor_of_name pn_107) hisR ?_
  intro p e s m args below meth c s₁ Bd hml0 hP hK
  obtain ⟨rfl, hZ, hh⟩ := hP
  have hx := Bd.exec
  have hby := Bd.bytes
  have hml : c.maxLocals = 5 := hml0
  have hown : s.vm.findClass "com/example/rowstrata/rowstrata/type/Numeral$Bounds" = some m.cls := findClass_of_methodNamed Bd.named
  have hnm := (name_of_methodNamed Bd.named Bd.method).1
  have X0 : Stand p l e ({ frames := 6, cells := 1, slots := 4, locals := 87 } : Room) s m #[(.ref a1), (.int (0 : Int32))] below meth c s₁ [] 0 0 := Stand.of_body Bd
  have e0 : s₁.heap = h0 := by rw [← hh, Bd.state]; rfl
  have N0 := Fr.nil n0
  have pre0 : ∀ t, Steps p.tables e below (s₁.setTop (mkF m 0 #[.val (.ref a1), .val (.int (0 : Int32)), .unset, .unset, .unset] [])) t → Steps p.tables e below (s₁.setTop (entryFrame m #[(.ref a1), (.int (0 : Int32))] 5)) t := fun t kq => castTop (ef_rm_bo m a1) kq
  obtain ⟨E_a, F_v, F_c, B_v, hch⟩ := id hS
  obtain ⟨S_c, hcst, S_f, hfm⟩ := id hT
  have t_z := own_tn hz0
  have z0i := own_0i
  have z1i := own_1i
  obtain ⟨T101, L101, sS, X101, e101, N101, hj101_0, hj101_1, hj101_2, ck101⟩ : ∃ (TJ : State) (LJ : List Loc) (sS : Int32), Stand p l e ({ frames := 6, cells := 1, slots := 4, locals := 87 } : Room) s m #[(.ref a1), (.int (0 : Int32))] below meth c TJ LJ 0 0 ∧ TJ.heap = h0 ∧ Fr n0 LJ ∧ (own_s ch z.toNatClampNeg = sS.toNatClampNeg) ∧ (0 ≤ sS.toInt ∧ sS.toInt ≤ z.toInt) ∧ (sS.toInt ≤ 1) ∧ (∀ t, Steps p.tables e below (TJ.setTop (mkF m 30 #[.val (.ref a1), .val (.int (0 : Int32)), .unset, .unset, .unset] [(.int sS)])) t → Steps p.tables e below (s₁.setTop (entryFrame m #[(.ref a1), (.int (0 : Int32))] 5)) t) := by
    obtain ⟨cq102, kq102, q102a, q102b, q102c⟩ := isOf hZ e0 (E_a)
    obtain ⟨_, _, ⟨T102, L102, k102, n102⟩, -, X102, ⟨Lc102, hQ102, l102, y102, z102⟩, st102⟩ := X0.interfaceBack hx (xi := (⟨"java/lang/CharSequence", "length", "()I"⟩ : MethodName)) (y := (⟨"java/lang/String", "length", "()I"⟩ : MethodName)) hown (mvT hZ (own_q hw 46 rfl)) (mvT hZ (own_q hw 47 rfl)) (mvT hZ (own_q hw 48 rfl)) (mvT hZ (own_q hw 49 rfl)) (mvT hZ (own_q hw 29 rfl)) (mvT hZ (own_q hw 50 rfl)) (mvT hZ (own_q hw 51 rfl)) (mvT hZ (own_q hw 52 rfl)) (by decide) (backOf (W := 1) (rm_len l Z a0 hw [] a1 h0 n0 Z0 vb kb z ch cst fmt hS hT) hZ (own_q hw 31 rfl) (own_q hw 4 rfl) (by decide) (by decide)) q102a q102b q102c (g := (mkF m 2 #[.val (.ref a1), .val (.int (0 : Int32)), .unset, .unset, .unset] [(.ref a1), (.int (0 : Int32))])) rfl (by rw [hml]; rfl) (Steps.refl _) (argsL := []) (rest := [(.int (0 : Int32))]) (lenOf pd_63 rfl) rfl (by show 2 * 0 + _ ≤ _; exact Nat.le_of_eq rfl) (hb hby d8_2) (fun _ _ => ⟨rfl, e0, (by decide : 0 + 0 ≤ _), (by decide : 0 + 0 ≤ _)⟩)
    dsimp only [Pt.U, Pt.locs, Pt.cells, Pt.slots] at X102 l102 y102 z102 st102 hQ102
    subst l102 y102 z102
    obtain ⟨rfl, N102q, e102⟩ := hQ102
    have N102 := Fr.app N0 N102q
    by_cases hc7_103 : (0 : Int32) < z
    · -- pc 7: yes
      obtain ⟨cq104, kq104, q104a, q104b, q104c⟩ := isOf hZ e102 (E_a)
      obtain ⟨_, _, ⟨T104, L104, k104, n104⟩, -, X104, ⟨Lc104, hQ104, l104, y104, z104⟩, st104⟩ := X102.interfaceBack hx (xi := (⟨"java/lang/CharSequence", "charAt", "(I)C"⟩ : MethodName)) (y := (⟨"java/lang/String", "charAt", "(I)C"⟩ : MethodName)) hown (mvT hZ (own_q hw 122 rfl)) (mvT hZ (own_q hw 123 rfl)) (mvT hZ (own_q hw 124 rfl)) (mvT hZ (own_q hw 125 rfl)) (mvT hZ (own_q hw 102 rfl)) (mvT hZ (own_q hw 126 rfl)) (mvT hZ (own_q hw 127 rfl)) (mvT hZ (own_q hw 52 rfl)) (by decide) (backOf (W := 0) (rm_ch l Z a0 hw [] a1 (0 : Int32) h0 n0 Z0 vb kb z ch cst fmt hS hT (by decide) hc7_103) hZ (own_q hw 104 rfl) (own_q hw 4 rfl) (by decide) (by decide)) q104a q104b q104c (g := (mkF m 12 #[.val (.ref a1), .val (.int (0 : Int32)), .unset, .unset, .unset] [(.int (0 : Int32)), (.ref a1)])) rfl (by rw [hml]; rfl) (Steps.refl _) (argsL := [(.int (0 : Int32))]) (rest := []) (lenOf pd_68 rfl) rfl (by show 2 * 0 + _ ≤ _; exact Nat.le_of_eq rfl) (hb hby d8_12) (fun _ _ => ⟨rfl, e102, (by decide : 0 + 0 ≤ _), (by decide : 0 + 0 ≤ _)⟩)
      dsimp only [Pt.U, Pt.locs, Pt.cells, Pt.slots] at X104 l104 y104 z104 st104 hQ104
      subst l104 y104 z104
      obtain ⟨rfl, N104q, e104⟩ := hQ104
      have N104 := Fr.app N102 N104q
      obtain ⟨sg, h_sg⟩ : ∃ r : Int32, (if (ch (0 : Int32).toNatClampNeg) = (43 : Int32) then (1 : Int32) else if (ch (0 : Int32).toNatClampNeg) = (45 : Int32) then (1 : Int32) else (0 : Int32)) = r := ⟨_, rfl⟩
      obtain ⟨_, _, ⟨T105, L105, k105, n105⟩, -, X105, ⟨Lc105, hQ105, l105, y105, z105⟩, st105⟩ := Jvm.LawKit.callS X104 hx (y := (⟨"com/example/rowstrata/rowstrata/type/Numeral$Bounds", "isSign", "(C)Z"⟩ : MethodName)) hown (mvT hZ (own_q hw 128 rfl)) (mvT hZ (own_q hw 129 rfl)) (mvT hZ (own_q hw 44 rfl)) (mvT hZ (own_q hw 130 rfl)) (by decide) (backOf (W := 0) (rm_sg l Z a0 hw [] (ch (0 : Int32).toNatClampNeg) h0 n0 Z0 sg h_sg) hZ (own_q hw 130 rfl) (own_q hw 44 rfl) (by decide) (by decide)) (g := (mkF m 17 #[.val (.ref a1), .val (.int (0 : Int32)), .unset, .unset, .unset] [(.int (ch (0 : Int32).toNatClampNeg))])) rfl (by rw [hml]; rfl) (argsL := [(.int (ch (0 : Int32).toNatClampNeg))]) (rest := []) (lenOf pd_140 rfl) rfl (by show 2 * 0 + _ ≤ _; exact Nat.le_of_eq rfl) (hb hby d8_17) (fun _ _ => ⟨rfl, e104, (by decide : 0 + 0 ≤ _), (by decide : 0 + 0 ≤ _)⟩)
      dsimp only [Pt.U, Pt.locs, Pt.cells, Pt.slots] at X105 l105 y105 z105 st105 hQ105
      subst l105 y105 z105
      obtain ⟨rfl, N105q, e105⟩ := hQ105
      have N105 := Fr.app N104 N105q
      have ck107 : ∀ t, Steps p.tables e below (T105.setTop (mkF m 20 #[.val (.ref a1), .val (.int (0 : Int32)), .unset, .unset, .unset] [(.int sg)])) t → Steps p.tables e below (s₁.setTop (entryFrame m #[(.ref a1), (.int (0 : Int32))] 5)) t := by
        intro t kt
        refine pre0 _ ?_
        refine XS.iloadN X0.here hx rfl (hb hby d8_0) rfl ?_
        refine XS.aloadN X0.here hx rfl (hb hby d8_1) rfl rfl ?_
        refine st102.trans ?_
        show Steps p.tables e below (T102.setTop (mkF m 7 #[.val (.ref a1), .val (.int (0 : Int32)), .unset, .unset, .unset] [(.int z), (.int (0 : Int32))])) _
        refine XS.icmpNo X102.here hx rfl (hb hby d8_7) rfl (tlt hc7_103).2.1 ?_
        refine XS.aloadN X102.here hx rfl (hb hby d8_10) rfl rfl ?_
        refine XS.iloadN X102.here hx rfl (hb hby d8_11) rfl ?_
        refine st104.trans ?_
        show Steps p.tables e below (T104.setTop (mkF m 17 #[.val (.ref a1), .val (.int (0 : Int32)), .unset, .unset, .unset] [(.int (ch (0 : Int32).toNatClampNeg))])) _
        refine st105 _ ?_
        exact kt
      (try clear N105q); (try clear st105); (try clear Lc105); (try clear n105); (try clear k105); (try clear L105); (try clear N104); (try clear e104); (try clear N104q); (try clear st104); (try clear Lc104); (try clear X104); (try clear n104); (try clear k104); (try clear L104); (try clear T104); (try clear q104c); (try clear q104b); (try clear q104a); (try clear kq104); (try clear cq104)
      by_cases hc20_106 : sg = (0 : Int32)
      · -- pc 20: yes
        have hl0 := hc7_103; rw [Int32.lt_iff_toInt_lt] at hl0
        refine ⟨T105, _, (0 : Int32), X105, e105, N105, (own_s1 ((own_sg0 h_sg).1 hc20_106)).trans own_0n.symm, (by omega), (by omega), fun t kt => ?_⟩
        refine ck107 _ ?_
        refine XS.ifYes X105.here hx rfl (pc0 := 20) (pc' := 29) rfl (hb hby d8_20) rfl ((if0 _ _).trans (teq hc20_106).1) (by decide) (by decide) ?_
        refine XS.iloadN X105.here hx rfl (hb hby d8_29) rfl ?_
        exact kt
      · -- pc 20: no
        have hl0 := hc7_103; rw [Int32.lt_iff_toInt_lt] at hl0
        refine ⟨T105, _, (1 : Int32), X105, e105, N105, (own_s2 (by omega) ((own_sg0 h_sg).2 hc20_106)).trans own_1n.symm, (by omega), (by omega), fun t kt => ?_⟩
        refine ck107 _ ?_
        refine XS.ifNo X105.here hx rfl (hb hby d8_20) rfl ((if0 _ _).trans (feq hc20_106).1) ?_
        refine XS.iloadN X105.here hx rfl (hb hby d8_23) rfl ?_
        refine XS.iconst X105.here hx rfl (hb hby d8_24) ?_
        refine XS.iadd X105.here hx rfl (hb hby d8_25) rfl ?_
        refine XS.goto X105.here hx rfl (pc0 := 26) (pc' := 30) rfl (hb hby d8_26) (by decide) (by decide) ?_
        exact kt
    · -- pc 7: no
      have hl0 := hc7_103; rw [Int32.lt_iff_toInt_lt] at hl0
      refine ⟨T102, _, (0 : Int32), X102, e102, N102, (own_s0 (by omega)).trans own_0n.symm, (by omega), (by omega), fun t kt => ?_⟩
      refine pre0 _ ?_
      refine XS.iloadN X0.here hx rfl (hb hby d8_0) rfl ?_
      refine XS.aloadN X0.here hx rfl (hb hby d8_1) rfl rfl ?_
      refine st102.trans ?_
      show Steps p.tables e below (T102.setTop (mkF m 7 #[.val (.ref a1), .val (.int (0 : Int32)), .unset, .unset, .unset] [(.int z), (.int (0 : Int32))])) _
      refine XS.icmpYes X102.here hx rfl (pc0 := 7) (pc' := 29) rfl (hb hby d8_7) rfl (flt hc7_103).2.1 (by decide) (by decide) ?_
      refine XS.iloadN X102.here hx rfl (hb hby d8_29) rfl ?_
      exact kt
  have hs_ := hj101_0; have hsb := hj101_1; have hs1 := hj101_2; have t_s := own_tn hsb.1
  obtain ⟨_, _, ⟨T108, L108, k108, n108⟩, -, X108, ⟨Lc108, hQ108, l108, y108, z108⟩, st108⟩ := Jvm.LawKit.callS X101 hx (y := (⟨"com/example/rowstrata/rowstrata/type/Numeral$Bounds", "digitsEnd", "(Ljava/lang/CharSequence;I)I"⟩ : MethodName)) hown (mvT hZ (own_q hw 53 rfl)) (mvT hZ (own_q hw 54 rfl)) (mvT hZ (own_q hw 44 rfl)) (mvT hZ (own_q hw 55 rfl)) (by decide) (backOf (W := 0) (rm_de l Z a0 hw [] a1 sS h0 n0 Z0 vb kb z ch cst fmt hS hT hsb) hZ (own_q hw 55 rfl) (own_q hw 44 rfl) (by decide) (by decide)) (g := (mkF m 33 #[.val (.ref a1), .val (.int (0 : Int32)), .val (.int sS), .unset, .unset] [(.int sS), (.ref a1)])) rfl (by rw [hml]; rfl) (argsL := [(.ref a1), (.int sS)]) (rest := []) (lenOf pd_149 rfl) rfl (by show 2 * 0 + _ ≤ _; exact Nat.le_of_eq rfl) (hb hby d8_33) (fun _ _ => ⟨rfl, e101, (by decide : 0 + 0 ≤ _), (by decide : 0 + 0 ≤ _)⟩)
  dsimp only [Pt.U, Pt.locs, Pt.cells, Pt.slots] at X108 l108 y108 z108 st108 hQ108
  subst l108 y108 z108
  obtain ⟨rd, rfl, N108q, e108, h_rd⟩ := hQ108
  have N108 := Fr.app N101 N108q
  have hd_ : rd.toInt = (own_d ch z.toNatClampNeg : Int) := by unfold own_d; rw [hs_]; exact h_rd
  have hdb := own_de_le (ch := ch) (n := z.toNatClampNeg) (i := sS.toNatClampNeg) (by omega)
  have hds : sS.toInt ≤ rd.toInt ∧ rd.toInt ≤ z.toInt := by omega
  have t_rd := own_tn (x := rd) (by omega)
  have hdn : rd.toNatClampNeg = own_d ch z.toNatClampNeg := by omega
  have ck109 : ∀ t, Steps p.tables e below (T108.setTop (mkF m 37 #[.val (.ref a1), .val (.int (0 : Int32)), .val (.int sS), .val (.int rd), .unset] [])) t → Steps p.tables e below (s₁.setTop (entryFrame m #[(.ref a1), (.int (0 : Int32))] 5)) t := by
    intro t kt
    refine ck101 _ ?_
    refine XS.istoreN X101.here hx rfl (hb hby d8_30) rfl (l' := #[.val (.ref a1), .val (.int (0 : Int32)), .val (.int sS), .unset, .unset]) rfl ?_
    refine XS.aloadN X101.here hx rfl (hb hby d8_31) rfl rfl ?_
    refine XS.iloadN X101.here hx rfl (hb hby d8_32) rfl ?_
    refine st108 _ ?_
    show Steps p.tables e below (T108.setTop (mkF m 36 #[.val (.ref a1), .val (.int (0 : Int32)), .val (.int sS), .unset, .unset] [(.int rd)])) _
    refine XS.istoreN X108.here hx rfl (hb hby d8_36) rfl (l' := #[.val (.ref a1), .val (.int (0 : Int32)), .val (.int sS), .val (.int rd), .unset]) rfl ?_
    exact kt
  (try clear N108q); (try clear st108); (try clear Lc108); (try clear n108); (try clear k108); (try clear L108)
  obtain ⟨T116, L116, rF, X116, e116, N116, hj116_0, hj116_1, ck116⟩ : ∃ (TJ : State) (LJ : List Loc) (rF : Int32), Stand p l e ({ frames := 6, cells := 1, slots := 4, locals := 87 } : Room) s m #[(.ref a1), (.int (0 : Int32))] below meth c TJ LJ 0 0 ∧ TJ.heap = h0 ∧ Fr n0 LJ ∧ (rF.toInt = (own_f ch z.toNatClampNeg : Int)) ∧ (rd.toInt ≤ rF.toInt ∧ rF.toInt ≤ z.toInt) ∧ (∀ t, Steps p.tables e below (TJ.setTop (mkF m 70 #[.val (.ref a1), .val (.int (0 : Int32)), .val (.int sS), .val (.int rd), .unset] [(.int rF)])) t → Steps p.tables e below (s₁.setTop (entryFrame m #[(.ref a1), (.int (0 : Int32))] 5)) t) := by
    obtain ⟨cq117, kq117, q117a, q117b, q117c⟩ := isOf hZ e108 (E_a)
    obtain ⟨_, _, ⟨T117, L117, k117, n117⟩, -, X117, ⟨Lc117, hQ117, l117, y117, z117⟩, st117⟩ := X108.interfaceBack hx (xi := (⟨"java/lang/CharSequence", "length", "()I"⟩ : MethodName)) (y := (⟨"java/lang/String", "length", "()I"⟩ : MethodName)) hown (mvT hZ (own_q hw 46 rfl)) (mvT hZ (own_q hw 47 rfl)) (mvT hZ (own_q hw 48 rfl)) (mvT hZ (own_q hw 49 rfl)) (mvT hZ (own_q hw 29 rfl)) (mvT hZ (own_q hw 50 rfl)) (mvT hZ (own_q hw 51 rfl)) (mvT hZ (own_q hw 52 rfl)) (by decide) (backOf (W := 1) (rm_len l Z a0 hw [] a1 h0 n0 Z0 vb kb z ch cst fmt hS hT) hZ (own_q hw 31 rfl) (own_q hw 4 rfl) (by decide) (by decide)) q117a q117b q117c (g := (mkF m 39 #[.val (.ref a1), .val (.int (0 : Int32)), .val (.int sS), .val (.int rd), .unset] [(.ref a1), (.int rd)])) rfl (by rw [hml]; rfl) (Steps.refl _) (argsL := []) (rest := [(.int rd)]) (lenOf pd_63 rfl) rfl (by show 2 * 0 + _ ≤ _; exact Nat.le_of_eq rfl) (hb hby d8_39) (fun _ _ => ⟨rfl, e108, (by decide : 0 + 0 ≤ _), (by decide : 0 + 0 ≤ _)⟩)
    dsimp only [Pt.U, Pt.locs, Pt.cells, Pt.slots] at X117 l117 y117 z117 st117 hQ117
    subst l117 y117 z117
    obtain ⟨rfl, N117q, e117⟩ := hQ117
    have N117 := Fr.app N108 N117q
    by_cases hc44_118 : rd < z
    · -- pc 44: yes
      obtain ⟨cq119, kq119, q119a, q119b, q119c⟩ := isOf hZ e117 (E_a)
      obtain ⟨_, _, ⟨T119, L119, k119, n119⟩, -, X119, ⟨Lc119, hQ119, l119, y119, z119⟩, st119⟩ := X117.interfaceBack hx (xi := (⟨"java/lang/CharSequence", "charAt", "(I)C"⟩ : MethodName)) (y := (⟨"java/lang/String", "charAt", "(I)C"⟩ : MethodName)) hown (mvT hZ (own_q hw 122 rfl)) (mvT hZ (own_q hw 123 rfl)) (mvT hZ (own_q hw 124 rfl)) (mvT hZ (own_q hw 125 rfl)) (mvT hZ (own_q hw 102 rfl)) (mvT hZ (own_q hw 126 rfl)) (mvT hZ (own_q hw 127 rfl)) (mvT hZ (own_q hw 52 rfl)) (by decide) (backOf (W := 0) (rm_ch l Z a0 hw [] a1 rd h0 n0 Z0 vb kb z ch cst fmt hS hT (own_nn (by omega)) hc44_118) hZ (own_q hw 104 rfl) (own_q hw 4 rfl) (by decide) (by decide)) q119a q119b q119c (g := (mkF m 49 #[.val (.ref a1), .val (.int (0 : Int32)), .val (.int sS), .val (.int rd), .unset] [(.int rd), (.ref a1)])) rfl (by rw [hml]; rfl) (Steps.refl _) (argsL := [(.int rd)]) (rest := []) (lenOf pd_68 rfl) rfl (by show 2 * 0 + _ ≤ _; exact Nat.le_of_eq rfl) (hb hby d8_49) (fun _ _ => ⟨rfl, e117, (by decide : 0 + 0 ≤ _), (by decide : 0 + 0 ≤ _)⟩)
      dsimp only [Pt.U, Pt.locs, Pt.cells, Pt.slots] at X119 l119 y119 z119 st119 hQ119
      subst l119 y119 z119
      obtain ⟨rfl, N119q, e119⟩ := hQ119
      have N119 := Fr.app N117 N119q
      have ck121 : ∀ t, Steps p.tables e below (T119.setTop (mkF m 56 #[.val (.ref a1), .val (.int (0 : Int32)), .val (.int sS), .val (.int rd), .unset] [(.int (46 : Int32)), (.int (ch rd.toNatClampNeg))])) t → Steps p.tables e below (s₁.setTop (entryFrame m #[(.ref a1), (.int (0 : Int32))] 5)) t := by
        intro t kt
        refine ck109 _ ?_
        refine XS.iloadN X108.here hx rfl (hb hby d8_37) rfl ?_
        refine XS.aloadN X108.here hx rfl (hb hby d8_38) rfl rfl ?_
        refine st117.trans ?_
        show Steps p.tables e below (T117.setTop (mkF m 44 #[.val (.ref a1), .val (.int (0 : Int32)), .val (.int sS), .val (.int rd), .unset] [(.int z), (.int rd)])) _
        refine XS.icmpNo X117.here hx rfl (hb hby d8_44) rfl (tlt hc44_118).2.1 ?_
        refine XS.aloadN X117.here hx rfl (hb hby d8_47) rfl rfl ?_
        refine XS.iloadN X117.here hx rfl (hb hby d8_48) rfl ?_
        refine st119.trans ?_
        show Steps p.tables e below (T119.setTop (mkF m 54 #[.val (.ref a1), .val (.int (0 : Int32)), .val (.int sS), .val (.int rd), .unset] [(.int (ch rd.toNatClampNeg))])) _
        refine XS.bipush X119.here hx rfl (hb hby d8_54) ?_
        exact kt
      (try clear N119q); (try clear st119); (try clear Lc119); (try clear n119); (try clear k119); (try clear L119); (try clear q119c); (try clear q119b); (try clear q119a); (try clear kq119); (try clear cq119)
      by_cases hc56_120 : (ch rd.toNatClampNeg) = (46 : Int32)
      · -- pc 56: yes
        obtain ⟨rd1, h_rd1⟩ : ∃ zQ : Int32, (rd + (1 : Int32)) = zQ := ⟨_, rfl⟩
        have hlr := hc44_118; rw [Int32.lt_iff_toInt_lt] at hlr
        have hrd1 : rd1.toInt = rd.toInt + 1 := by rw [← h_rd1]; exact (own_i1 (z := z) ⟨by omega, by omega⟩ (fun q => by rw [q] at hlr; omega)).1
        obtain ⟨_, _, ⟨T122, L122, k122, n122⟩, -, X122, ⟨Lc122, hQ122, l122, y122, z122⟩, st122⟩ := Jvm.LawKit.callS X119 hx (y := (⟨"com/example/rowstrata/rowstrata/type/Numeral$Bounds", "digitsEnd", "(Ljava/lang/CharSequence;I)I"⟩ : MethodName)) hown (mvT hZ (own_q hw 53 rfl)) (mvT hZ (own_q hw 54 rfl)) (mvT hZ (own_q hw 44 rfl)) (mvT hZ (own_q hw 55 rfl)) (by decide) (backOf (W := 0) (rm_de l Z a0 hw [] a1 rd1 h0 n0 Z0 vb kb z ch cst fmt hS hT (by omega)) hZ (own_q hw 55 rfl) (own_q hw 44 rfl) (by decide) (by decide)) (g := (mkF m 63 #[.val (.ref a1), .val (.int (0 : Int32)), .val (.int sS), .val (.int rd), .unset] [(.int rd1), (.ref a1)])) rfl (by rw [hml]; rfl) (argsL := [(.ref a1), (.int rd1)]) (rest := []) (lenOf pd_149 rfl) rfl (by show 2 * 0 + _ ≤ _; exact Nat.le_of_eq rfl) (hb hby d8_63) (fun _ _ => ⟨rfl, e119, (by decide : 0 + 0 ≤ _), (by decide : 0 + 0 ≤ _)⟩)
        dsimp only [Pt.U, Pt.locs, Pt.cells, Pt.slots] at X122 l122 y122 z122 st122 hQ122
        subst l122 y122 z122
        obtain ⟨rf, rfl, N122q, e122, h_rf⟩ := hQ122
        have N122 := Fr.app N119 N122q
        have t_r1 := own_tn (x := rd1) (by omega)
        have n_r1 : rd1.toNatClampNeg = own_d ch z.toNatClampNeg + 1 := by omega
        have hfb := own_de_le (ch := ch) (n := z.toNatClampNeg) (i := rd1.toNatClampNeg) (by omega)
        have hf2 := own_f2 (ch := ch) (n := z.toNatClampNeg) (by omega) (by rw [← hdn]; exact hc56_120)
        have hf_ : rf.toInt = (own_f ch z.toNatClampNeg : Int) := by rw [hf2, ← n_r1]; exact h_rf
        have hfz : rd.toInt ≤ rf.toInt ∧ rf.toInt ≤ z.toInt := by omega
        refine ⟨T122, _, rf, X122, e122, N122, hf_, hfz, fun t kt => ?_⟩
        refine ck121 _ ?_
        refine XS.icmpNo X119.here hx rfl (hb hby d8_56) rfl (teq hc56_120).2 ?_
        refine XS.aloadN X119.here hx rfl (hb hby d8_59) rfl rfl ?_
        refine XS.iloadN X119.here hx rfl (hb hby d8_60) rfl ?_
        refine XS.iconst X119.here hx rfl (hb hby d8_61) ?_
        refine XS.iadd X119.here hx rfl (hb hby d8_62) rfl ?_
        show Steps p.tables e below (T119.setTop (mkF m 63 #[.val (.ref a1), .val (.int (0 : Int32)), .val (.int sS), .val (.int rd), .unset] [(.int (rd + (1 : Int32))), (.ref a1)])) _
        rw [h_rd1]
        show Steps p.tables e below (T119.setTop (mkF m 63 #[.val (.ref a1), .val (.int (0 : Int32)), .val (.int sS), .val (.int rd), .unset] [(.int rd1), (.ref a1)])) _
        refine st122 _ ?_
        show Steps p.tables e below (T122.setTop (mkF m 66 #[.val (.ref a1), .val (.int (0 : Int32)), .val (.int sS), .val (.int rd), .unset] [(.int rf)])) _
        refine XS.goto X122.here hx rfl (pc0 := 66) (pc' := 70) rfl (hb hby d8_66) (by decide) (by decide) ?_
        exact kt
      · -- pc 56: no
        have hlr := hc44_118; rw [Int32.lt_iff_toInt_lt] at hlr
        refine ⟨T119, _, rd, X119, e119, N119, (by rw [own_f1 (by rw [← hdn]; exact hc56_120)]; exact hd_), (by omega), fun t kt => ?_⟩
        refine ck121 _ ?_
        refine XS.icmpYes X119.here hx rfl (pc0 := 56) (pc' := 69) rfl (hb hby d8_56) rfl (feq hc56_120).2 (by decide) (by decide) ?_
        refine XS.iloadN X119.here hx rfl (hb hby d8_69) rfl ?_
        exact kt
    · -- pc 44: no
      have hlr := hc44_118; rw [Int32.lt_iff_toInt_lt] at hlr
      refine ⟨T117, _, rd, X117, e117, N117, (by rw [own_f0 (by omega)]; exact hd_), (by omega), fun t kt => ?_⟩
      refine ck109 _ ?_
      refine XS.iloadN X108.here hx rfl (hb hby d8_37) rfl ?_
      refine XS.aloadN X108.here hx rfl (hb hby d8_38) rfl rfl ?_
      refine st117.trans ?_
      show Steps p.tables e below (T117.setTop (mkF m 44 #[.val (.ref a1), .val (.int (0 : Int32)), .val (.int sS), .val (.int rd), .unset] [(.int z), (.int rd)])) _
      refine XS.icmpYes X117.here hx rfl (pc0 := 44) (pc' := 69) rfl (hb hby d8_44) rfl (flt hc44_118).2.1 (by decide) (by decide) ?_
      refine XS.iloadN X117.here hx rfl (hb hby d8_69) rfl ?_
      exact kt
  have hf_ := hj116_0; have hfz := hj116_1
  by_cases hc74_123 : rd = sS
  · -- pc 74: yes
    have ck125 : ∀ t, Steps p.tables e below (T116.setTop (mkF m 82 #[.val (.ref a1), .val (.int (0 : Int32)), .val (.int sS), .val (.int rd), .val (.int rF)] [(.int (rd + (1 : Int32))), (.int rF)])) t → Steps p.tables e below (s₁.setTop (entryFrame m #[(.ref a1), (.int (0 : Int32))] 5)) t := by
      intro t kt
      refine ck116 _ ?_
      refine XS.istore X116.here hx rfl (hb hby d8_70) rfl (l' := #[.val (.ref a1), .val (.int (0 : Int32)), .val (.int sS), .val (.int rd), .val (.int rF)]) rfl ?_
      refine XS.iloadN X116.here hx rfl (hb hby d8_72) rfl ?_
      refine XS.iloadN X116.here hx rfl (hb hby d8_73) rfl ?_
      refine XS.icmpNo X116.here hx rfl (hb hby d8_74) rfl (teq hc74_123).2 ?_
      refine XS.iload X116.here hx rfl (hb hby d8_77) rfl ?_
      refine XS.iloadN X116.here hx rfl (hb hby d8_79) rfl ?_
      refine XS.iconst X116.here hx rfl (hb hby d8_80) ?_
      refine XS.iadd X116.here hx rfl (hb hby d8_81) rfl ?_
      exact kt
    by_cases hc82_124 : (rd + (1 : Int32)) < rF
    · -- pc 82: yes
      obtain ⟨T126, h126, X126, e126, E126, A126, D126, -, st126⟩ := newO X116 hx hZ hown (own_q hw 131 rfl) (own_q hw 132 rfl) (own_q hw 44 rfl) e116 (g := (mkF m 87 #[.val (.ref a1), .val (.int (0 : Int32)), .val (.int sS), .val (.int rd), .val (.int rF)] [])) rfl (hb hby d8_87) (by decide) (by decide)
      obtain ⟨b126, g126⟩ : ∃ z, z = h0.size := ⟨_, rfl⟩
      rw [← g126] at A126 D126 st126
      have sz_b126 : h0.size ≤ b126 := Nat.le_trans (Keep.refl h0 []).1 (Nat.le_of_eq g126.symm)
      have gn_b126 : n0 ≤ b126 := Nat.le_trans Z0 sz_b126
      have EX126 := own_ext_trans (own_ext_refl h0) E126
      have KP126 := Keep.ext (Keep.refl h0 []) E126
      have F126_start : Fld Z h126 b126 "com/example/rowstrata/rowstrata/type/Numeral$Bounds" "start" "I" (.int (0 : Int32)) := D126 (Or.inr (own_q hw 141 rfl)) (ty := .int) (by decide)
      have F126_digitsEnd : Fld Z h126 b126 "com/example/rowstrata/rowstrata/type/Numeral$Bounds" "digitsEnd" "I" (.int (0 : Int32)) := D126 (Or.inr (own_q hw 143 rfl)) (ty := .int) (by decide)
      have F126_fractionEnd : Fld Z h126 b126 "com/example/rowstrata/rowstrata/type/Numeral$Bounds" "fractionEnd" "I" (.int (0 : Int32)) := D126 (Or.inr (own_q hw 145 rfl)) (ty := .int) (by decide)
      have F126_end : Fld Z h126 b126 "com/example/rowstrata/rowstrata/type/Numeral$Bounds" "end" "I" (.int (0 : Int32)) := D126 (Or.inr (own_q hw 147 rfl)) (ty := .int) (by decide)
      obtain ⟨_, _, ⟨T127, L127, k127, n127⟩, -, X127, ⟨Lc127, hQ127, l127, y127, z127⟩, st127⟩ := Jvm.LawKit.callS X126 hx (y := (⟨"com/example/rowstrata/rowstrata/type/Numeral$Bounds", "exponentEnd", "(Ljava/lang/CharSequence;I)I"⟩ : MethodName)) hown (mvT hZ (own_q hw 133 rfl)) (mvT hZ (own_q hw 134 rfl)) (mvT hZ (own_q hw 44 rfl)) (mvT hZ (own_q hw 135 rfl)) (by decide) (backOf (W := 5) (rm_ex l Z a0 hw [] a1 rF h126 n0 (Nat.le_trans Z0 EX126.1) vb kb z ch cst fmt (hS.ext EX126) (hT.ext EX126) (by omega)) hZ (own_q hw 135 rfl) (own_q hw 44 rfl) (by decide) (by decide)) (g := (mkF m 98 #[.val (.ref a1), .val (.int (0 : Int32)), .val (.int sS), .val (.int rd), .val (.int rF)] [(.int rF), (.ref a1), (.int rF), (.int rd), (.int sS), (.ref b126), (.ref b126)])) rfl (by rw [hml]; rfl) (argsL := [(.ref a1), (.int rF)]) (rest := [(.int rF), (.int rd), (.int sS), (.ref b126), (.ref b126)]) (lenOf pd_149 rfl) rfl (by show 2 * 0 + _ ≤ _; exact Nat.le_of_eq rfl) (hb hby d8_98) (fun _ _ => ⟨rfl, e126, (by decide : 1 + 0 ≤ _), (by decide : 4 + 0 ≤ _)⟩)
      dsimp only [Pt.U, Pt.locs, Pt.cells, Pt.slots] at X127 l127 y127 z127 st127 hQ127
      subst l127 y127 z127
      obtain ⟨re, rfl, N127q, e127, h_re⟩ := hQ127
      have N127 := Fr.app N116 N127q
      have t_f := own_tn (x := rF) (by omega)
      have n_f : rF.toNatClampNeg = own_f ch z.toNatClampNeg := by omega
      have he_ : re.toInt = (own_e ch z.toNatClampNeg : Int) := by unfold own_e; rw [← n_f]; exact h_re
      obtain ⟨_, _, ⟨T128, L128, k128, n128⟩, -, X128, ⟨Lc128, hQ128, l128, y128, z128⟩, st128⟩ := X127.specialBack hx (y := (⟨"com/example/rowstrata/rowstrata/type/Numeral$Bounds", "<init>", "(IIII)V"⟩ : MethodName)) rfl hown (mvT hZ (own_q hw 136 rfl)) (mvT hZ (own_q hw 137 rfl)) (mvT hZ (own_q hw 138 rfl)) (by decide) (backOf (W := 1) (rm_bi l Z a0 hw [] b126 sS rd rF re h126 n0 (Nat.le_trans Z0 EX126.1) A126 F126_start F126_digitsEnd F126_fractionEnd F126_end gn_b126) hZ (own_q hw 138 rfl) (own_q hw 44 rfl) (by decide) (by decide)) (g := (mkF m 101 #[.val (.ref a1), .val (.int (0 : Int32)), .val (.int sS), .val (.int rd), .val (.int rF)] [(.int re), (.int rF), (.int rd), (.int sS), (.ref b126), (.ref b126)])) rfl (by rw [hml]; rfl) (Steps.refl _) (a := b126) (argsL := [(.int sS), (.int rd), (.int rF), (.int re)]) (rest := [(.ref b126)]) (lenOf pd_240 rfl) rfl (by show 2 * 0 + _ ≤ _; exact Nat.le_of_eq rfl) (hb hby d8_101) (fun _ _ => ⟨rfl, e127, (by decide : 1 + 0 ≤ _), (by decide : 4 + 0 ≤ _)⟩)
      dsimp only [Pt.U, Pt.locs, Pt.cells, Pt.slots] at X128 l128 y128 z128 st128 hQ128
      subst l128 y128 z128
      obtain ⟨rfl, N128q, K128, G128_0, G128_1, G128_2, G128_3⟩ := hQ128
      have N128 := Fr.app N127 N128q
      have e128 : T128.heap = T128.heap := rfl
      have EX128 := own_ext_keep EX126 K128 (allS sz_b126 all0)
      have KP128 := Keep.trans KP126 K128 (allS (Or.inr sz_b126) all0)
      have hes := congrArg Int32.toInt hc74_123
      have hsn : ((own_s ch z.toNatClampNeg : Nat) : Int) = sS.toInt := by rw [hs_]; omega
      have hgt := hc82_124; rw [Int32.lt_iff_toInt_lt] at hgt
      have hp1 := c_iadd rd (1 : Int32)
      have hp2 := rng32 (rd + (1 : Int32))
      have hp3 := rng32 z
      obtain ⟨fs, hr, hrun, hended, hW, hsame⟩ := X128.leave (v := some (.ref b126)) (fun h => by rw [Bd.returns] at h; cases h)
      refine ⟨_, _, ck125 _ ?_, hrun, hended, _, _, rfl, ?_, ⟨_, rfl⟩, hW, hsame.mono (by decide) (by decide)⟩
      · refine XS.icmpYes X116.here hx rfl (pc0 := 82) (pc' := 87) rfl (hb hby d8_82) rfl (tlt hc82_124).2.2.1 (by decide) (by decide) ?_
        refine st126 _ ?_
        show Steps p.tables e below (T126.setTop (mkF m 90 #[.val (.ref a1), .val (.int (0 : Int32)), .val (.int sS), .val (.int rd), .val (.int rF)] [(.ref b126)])) _
        refine XS.dup X126.here hx rfl (hb hby d8_90) rfl rfl ?_
        refine XS.iloadN X126.here hx rfl (hb hby d8_91) rfl ?_
        refine XS.iloadN X126.here hx rfl (hb hby d8_92) rfl ?_
        refine XS.iload X126.here hx rfl (hb hby d8_93) rfl ?_
        refine XS.aloadN X126.here hx rfl (hb hby d8_95) rfl rfl ?_
        refine XS.iload X126.here hx rfl (hb hby d8_96) rfl ?_
        refine st127 _ ?_
        show Steps p.tables e below (T127.setTop (mkF m 101 #[.val (.ref a1), .val (.int (0 : Int32)), .val (.int sS), .val (.int rd), .val (.int rF)] [(.int re), (.int rF), (.int rd), (.int sS), (.ref b126), (.ref b126)])) _
        refine st128.trans ?_
        show Steps p.tables e below (T128.setTop (mkF m 104 #[.val (.ref a1), .val (.int (0 : Int32)), .val (.int sS), .val (.int rd), .val (.int rF)] [(.ref b126)])) _
        exact retOut X128 hx Bd.returns rfl (Or.inr (Or.inr (Or.inr (Or.inr ⟨rfl, rfl, rfl⟩)))) (hb hby d8_104) hr
      · show own_Bnd Z ch z.toNatClampNeg h0 n0 _ T128.heap _
        exact ⟨N128, EX128, Or.inr ⟨fun q => by have := q.1; have := q.2; omega, b126, sS, rd, rF, re, rfl, G128_0, G128_1, G128_2, G128_3, by omega, by omega, by omega, by omega⟩⟩
    · -- pc 82: no
      have hes := congrArg Int32.toInt hc74_123
      have hsn : ((own_s ch z.toNatClampNeg : Nat) : Int) = sS.toInt := by rw [hs_]; omega
      have hgt := hc82_124; rw [Int32.lt_iff_toInt_lt] at hgt
      have hp1 := c_iadd rd (1 : Int32)
      have hp2 := rng32 (rd + (1 : Int32))
      have hp3 := rng32 z
      obtain ⟨fs, hr, hrun, hended, hW, hsame⟩ := X116.leave (v := some .null) (fun h => by rw [Bd.returns] at h; cases h)
      refine ⟨_, _, ck125 _ ?_, hrun, hended, _, _, rfl, ?_, ⟨_, rfl⟩, hW, hsame.mono (by decide) (by decide)⟩
      · refine XS.icmpNo X116.here hx rfl (hb hby d8_82) rfl (flt hc82_124).2.2.1 ?_
        refine XS.aconstNull X116.here hx rfl (hb hby d8_85) ?_
        exact retOut X116 hx Bd.returns rfl (Or.inr (Or.inr (Or.inr (Or.inr ⟨rfl, rfl, rfl⟩)))) (hb hby d8_86) hr
      · show own_Bnd Z ch z.toNatClampNeg h0 n0 _ T116.heap _
        rw [e116]
        exact ⟨N116, own_ext_refl _, Or.inl ⟨⟨by omega, by omega⟩, rfl⟩⟩
  · -- pc 74: no
    obtain ⟨T129, h129, X129, e129, E129, A129, D129, -, st129⟩ := newO X116 hx hZ hown (own_q hw 131 rfl) (own_q hw 132 rfl) (own_q hw 44 rfl) e116 (g := (mkF m 87 #[.val (.ref a1), .val (.int (0 : Int32)), .val (.int sS), .val (.int rd), .val (.int rF)] [])) rfl (hb hby d8_87) (by decide) (by decide)
    obtain ⟨b129, g129⟩ : ∃ z, z = h0.size := ⟨_, rfl⟩
    rw [← g129] at A129 D129 st129
    have sz_b129 : h0.size ≤ b129 := Nat.le_trans (Keep.refl h0 []).1 (Nat.le_of_eq g129.symm)
    have gn_b129 : n0 ≤ b129 := Nat.le_trans Z0 sz_b129
    have EX129 := own_ext_trans (own_ext_refl h0) E129
    have KP129 := Keep.ext (Keep.refl h0 []) E129
    have F129_start : Fld Z h129 b129 "com/example/rowstrata/rowstrata/type/Numeral$Bounds" "start" "I" (.int (0 : Int32)) := D129 (Or.inr (own_q hw 141 rfl)) (ty := .int) (by decide)
    have F129_digitsEnd : Fld Z h129 b129 "com/example/rowstrata/rowstrata/type/Numeral$Bounds" "digitsEnd" "I" (.int (0 : Int32)) := D129 (Or.inr (own_q hw 143 rfl)) (ty := .int) (by decide)
    have F129_fractionEnd : Fld Z h129 b129 "com/example/rowstrata/rowstrata/type/Numeral$Bounds" "fractionEnd" "I" (.int (0 : Int32)) := D129 (Or.inr (own_q hw 145 rfl)) (ty := .int) (by decide)
    have F129_end : Fld Z h129 b129 "com/example/rowstrata/rowstrata/type/Numeral$Bounds" "end" "I" (.int (0 : Int32)) := D129 (Or.inr (own_q hw 147 rfl)) (ty := .int) (by decide)
    obtain ⟨_, _, ⟨T130, L130, k130, n130⟩, -, X130, ⟨Lc130, hQ130, l130, y130, z130⟩, st130⟩ := Jvm.LawKit.callS X129 hx (y := (⟨"com/example/rowstrata/rowstrata/type/Numeral$Bounds", "exponentEnd", "(Ljava/lang/CharSequence;I)I"⟩ : MethodName)) hown (mvT hZ (own_q hw 133 rfl)) (mvT hZ (own_q hw 134 rfl)) (mvT hZ (own_q hw 44 rfl)) (mvT hZ (own_q hw 135 rfl)) (by decide) (backOf (W := 5) (rm_ex l Z a0 hw [] a1 rF h129 n0 (Nat.le_trans Z0 EX129.1) vb kb z ch cst fmt (hS.ext EX129) (hT.ext EX129) (by omega)) hZ (own_q hw 135 rfl) (own_q hw 44 rfl) (by decide) (by decide)) (g := (mkF m 98 #[.val (.ref a1), .val (.int (0 : Int32)), .val (.int sS), .val (.int rd), .val (.int rF)] [(.int rF), (.ref a1), (.int rF), (.int rd), (.int sS), (.ref b129), (.ref b129)])) rfl (by rw [hml]; rfl) (argsL := [(.ref a1), (.int rF)]) (rest := [(.int rF), (.int rd), (.int sS), (.ref b129), (.ref b129)]) (lenOf pd_149 rfl) rfl (by show 2 * 0 + _ ≤ _; exact Nat.le_of_eq rfl) (hb hby d8_98) (fun _ _ => ⟨rfl, e129, (by decide : 1 + 0 ≤ _), (by decide : 4 + 0 ≤ _)⟩)
    dsimp only [Pt.U, Pt.locs, Pt.cells, Pt.slots] at X130 l130 y130 z130 st130 hQ130
    subst l130 y130 z130
    obtain ⟨re, rfl, N130q, e130, h_re⟩ := hQ130
    have N130 := Fr.app N116 N130q
    have t_f := own_tn (x := rF) (by omega)
    have n_f : rF.toNatClampNeg = own_f ch z.toNatClampNeg := by omega
    have he_ : re.toInt = (own_e ch z.toNatClampNeg : Int) := by unfold own_e; rw [← n_f]; exact h_re
    obtain ⟨_, _, ⟨T131, L131, k131, n131⟩, -, X131, ⟨Lc131, hQ131, l131, y131, z131⟩, st131⟩ := X130.specialBack hx (y := (⟨"com/example/rowstrata/rowstrata/type/Numeral$Bounds", "<init>", "(IIII)V"⟩ : MethodName)) rfl hown (mvT hZ (own_q hw 136 rfl)) (mvT hZ (own_q hw 137 rfl)) (mvT hZ (own_q hw 138 rfl)) (by decide) (backOf (W := 1) (rm_bi l Z a0 hw [] b129 sS rd rF re h129 n0 (Nat.le_trans Z0 EX129.1) A129 F129_start F129_digitsEnd F129_fractionEnd F129_end gn_b129) hZ (own_q hw 138 rfl) (own_q hw 44 rfl) (by decide) (by decide)) (g := (mkF m 101 #[.val (.ref a1), .val (.int (0 : Int32)), .val (.int sS), .val (.int rd), .val (.int rF)] [(.int re), (.int rF), (.int rd), (.int sS), (.ref b129), (.ref b129)])) rfl (by rw [hml]; rfl) (Steps.refl _) (a := b129) (argsL := [(.int sS), (.int rd), (.int rF), (.int re)]) (rest := [(.ref b129)]) (lenOf pd_240 rfl) rfl (by show 2 * 0 + _ ≤ _; exact Nat.le_of_eq rfl) (hb hby d8_101) (fun _ _ => ⟨rfl, e130, (by decide : 1 + 0 ≤ _), (by decide : 4 + 0 ≤ _)⟩)
    dsimp only [Pt.U, Pt.locs, Pt.cells, Pt.slots] at X131 l131 y131 z131 st131 hQ131
    subst l131 y131 z131
    obtain ⟨rfl, N131q, K131, G131_0, G131_1, G131_2, G131_3⟩ := hQ131
    have N131 := Fr.app N130 N131q
    have e131 : T131.heap = T131.heap := rfl
    have EX131 := own_ext_keep EX129 K131 (allS sz_b129 all0)
    have KP131 := Keep.trans KP129 K131 (allS (Or.inr sz_b129) all0)
    have hes := (fun q => hc74_123 (Int32.toInt_inj.mp q) : ¬ rd.toInt = sS.toInt)
    have hsn : ((own_s ch z.toNatClampNeg : Nat) : Int) = sS.toInt := by rw [hs_]; omega
    obtain ⟨fs, hr, hrun, hended, hW, hsame⟩ := X131.leave (v := some (.ref b129)) (fun h => by rw [Bd.returns] at h; cases h)
    refine ⟨_, _, ck116 _ ?_, hrun, hended, _, _, rfl, ?_, ⟨_, rfl⟩, hW, hsame.mono (by decide) (by decide)⟩
    · refine XS.istore X116.here hx rfl (hb hby d8_70) rfl (l' := #[.val (.ref a1), .val (.int (0 : Int32)), .val (.int sS), .val (.int rd), .val (.int rF)]) rfl ?_
      refine XS.iloadN X116.here hx rfl (hb hby d8_72) rfl ?_
      refine XS.iloadN X116.here hx rfl (hb hby d8_73) rfl ?_
      refine XS.icmpYes X116.here hx rfl (pc0 := 74) (pc' := 87) rfl (hb hby d8_74) rfl (feq hc74_123).2 (by decide) (by decide) ?_
      refine st129 _ ?_
      show Steps p.tables e below (T129.setTop (mkF m 90 #[.val (.ref a1), .val (.int (0 : Int32)), .val (.int sS), .val (.int rd), .val (.int rF)] [(.ref b129)])) _
      refine XS.dup X129.here hx rfl (hb hby d8_90) rfl rfl ?_
      refine XS.iloadN X129.here hx rfl (hb hby d8_91) rfl ?_
      refine XS.iloadN X129.here hx rfl (hb hby d8_92) rfl ?_
      refine XS.iload X129.here hx rfl (hb hby d8_93) rfl ?_
      refine XS.aloadN X129.here hx rfl (hb hby d8_95) rfl rfl ?_
      refine XS.iload X129.here hx rfl (hb hby d8_96) rfl ?_
      refine st130 _ ?_
      show Steps p.tables e below (T130.setTop (mkF m 101 #[.val (.ref a1), .val (.int (0 : Int32)), .val (.int sS), .val (.int rd), .val (.int rF)] [(.int re), (.int rF), (.int rd), (.int sS), (.ref b129), (.ref b129)])) _
      refine st131.trans ?_
      show Steps p.tables e below (T131.setTop (mkF m 104 #[.val (.ref a1), .val (.int (0 : Int32)), .val (.int sS), .val (.int rd), .val (.int rF)] [(.ref b129)])) _
      exact retOut X131 hx Bd.returns rfl (Or.inr (Or.inr (Or.inr (Or.inr ⟨rfl, rfl, rfl⟩)))) (hb hby d8_104) hr
    · show own_Bnd Z ch z.toNatClampNeg h0 n0 _ T131.heap _
      exact ⟨N131, EX131, Or.inr ⟨fun q => hes (hd_.trans ((congrArg (fun x : Nat => (x : Int)) q.1).trans hsn)), b129, sS, rd, rF, re, rfl, G131_0, G131_1, G131_2, G131_3, by omega, by omega, by omega, by omega⟩⟩
theorem d11_0 : decode method_4_code 0 = .ok (.iload_n 0, 1) := by decide +kernel
theorem d11_1 : decode method_4_code 1 = .ok (.iconst 3, 1) := by decide +kernel
theorem d11_2 : decode method_4_code 2 = .ok (.iand, 1) := by decide +kernel
theorem d11_3 : decode method_4_code 3 = .ok (.istore_n 2, 1) := by decide +kernel
theorem d11_4 : decode method_4_code 4 = .ok (.iload_n 2, 1) := by decide +kernel
theorem d11_5 : decode method_4_code 5 = .ok (.ifCond .eq 8, 3) := by decide +kernel
theorem d11_13 : decode method_4_code 13 = .ok (.aconst_null, 1) := by decide +kernel
theorem d11_14 : decode method_4_code 14 = .ok (.areturn, 1) := by decide +kernel
theorem d11_8 : decode method_4_code 8 = .ok (.iload_n 2, 1) := by decide +kernel
theorem d11_9 : decode method_4_code 9 = .ok (.iconst 3, 1) := by decide +kernel
theorem d11_10 : decode method_4_code 10 = .ok (.if_icmp .ne 5, 3) := by decide +kernel
theorem d11_15 : decode method_4_code 15 = .ok (.iload_n 2, 1) := by decide +kernel
theorem d11_16 : decode method_4_code 16 = .ok (.iconst 1, 1) := by decide +kernel
theorem d11_17 : decode method_4_code 17 = .ok (.if_icmp .ne 6, 3) := by decide +kernel
theorem d11_20 : decode method_4_code 20 = .ok (.ldc 17, 2) := by decide +kernel
theorem d11_22 : decode method_4_code 22 = .ok (.areturn, 1) := by decide +kernel
theorem d11_23 : decode method_4_code 23 = .ok (.aload_n 1, 1) := by decide +kernel
theorem d11_24 : decode method_4_code 24 = .ok (.areturn, 1) := by decide +kernel
theorem ef_rm_part (m : MethodId) (x0 : Int32) (x1 : Addr) : entryFrame m #[(.int x0), (.ref x1)] 3 = mkF m 0 #[.val (.int x0), .val (.ref x1), .unset] [] := by first | (simp [entryFrame, mkF, argsToLocals, Value.category]; done) | rfl
set_option maxRecDepth 65536 in
set_option maxHeartbeats 40000000 in
theorem rm_part (l : Launch) (Z : State) (a0 : Array Value) (hw : ∀ d ∈ tables_1, d.before a0 Z = true) (ws : List Jvm.Cond) (x : Int32) (tx : Addr) (h0 : Heap) (n0 : Nat) (Z0 : n0 ≤ h0.size)  :
    MetFree l (⟨"com/example/rowstrata/rowstrata/type/NumeralIsWholePinLaw", "part", "(ILjava/lang/String;)Ljava/lang/String;"⟩ : MethodName) (head1 (Jvm.Cond.code (⟨"com/example/rowstrata/rowstrata/type/NumeralIsWholePinLaw", "part", "(ILjava/lang/String;)Ljava/lang/String;"⟩ : MethodName) method_4_code 3 (some (.object "java/lang/String")) :: ws) ({ frames := 0, cells := 2, slots := 4, locals := 0 } : Room)) (fun aQ UQ => aQ = #[(.int x), (.ref tx)] ∧ Z.Warmed39 UQ.vm ∧ UQ.heap = h0) (fun _ _ _ _ _ => True) (fun _ UQ oQ UR => ∃ vQ LQ, oQ = .returned vQ ∧ own_Ref (fun w => w = .null ∨ ∃ a : Addr, w = .ref a) h0 n0 vQ UR.heap LQ ∧ ReturnedEndW UQ oQ UR LQ ({ frames := 0, cells := 2, slots := 4, locals := 0 } : Room).cells ({ frames := 0, cells := 2, slots := 4, locals := 0 } : Room).slots) := by
  refine MetFree.of_bodySF (plainFor_of_name pn_86) hisR ?_
  intro p e s m args below meth c s₁ Bd hml0 hP hK
  obtain ⟨rfl, hZ, hh⟩ := hP
  have hx := Bd.exec
  have hby := Bd.bytes
  have hml : c.maxLocals = 3 := hml0
  have hown : s.vm.findClass "com/example/rowstrata/rowstrata/type/NumeralIsWholePinLaw" = some m.cls := findClass_of_methodNamed Bd.named
  have hnm := (name_of_methodNamed Bd.named Bd.method).1
  have X0 : Stand p l e ({ frames := 0, cells := 2, slots := 4, locals := 0 } : Room) (s.setVm s.vm) m #[(.int x), (.ref tx)] below meth c s₁ [] 0 0 := Stand.of_body Bd
  have e0 : s₁.heap = h0 := by rw [← hh, Bd.state]; rfl
  have N0 := Fr.nil n0
  have pre0 : ∀ t, Steps p.tables e below (s₁.setTop (mkF m 0 #[.val (.int x), .val (.ref tx), .unset] [])) t → Steps p.tables e below (s₁.setTop (entryFrame m #[(.int x), (.ref tx)] 3)) t := fun t kq => castTop (ef_rm_part m x tx) kq
  have hSi0 : s.Since s.vm h0.size := (State.WarmedH.refl s).since _
  have hSk0 : h0.size ≤ h0.size := Nat.le_refl _
  have ck133 : ∀ t, Steps p.tables e below (s₁.setTop (mkF m 5 #[.val (.int x), .val (.ref tx), .val (.int (x &&& (3 : Int32)))] [(.int (x &&& (3 : Int32)))])) t → Steps p.tables e below (s₁.setTop (entryFrame m #[(.int x), (.ref tx)] 3)) t := by
    intro t kt
    refine pre0 _ ?_
    refine XS.iloadN X0.here hx rfl (hb hby d11_0) rfl ?_
    refine XS.iconst X0.here hx rfl (hb hby d11_1) ?_
    refine XS.iand X0.here hx rfl (hb hby d11_2) rfl ?_
    refine XS.istoreN X0.here hx rfl (hb hby d11_3) rfl (l' := #[.val (.int x), .val (.ref tx), .val (.int (x &&& (3 : Int32)))]) rfl ?_
    refine XS.iloadN X0.here hx rfl (hb hby d11_4) rfl ?_
    exact kt
  by_cases hc5_132 : (x &&& (3 : Int32)) = (0 : Int32)
  · -- pc 5: yes
    obtain ⟨fs, hr, hrun, hended, hW⟩ := X0.leaveW hSi0 (show _ ≤ s₁.heap.size by rw [e0]; exact hSk0) (v := some .null) (fun h => by rw [Bd.returns] at h; cases h)
    refine ⟨_, _, ck133 _ ?_, hrun, hended, _, _, rfl, ?_, own_retW (k := 0) (n := 0) hW (by decide) (by decide)⟩
    · refine XS.ifYes X0.here hx rfl (pc0 := 5) (pc' := 13) rfl (hb hby d11_5) rfl ((if0 _ _).trans (teq hc5_132).1) (by decide) (by decide) ?_
      refine XS.aconstNull X0.here hx rfl (hb hby d11_13) ?_
      exact retOut X0 hx Bd.returns rfl (Or.inr (Or.inr (Or.inr (Or.inr ⟨rfl, rfl, rfl⟩)))) (hb hby d11_14) hr
    · show own_Ref (fun w => w = .null ∨ ∃ a : Addr, w = .ref a) h0 n0 _ s₁.heap _
      rw [e0]
      exact ⟨_, rfl, N0, (own_ext_refl h0), Or.inl rfl⟩
  · -- pc 5: no
    by_cases hc10_134 : (x &&& (3 : Int32)) = (3 : Int32)
    · -- pc 10: yes
      obtain ⟨fs, hr, hrun, hended, hW⟩ := X0.leaveW hSi0 (show _ ≤ s₁.heap.size by rw [e0]; exact hSk0) (v := some .null) (fun h => by rw [Bd.returns] at h; cases h)
      refine ⟨_, _, ck133 _ ?_, hrun, hended, _, _, rfl, ?_, own_retW (k := 0) (n := 0) hW (by decide) (by decide)⟩
      · refine XS.ifNo X0.here hx rfl (hb hby d11_5) rfl ((if0 _ _).trans (feq hc5_132).1) ?_
        refine XS.iloadN X0.here hx rfl (hb hby d11_8) rfl ?_
        refine XS.iconst X0.here hx rfl (hb hby d11_9) ?_
        refine XS.icmpNo X0.here hx rfl (hb hby d11_10) rfl (teq hc10_134).2 ?_
        refine XS.aconstNull X0.here hx rfl (hb hby d11_13) ?_
        exact retOut X0 hx Bd.returns rfl (Or.inr (Or.inr (Or.inr (Or.inr ⟨rfl, rfl, rfl⟩)))) (hb hby d11_14) hr
      · show own_Ref (fun w => w = .null ∨ ∃ a : Addr, w = .ref a) h0 n0 _ s₁.heap _
        rw [e0]
        exact ⟨_, rfl, N0, (own_ext_refl h0), Or.inl rfl⟩
    · -- pc 10: no
      have ck136 : ∀ t, Steps p.tables e below (s₁.setTop (mkF m 17 #[.val (.int x), .val (.ref tx), .val (.int (x &&& (3 : Int32)))] [(.int (1 : Int32)), (.int (x &&& (3 : Int32)))])) t → Steps p.tables e below (s₁.setTop (entryFrame m #[(.int x), (.ref tx)] 3)) t := by
        intro t kt
        refine ck133 _ ?_
        refine XS.ifNo X0.here hx rfl (hb hby d11_5) rfl ((if0 _ _).trans (feq hc5_132).1) ?_
        refine XS.iloadN X0.here hx rfl (hb hby d11_8) rfl ?_
        refine XS.iconst X0.here hx rfl (hb hby d11_9) ?_
        refine XS.icmpYes X0.here hx rfl (pc0 := 10) (pc' := 15) rfl (hb hby d11_10) rfl (feq hc10_134).2 (by decide) (by decide) ?_
        refine XS.iloadN X0.here hx rfl (hb hby d11_15) rfl ?_
        refine XS.iconst X0.here hx rfl (hb hby d11_16) ?_
        exact kt
      by_cases hc17_135 : (x &&& (3 : Int32)) = (1 : Int32)
      · -- pc 17: yes
        have ck137 : ∀ t, Steps p.tables e below (s₁.setTop (mkF m 20 #[.val (.int x), .val (.ref tx), .val (.int (x &&& (3 : Int32)))] [])) t → Steps p.tables e below (s₁.setTop (entryFrame m #[(.int x), (.ref tx)] 3)) t := by
          intro t kt
          refine ck136 _ ?_
          refine XS.icmpNo X0.here hx rfl (hb hby d11_17) rfl (teq hc17_135).2 ?_
          exact kt
        obtain ⟨b138, T138, h138, kk138, X138, e138, E138, hSi138, hSj138, hZ, hown, st138⟩ := ldcS X0 hx hZ hown (own_q hw 62 rfl) (own_atoms hw) e0 hSi0 hSk0 (g := (mkF m 20 #[.val (.int x), .val (.ref tx), .val (.int (x &&& (3 : Int32)))] [])) rfl (hb hby d11_20) (n := 0) (by decide) (by decide) (by decide) (by decide)
        have hSk138 := Nat.le_trans hSk0 E138.1
        have EX138 := own_ext_trans (own_ext_refl h0) E138
        have KP138 := Keep.ext (Keep.refl h0 []) E138
        obtain ⟨fs, hr, hrun, hended, hW⟩ := X138.leaveW hSi138 (show _ ≤ T138.heap.size by rw [e138]; exact hSj138) (v := some (.ref b138)) (fun h => by rw [Bd.returns] at h; cases h)
        refine ⟨_, _, ck137 _ ?_, hrun, hended, _, _, rfl, ?_, own_retW (k := 2) (n := 4) hW (by decide) (by decide)⟩
        · refine st138 _ ?_
          show Steps p.tables e below (T138.setTop (mkF m 22 #[.val (.int x), .val (.ref tx), .val (.int (x &&& (3 : Int32)))] [(.ref b138)])) _
          exact retOut X138 hx Bd.returns rfl (Or.inr (Or.inr (Or.inr (Or.inr ⟨rfl, rfl, rfl⟩)))) (hb hby d11_22) hr
        · show own_Ref (fun w => w = .null ∨ ∃ a : Addr, w = .ref a) h0 n0 _ T138.heap _
          rw [e138]
          exact ⟨_, rfl, N0, EX138, Or.inr ⟨_, rfl⟩⟩
      · -- pc 17: no
        obtain ⟨fs, hr, hrun, hended, hW⟩ := X0.leaveW hSi0 (show _ ≤ s₁.heap.size by rw [e0]; exact hSk0) (v := some (.ref tx)) (fun h => by rw [Bd.returns] at h; cases h)
        refine ⟨_, _, ck136 _ ?_, hrun, hended, _, _, rfl, ?_, own_retW (k := 0) (n := 0) hW (by decide) (by decide)⟩
        · refine XS.icmpYes X0.here hx rfl (pc0 := 17) (pc' := 23) rfl (hb hby d11_17) rfl (feq hc17_135).2 (by decide) (by decide) ?_
          refine XS.aloadN X0.here hx rfl (hb hby d11_23) rfl rfl ?_
          exact retOut X0 hx Bd.returns rfl (Or.inr (Or.inr (Or.inr (Or.inr ⟨rfl, rfl, rfl⟩)))) (hb hby d11_24) hr
        · show own_Ref (fun w => w = .null ∨ ∃ a : Addr, w = .ref a) h0 n0 _ s₁.heap _
          rw [e0]
          exact ⟨_, rfl, N0, (own_ext_refl h0), Or.inr ⟨_, rfl⟩⟩
theorem d34_0 : decode jdk_29_method_69_code 0 = .ok (.iload_n 0, 1) := by decide +kernel
theorem d34_1 : decode jdk_29_method_69_code 1 = .ok (.iload_n 1, 1) := by decide +kernel
theorem d34_2 : decode jdk_29_method_69_code 2 = .ok (.if_icmp .gt 7, 3) := by decide +kernel
theorem d34_9 : decode jdk_29_method_69_code 9 = .ok (.iload_n 1, 1) := by decide +kernel
theorem d34_10 : decode jdk_29_method_69_code 10 = .ok (.ireturn, 1) := by decide +kernel
theorem d34_5 : decode jdk_29_method_69_code 5 = .ok (.iload_n 0, 1) := by decide +kernel
theorem d34_6 : decode jdk_29_method_69_code 6 = .ok (.goto 4, 3) := by decide +kernel
theorem ef_rm_minI (m : MethodId) (x0 : Int32) (x1 : Int32) : entryFrame m #[(.int x0), (.int x1)] 2 = mkF m 0 #[.val (.int x0), .val (.int x1)] [] := by first | (simp [entryFrame, mkF, argsToLocals, Value.category]; done) | rfl
set_option maxRecDepth 65536 in
set_option maxHeartbeats 40000000 in
theorem rm_minI (l : Launch) (Z : State) (a0 : Array Value) (hw : ∀ d ∈ tables_1, d.before a0 Z = true) (ws : List Jvm.Cond) (a : Int32) (b : Int32) (h0 : Heap) (n0 : Nat) (Z0 : n0 ≤ h0.size) (r : Int32) (hres : (if b < a then b else a) = r) :
    MetFree l (⟨"java/lang/Math", "min", "(II)I"⟩ : MethodName) (head1 (Jvm.Cond.code (⟨"java/lang/Math", "min", "(II)I"⟩ : MethodName) jdk_29_method_69_code 2 (some .int) :: ws) ({ frames := 0, cells := 0, slots := 0, locals := 0 } : Room)) (fun aQ UQ => aQ = #[(.int a), (.int b)] ∧ Z.Warmed39 UQ.vm ∧ UQ.heap = h0) (fun _ _ _ _ _ => True) (fun _ UQ oQ UR => ∃ vQ LQ, oQ = .returned vQ ∧ own_Pure (some (.int r)) h0 n0 vQ UR.heap LQ ∧ FrameEnd UQ oQ UR LQ ({ frames := 0, cells := 0, slots := 0, locals := 0 } : Room).cells ({ frames := 0, cells := 0, slots := 0, locals := 0 } : Room).slots) := by
  refine MetFree.of_bodySF (Jvm.Free.JP.mathPlain rfl (by decide +kernel)) hisR ?_
  intro p e s m args below meth c s₁ Bd hml0 hP hK
  obtain ⟨rfl, hZ, hh⟩ := hP
  have hx := Bd.exec
  have hby := Bd.bytes
  have hml : c.maxLocals = 2 := hml0
  have hown : s.vm.findClass "java/lang/Math" = some m.cls := findClass_of_methodNamed Bd.named
  have hnm := (name_of_methodNamed Bd.named Bd.method).1
  have X0 : Stand p l e ({ frames := 0, cells := 0, slots := 0, locals := 0 } : Room) s m #[(.int a), (.int b)] below meth c s₁ [] 0 0 := Stand.of_body Bd
  have e0 : s₁.heap = h0 := by rw [← hh, Bd.state]; rfl
  have N0 := Fr.nil n0
  have pre0 : ∀ t, Steps p.tables e below (s₁.setTop (mkF m 0 #[.val (.int a), .val (.int b)] [])) t → Steps p.tables e below (s₁.setTop (entryFrame m #[(.int a), (.int b)] 2)) t := fun t kq => castTop (ef_rm_minI m a b) kq
  by_cases hc2_139 : b < a
  · -- pc 2: yes
    obtain ⟨fs, hr, hrun, hended, hW, hsame⟩ := X0.leave (v := some (.int b)) (fun h => by rw [Bd.returns] at h; cases h)
    refine ⟨_, _, pre0 _ ?_, hrun, hended, _, _, rfl, ?_, ⟨_, rfl⟩, hW, hsame.mono (by decide) (by decide)⟩
    · refine XS.iloadN X0.here hx rfl (hb hby d34_0) rfl ?_
      refine XS.iloadN X0.here hx rfl (hb hby d34_1) rfl ?_
      refine XS.icmpYes X0.here hx rfl (pc0 := 2) (pc' := 9) rfl (hb hby d34_2) rfl (tlt hc2_139).2.2.1 (by decide) (by decide) ?_
      refine XS.iloadN X0.here hx rfl (hb hby d34_9) rfl ?_
      exact retOut X0 hx Bd.returns rfl (Or.inl ⟨rfl, Or.inl rfl, _, rfl⟩) (hb hby d34_10) hr
    · show own_Pure (some (.int r)) h0 n0 _ s₁.heap _
      rw [e0]
      exact ⟨by rw [← hres]; simp only [if_pos hc2_139], N0, rfl⟩
  · -- pc 2: no
    obtain ⟨fs, hr, hrun, hended, hW, hsame⟩ := X0.leave (v := some (.int a)) (fun h => by rw [Bd.returns] at h; cases h)
    refine ⟨_, _, pre0 _ ?_, hrun, hended, _, _, rfl, ?_, ⟨_, rfl⟩, hW, hsame.mono (by decide) (by decide)⟩
    · refine XS.iloadN X0.here hx rfl (hb hby d34_0) rfl ?_
      refine XS.iloadN X0.here hx rfl (hb hby d34_1) rfl ?_
      refine XS.icmpNo X0.here hx rfl (hb hby d34_2) rfl (flt hc2_139).2.2.1 ?_
      refine XS.iloadN X0.here hx rfl (hb hby d34_5) rfl ?_
      refine XS.goto X0.here hx rfl (pc0 := 6) (pc' := 10) rfl (hb hby d34_6) (by decide) (by decide) ?_
      exact retOut X0 hx Bd.returns rfl (Or.inl ⟨rfl, Or.inl rfl, _, rfl⟩) (hb hby d34_10) hr
    · show own_Pure (some (.int r)) h0 n0 _ s₁.heap _
      rw [e0]
      exact ⟨by rw [← hres]; simp only [if_neg hc2_139], N0, rfl⟩
theorem d33_0 : decode jdk_65_method_131_code 0 = .ok (.iload_n 1, 1) := by decide +kernel
theorem d33_1 : decode jdk_65_method_131_code 1 = .ok (.iload_n 0, 1) := by decide +kernel
theorem d33_2 : decode jdk_65_method_131_code 2 = .ok (.if_icmp .ge 35, 3) := by decide +kernel
theorem d33_37 : decode jdk_65_method_131_code 37 = .ok (.return_, 1) := by decide +kernel
theorem pn_274 : plainName "java/util/Arrays" = true := by first | (simp [plainName, overriddenIn]; done) | decide +kernel
theorem ef_rm_ckl (m : MethodId) (x0 : Int32) (x1 : Int32) : entryFrame m #[(.int x0), (.int x1)] 2 = mkF m 0 #[.val (.int x0), .val (.int x1)] [] := by first | (simp [entryFrame, mkF, argsToLocals, Value.category]; done) | rfl
set_option maxRecDepth 65536 in
set_option maxHeartbeats 40000000 in
theorem rm_ckl (l : Launch) (Z : State) (a0 : Array Value) (hw : ∀ d ∈ tables_1, d.before a0 Z = true) (ws : List Jvm.Cond) (i : Int32) (j : Int32) (h0 : Heap) (n0 : Nat) (Z0 : n0 ≤ h0.size) (hij : ¬ j < i) :
    MetFree l (⟨"java/util/Arrays", "checkLength", "(II)V"⟩ : MethodName) (head1 (Jvm.Cond.code (⟨"java/util/Arrays", "checkLength", "(II)V"⟩ : MethodName) jdk_65_method_131_code 2 none :: ws) ({ frames := 0, cells := 0, slots := 0, locals := 0 } : Room)) (fun aQ UQ => aQ = #[(.int i), (.int j)] ∧ Z.Warmed39 UQ.vm ∧ UQ.heap = h0) (fun _ _ _ _ _ => True) (fun _ UQ oQ UR => ∃ vQ LQ, oQ = .returned vQ ∧ own_Pure none h0 n0 vQ UR.heap LQ ∧ FrameEnd UQ oQ UR LQ ({ frames := 0, cells := 0, slots := 0, locals := 0 } : Room).cells ({ frames := 0, cells := 0, slots := 0, locals := 0 } : Room).slots) := by
  refine MetFree.of_bodySF (plainFor_of_name pn_274) hisR ?_
  intro p e s m args below meth c s₁ Bd hml0 hP hK
  obtain ⟨rfl, hZ, hh⟩ := hP
  have hx := Bd.exec
  have hby := Bd.bytes
  have hml : c.maxLocals = 2 := hml0
  have hown : s.vm.findClass "java/util/Arrays" = some m.cls := findClass_of_methodNamed Bd.named
  have hnm := (name_of_methodNamed Bd.named Bd.method).1
  have X0 : Stand p l e ({ frames := 0, cells := 0, slots := 0, locals := 0 } : Room) s m #[(.int i), (.int j)] below meth c s₁ [] 0 0 := Stand.of_body Bd
  have e0 : s₁.heap = h0 := by rw [← hh, Bd.state]; rfl
  have N0 := Fr.nil n0
  have pre0 : ∀ t, Steps p.tables e below (s₁.setTop (mkF m 0 #[.val (.int i), .val (.int j)] [])) t → Steps p.tables e below (s₁.setTop (entryFrame m #[(.int i), (.int j)] 2)) t := fun t kq => castTop (ef_rm_ckl m i j) kq
  obtain ⟨fs, hr, hrun, hended, hW, hsame⟩ := X0.leave (v := none) (fun _ => rfl)
  refine ⟨_, _, pre0 _ ?_, hrun, hended, _, _, rfl, ?_, ⟨_, rfl⟩, hW, hsame.mono (by decide) (by decide)⟩
  · refine XS.iloadN X0.here hx rfl (hb hby d33_0) rfl ?_
    refine XS.iloadN X0.here hx rfl (hb hby d33_1) rfl ?_
    refine XS.icmpYes X0.here hx rfl (pc0 := 2) (pc' := 37) rfl (hb hby d33_2) rfl (flt (hij : ¬ (j < i))).2.1 (by decide) (by decide) ?_
    exact X0.returnOut hx Bd.returns (hb hby d33_37) hr
  · show own_Pure none h0 n0 _ s₁.heap _
    rw [e0]
    exact ⟨rfl, N0, rfl⟩
theorem d32_0 : decode jdk_65_method_133_code 0 = .ok (.iload_n 1, 1) := by decide +kernel
theorem d32_1 : decode jdk_65_method_133_code 1 = .ok (.iload_n 2, 1) := by decide +kernel
theorem d32_2 : decode jdk_65_method_133_code 2 = .ok (.invokestatic 343, 3) := by decide +kernel
theorem d32_5 : decode jdk_65_method_133_code 5 = .ok (.iload_n 2, 1) := by decide +kernel
theorem d32_6 : decode jdk_65_method_133_code 6 = .ok (.iload_n 1, 1) := by decide +kernel
theorem d32_7 : decode jdk_65_method_133_code 7 = .ok (.isub, 1) := by decide +kernel
theorem d32_8 : decode jdk_65_method_133_code 8 = .ok (.istore_n 3, 1) := by decide +kernel
theorem d32_9 : decode jdk_65_method_133_code 9 = .ok (.iload_n 3, 1) := by decide +kernel
theorem d32_10 : decode jdk_65_method_133_code 10 = .ok (.newarray .byte, 2) := by decide +kernel
theorem d32_12 : decode jdk_65_method_133_code 12 = .ok (.astore 4, 2) := by decide +kernel
theorem d32_14 : decode jdk_65_method_133_code 14 = .ok (.aload_n 0, 1) := by decide +kernel
theorem d32_15 : decode jdk_65_method_133_code 15 = .ok (.iload_n 1, 1) := by decide +kernel
theorem d32_16 : decode jdk_65_method_133_code 16 = .ok (.aload 4, 2) := by decide +kernel
theorem d32_18 : decode jdk_65_method_133_code 18 = .ok (.iconst 0, 1) := by decide +kernel
theorem d32_19 : decode jdk_65_method_133_code 19 = .ok (.aload_n 0, 1) := by decide +kernel
theorem d32_20 : decode jdk_65_method_133_code 20 = .ok (.arraylength, 1) := by decide +kernel
theorem d32_21 : decode jdk_65_method_133_code 21 = .ok (.iload_n 1, 1) := by decide +kernel
theorem d32_22 : decode jdk_65_method_133_code 22 = .ok (.isub, 1) := by decide +kernel
theorem d32_23 : decode jdk_65_method_133_code 23 = .ok (.iload_n 3, 1) := by decide +kernel
theorem pd_294 : parseMethodDescriptor "(II)I" = some ⟨[.int, .int], some .int⟩ := by decide +kernel
theorem d32_24 : decode jdk_65_method_133_code 24 = .ok (.invokestatic 304, 3) := by decide +kernel
theorem d32_27 : decode jdk_65_method_133_code 27 = .ok (.invokestatic 150, 3) := by decide +kernel
theorem d32_30 : decode jdk_65_method_133_code 30 = .ok (.aload 4, 2) := by decide +kernel
theorem d32_32 : decode jdk_65_method_133_code 32 = .ok (.areturn, 1) := by decide +kernel
theorem ef_rm_crb (m : MethodId) (x0 : Addr) (x1 : Int32) (x2 : Int32) : entryFrame m #[(.ref x0), (.int x1), (.int x2)] 5 = mkF m 0 #[.val (.ref x0), .val (.int x1), .val (.int x2), .unset, .unset] [] := by first | (simp [entryFrame, mkF, argsToLocals, Value.category]; done) | rfl
set_option maxRecDepth 65536 in
set_option maxHeartbeats 40000000 in
theorem rm_crb (l : Launch) (Z : State) (a0 : Array Value) (hw : ∀ d ∈ tables_1, d.before a0 Z = true) (ws : List Jvm.Cond) (vb : Addr) (i : Int32) (j : Int32) (h0 : Heap) (n0 : Nat) (Z0 : n0 ≤ h0.size) (kb : ClassId) (z : Int32) (f : Nat → Int32) (B_v : own_FB Z h0 vb kb z f) (hz4 : z.toInt ≤ 4) (hij : 0 ≤ i.toInt ∧ i.toInt ≤ j.toInt ∧ j.toInt ≤ z.toInt) :
    MetFree l (⟨"java/util/Arrays", "copyOfRangeByte", "([BII)[B"⟩ : MethodName) (head1 (Jvm.Cond.code (⟨"java/util/Arrays", "copyOfRangeByte", "([BII)[B"⟩ : MethodName) jdk_65_method_133_code 5 (some (.array .byte)) :: ws) ({ frames := 1, cells := 1, slots := 4, locals := 18 } : Room)) (fun aQ UQ => aQ = #[(.ref vb), (.int i), (.int j)] ∧ Z.Warmed39 UQ.vm ∧ UQ.heap = h0) (fun _ _ _ _ _ => True) (fun _ UQ oQ UR => ∃ vQ LQ, oQ = .returned vQ ∧ own_Ref (fun w => ∃ a : Addr, w = .ref a) h0 n0 vQ UR.heap LQ ∧ FrameEnd UQ oQ UR LQ ({ frames := 1, cells := 1, slots := 4, locals := 18 } : Room).cells ({ frames := 1, cells := 1, slots := 4, locals := 18 } : Room).slots) := by
  refine MetFree.of_bodySF (plainFor_of_name pn_274) hisR ?_
  intro p e s m args below meth c s₁ Bd hml0 hP hK
  obtain ⟨rfl, hZ, hh⟩ := hP
  have hx := Bd.exec
  have hby := Bd.bytes
  have hml : c.maxLocals = 5 := hml0
  have hown : s.vm.findClass "java/util/Arrays" = some m.cls := findClass_of_methodNamed Bd.named
  have hnm := (name_of_methodNamed Bd.named Bd.method).1
  have X0 : Stand p l e ({ frames := 1, cells := 1, slots := 4, locals := 18 } : Room) s m #[(.ref vb), (.int i), (.int j)] below meth c s₁ [] 0 0 := Stand.of_body Bd
  have e0 : s₁.heap = h0 := by rw [← hh, Bd.state]; rfl
  have N0 := Fr.nil n0
  have pre0 : ∀ t, Steps p.tables e below (s₁.setTop (mkF m 0 #[.val (.ref vb), .val (.int i), .val (.int j), .unset, .unset] [])) t → Steps p.tables e below (s₁.setTop (entryFrame m #[(.ref vb), (.int i), (.int j)] 5)) t := fun t kq => castTop (ef_rm_crb m vb i j) kq
  obtain ⟨_, _, ⟨T140, L140, k140, n140⟩, -, X140, ⟨Lc140, hQ140, l140, y140, z140⟩, st140⟩ := Jvm.LawKit.callS X0 hx (y := (⟨"java/util/Arrays", "checkLength", "(II)V"⟩ : MethodName)) hown (mvT hZ (own_q hw 179 rfl)) (mvT hZ (own_q hw 180 rfl)) (mvT hZ (own_q hw 174 rfl)) (mvT hZ (own_q hw 181 rfl)) (by decide) (backOf (W := 0) (rm_ckl l Z a0 hw [] i j h0 n0 Z0 (by rw [Int32.lt_iff_toInt_lt]; omega)) hZ (own_q hw 181 rfl) (own_q hw 174 rfl) (by decide) (by decide)) (g := (mkF m 2 #[.val (.ref vb), .val (.int i), .val (.int j), .unset, .unset] [(.int j), (.int i)])) rfl (by rw [hml]; rfl) (argsL := [(.int i), (.int j)]) (rest := []) (lenOf pd_41 rfl) rfl (by show 2 * 0 + _ ≤ _; exact Nat.le_of_eq rfl) (hb hby d32_2) (fun _ _ => ⟨rfl, e0, (by decide : 0 + 0 ≤ _), (by decide : 0 + 0 ≤ _)⟩)
  dsimp only [Pt.U, Pt.locs, Pt.cells, Pt.slots] at X140 l140 y140 z140 st140 hQ140
  subst l140 y140 z140
  obtain ⟨rfl, N140q, e140⟩ := hQ140
  have N140 := Fr.app N0 N140q
  obtain ⟨nl, h_nl⟩ : ∃ zQ : Int32, (j - i) = zQ := ⟨_, rfl⟩
  have hnl : nl.toInt = j.toInt - i.toInt := by rw [← h_nl]; exact own_subI hij hz4
  have hnl0 : ¬ nl < 0 := own_nn (by omega)
  have hnlc : nl.toNatClampNeg ≤ 4 := own_cap hnl0 (by omega)
  obtain ⟨T141, h141, k141, X141, e141, E141, A141, Ea141, st141⟩ := newPE X140 hx hZ (own_q hw 16 rfl) e140 (g := (mkF m 10 #[.val (.ref vb), .val (.int i), .val (.int j), .val (.int nl), .unset] [(.int nl)])) rfl (hb hby d32_10) rfl hnl0 (cap := 4) hnlc (by decide) (by decide) (by decide) (ad := "[B") (by decide)
  obtain ⟨b141, g141⟩ : ∃ z, z = h0.size := ⟨_, rfl⟩
  rw [← g141] at A141 Ea141 st141
  have sz_b141 : h0.size ≤ b141 := Nat.le_trans (Keep.refl h0 []).1 (Nat.le_of_eq g141.symm)
  have gn_b141 : n0 ≤ b141 := Nat.le_trans Z0 sz_b141
  have ne_vb_b141 : vb ≠ b141 := Nat.ne_of_lt (Nat.lt_of_lt_of_le B_v.lt (Nat.le_of_eq g141.symm))
  have EX141 := own_ext_trans (own_ext_refl h0) E141
  have KP141 := Keep.ext (Keep.refl h0 []) E141
  have V141 : own_FB Z h141 b141 k141 nl (fun _ => (0 : Int32)) := own_FB.new A141 hnl0
  have Fx142 := (B_v.ext E141)
  have Vc143 := Fx142
  obtain ⟨cl143, Ar143, q143, S143, N143_, H143_, G143⟩ := Vc143
  obtain ⟨zi, h_zi⟩ : ∃ zQ : Int32, (z - i) = zQ := ⟨_, rfl⟩
  have hzi : zi.toInt = z.toInt - i.toInt := by rw [← h_zi]; exact own_subI (z := z) ⟨hij.1, by omega, by omega⟩ hz4
  obtain ⟨_, _, ⟨T144, L144, k144, n144⟩, -, X144, ⟨Lc144, hQ144, l144, y144, z144⟩, st144⟩ := Jvm.LawKit.callS X141 hx (y := (⟨"java/lang/Math", "min", "(II)I"⟩ : MethodName)) hown (mvT hZ (own_q hw 182 rfl)) (mvT hZ (own_q hw 183 rfl)) (mvT hZ (own_q hw 184 rfl)) (mvT hZ (own_q hw 185 rfl)) (by decide) (backOf (W := 4) (rm_minI l Z a0 hw [] zi nl h141 n0 (Nat.le_trans Z0 EX141.1) (if nl < zi then nl else zi) rfl) hZ (own_q hw 185 rfl) (own_q hw 184 rfl) (by decide) (by decide)) (g := (mkF m 24 #[.val (.ref vb), .val (.int i), .val (.int j), .val (.int nl), .val (.ref b141)] [(.int nl), (.int zi), (.int (0 : Int32)), (.ref b141), (.int i), (.ref vb)])) rfl (by rw [hml]; rfl) (argsL := [(.int zi), (.int nl)]) (rest := [(.int (0 : Int32)), (.ref b141), (.int i), (.ref vb)]) (lenOf pd_294 rfl) rfl (by show 2 * 0 + _ ≤ _; exact Nat.le_of_eq rfl) (hb hby d32_24) (fun _ _ => ⟨rfl, e141, (by decide : 1 + 0 ≤ _), (by decide : 4 + 0 ≤ _)⟩)
  dsimp only [Pt.U, Pt.locs, Pt.cells, Pt.slots] at X144 l144 y144 z144 st144 hQ144
  subst l144 y144 z144
  obtain ⟨rfl, N144q, e144⟩ := hQ144
  have N144 := Fr.app N140 N144q
  obtain ⟨mn, h_mn⟩ : ∃ zQ : Int32, (if nl < zi then nl else zi) = zQ := ⟨_, rfl⟩
  have hmn : mn.toInt = nl.toInt := by rw [← h_mn]; exact own_minI (by omega)
  obtain ⟨T145, h145, L145, X145, e145, N145, K145, st145⟩ := own_cp2 X144 hx hZ hown (own_q hw 186 rfl) (own_q hw 189 rfl) (own_q hw 187 rfl) (own_q hw 188 rfl) e144 Fx142 V141 ⟨hij.1, by omega, by omega, by omega⟩ N144 gn_b141 (g := (mkF m 27 #[.val (.ref vb), .val (.int i), .val (.int j), .val (.int nl), .val (.ref b141)] [(.int mn), (.int (0 : Int32)), (.ref b141), (.int i), (.ref vb)])) rfl (by rw [hml]; rfl) rfl (hb hby d32_27) (by decide) (W := 0) (by show 2 * 0 + _ ≤ _; exact Nat.le_of_eq rfl) (by decide)
  have EX145 := own_ext_keep EX141 K145 (allS sz_b141 all0)
  have KP145 := Keep.trans KP141 K145 (allS (Or.inr sz_b141) all0)
  obtain ⟨fs, hr, hrun, hended, hW, hsame⟩ := X145.leave (v := some (.ref b141)) (fun h => by rw [Bd.returns] at h; cases h)
  refine ⟨_, _, pre0 _ ?_, hrun, hended, _, _, rfl, ?_, ⟨_, rfl⟩, hW, hsame.mono (by decide) (by decide)⟩
  · refine XS.iloadN X0.here hx rfl (hb hby d32_0) rfl ?_
    refine XS.iloadN X0.here hx rfl (hb hby d32_1) rfl ?_
    refine st140 _ ?_
    show Steps p.tables e below (T140.setTop (mkF m 5 #[.val (.ref vb), .val (.int i), .val (.int j), .unset, .unset] [])) _
    refine XS.iloadN X140.here hx rfl (hb hby d32_5) rfl ?_
    refine XS.iloadN X140.here hx rfl (hb hby d32_6) rfl ?_
    refine XS.isub X140.here hx rfl (hb hby d32_7) rfl ?_
    show Steps p.tables e below (T140.setTop (mkF m 8 #[.val (.ref vb), .val (.int i), .val (.int j), .unset, .unset] [(.int (j - i))])) _
    rw [h_nl]
    show Steps p.tables e below (T140.setTop (mkF m 8 #[.val (.ref vb), .val (.int i), .val (.int j), .unset, .unset] [(.int nl)])) _
    refine XS.istoreN X140.here hx rfl (hb hby d32_8) rfl (l' := #[.val (.ref vb), .val (.int i), .val (.int j), .val (.int nl), .unset]) rfl ?_
    refine XS.iloadN X140.here hx rfl (hb hby d32_9) rfl ?_
    refine st141 _ ?_
    show Steps p.tables e below (T141.setTop (mkF m 12 #[.val (.ref vb), .val (.int i), .val (.int j), .val (.int nl), .unset] [(.ref b141)])) _
    refine XS.astore X141.here hx rfl (hb hby d32_12) rfl rfl (l' := #[.val (.ref vb), .val (.int i), .val (.int j), .val (.int nl), .val (.ref b141)]) rfl ?_
    refine XS.aloadN X141.here hx rfl (hb hby d32_14) rfl rfl ?_
    refine XS.iloadN X141.here hx rfl (hb hby d32_15) rfl ?_
    refine XS.aload X141.here hx rfl (hb hby d32_16) rfl rfl ?_
    refine XS.iconst X141.here hx rfl (hb hby d32_18) ?_
    refine XS.aloadN X141.here hx rfl (hb hby d32_19) rfl rfl ?_
    refine X141.arraylength hx (by rw [e141]; exact Ar143.1) (State.isArrayOf_alike hZ.alike Ar143.2.1) (g := (mkF m 20 #[.val (.ref vb), .val (.int i), .val (.int j), .val (.int nl), .val (.ref b141)] [(.ref vb), (.int (0 : Int32)), (.ref b141), (.int i), (.ref vb)])) rfl rfl (hb hby d32_20) _ ?_
    rw [len_of S143 N143_]
    show Steps p.tables e below (T141.setTop (mkF m 21 #[.val (.ref vb), .val (.int i), .val (.int j), .val (.int nl), .val (.ref b141)] [(.int z), (.int (0 : Int32)), (.ref b141), (.int i), (.ref vb)])) _
    refine XS.iloadN X141.here hx rfl (hb hby d32_21) rfl ?_
    refine XS.isub X141.here hx rfl (hb hby d32_22) rfl ?_
    show Steps p.tables e below (T141.setTop (mkF m 23 #[.val (.ref vb), .val (.int i), .val (.int j), .val (.int nl), .val (.ref b141)] [(.int (z - i)), (.int (0 : Int32)), (.ref b141), (.int i), (.ref vb)])) _
    rw [h_zi]
    show Steps p.tables e below (T141.setTop (mkF m 23 #[.val (.ref vb), .val (.int i), .val (.int j), .val (.int nl), .val (.ref b141)] [(.int zi), (.int (0 : Int32)), (.ref b141), (.int i), (.ref vb)])) _
    refine XS.iloadN X141.here hx rfl (hb hby d32_23) rfl ?_
    refine st144 _ ?_
    show Steps p.tables e below (T144.setTop (mkF m 27 #[.val (.ref vb), .val (.int i), .val (.int j), .val (.int nl), .val (.ref b141)] [(.int (if nl < zi then nl else zi)), (.int (0 : Int32)), (.ref b141), (.int i), (.ref vb)])) _
    rw [h_mn]
    show Steps p.tables e below (T144.setTop (mkF m 27 #[.val (.ref vb), .val (.int i), .val (.int j), .val (.int nl), .val (.ref b141)] [(.int mn), (.int (0 : Int32)), (.ref b141), (.int i), (.ref vb)])) _
    refine st145 _ ?_
    show Steps p.tables e below (T145.setTop (mkF m 30 #[.val (.ref vb), .val (.int i), .val (.int j), .val (.int nl), .val (.ref b141)] [])) _
    refine XS.aload X145.here hx rfl (hb hby d32_30) rfl rfl ?_
    exact retOut X145 hx Bd.returns rfl (Or.inr (Or.inr (Or.inr (Or.inr ⟨rfl, rfl, rfl⟩)))) (hb hby d32_32) hr
  · show own_Ref (fun w => ∃ a : Addr, w = .ref a) h0 n0 _ T145.heap _
    rw [e145]
    exact ⟨_, rfl, N145, EX145, _, rfl⟩
theorem d31_0 : decode jdk_65_method_132_code 0 = .ok (.iload_n 1, 1) := by decide +kernel
theorem d31_1 : decode jdk_65_method_132_code 1 = .ok (.ifCond .ne 9, 3) := by decide +kernel
theorem d31_4 : decode jdk_65_method_132_code 4 = .ok (.iload_n 2, 1) := by decide +kernel
theorem d31_5 : decode jdk_65_method_132_code 5 = .ok (.aload_n 0, 1) := by decide +kernel
theorem d31_6 : decode jdk_65_method_132_code 6 = .ok (.arraylength, 1) := by decide +kernel
theorem d31_7 : decode jdk_65_method_132_code 7 = .ok (.if_icmp .eq 10, 3) := by decide +kernel
theorem d31_10 : decode jdk_65_method_132_code 10 = .ok (.aload_n 0, 1) := by decide +kernel
theorem d31_11 : decode jdk_65_method_132_code 11 = .ok (.iload_n 1, 1) := by decide +kernel
theorem d31_12 : decode jdk_65_method_132_code 12 = .ok (.iload_n 2, 1) := by decide +kernel
theorem pd_308 : parseMethodDescriptor "([BII)[B" = some ⟨[(.array .byte), .int, .int], some (.array .byte)⟩ := by decide +kernel
theorem d31_13 : decode jdk_65_method_132_code 13 = .ok (.invokestatic 339, 3) := by decide +kernel
theorem d31_16 : decode jdk_65_method_132_code 16 = .ok (.areturn, 1) := by decide +kernel
theorem ef_rm_cr (m : MethodId) (x0 : Addr) (x1 : Int32) (x2 : Int32) : entryFrame m #[(.ref x0), (.int x1), (.int x2)] 3 = mkF m 0 #[.val (.ref x0), .val (.int x1), .val (.int x2)] [] := by first | (simp [entryFrame, mkF, argsToLocals, Value.category]; done) | rfl
set_option maxRecDepth 65536 in
set_option maxHeartbeats 40000000 in
theorem rm_cr (l : Launch) (Z : State) (a0 : Array Value) (hw : ∀ d ∈ tables_1, d.before a0 Z = true) (ws : List Jvm.Cond) (vb : Addr) (i : Int32) (j : Int32) (h0 : Heap) (n0 : Nat) (Z0 : n0 ≤ h0.size) (kb : ClassId) (z : Int32) (f : Nat → Int32) (B_v : own_FB Z h0 vb kb z f) (hz4 : z.toInt ≤ 4) (hij : 0 ≤ i.toInt ∧ i.toInt ≤ j.toInt ∧ j.toInt ≤ z.toInt) (hne : ¬ (i = (0 : Int32) ∧ j = z)) :
    MetFree l (⟨"java/util/Arrays", "copyOfRange", "([BII)[B"⟩ : MethodName) (head1 (Jvm.Cond.code (⟨"java/util/Arrays", "copyOfRange", "([BII)[B"⟩ : MethodName) jdk_65_method_132_code 3 (some (.array .byte)) :: ws) ({ frames := 2, cells := 1, slots := 4, locals := 34 } : Room)) (fun aQ UQ => aQ = #[(.ref vb), (.int i), (.int j)] ∧ Z.Warmed39 UQ.vm ∧ UQ.heap = h0) (fun _ _ _ _ _ => True) (fun _ UQ oQ UR => ∃ vQ LQ, oQ = .returned vQ ∧ own_Ref (fun w => ∃ a : Addr, w = .ref a) h0 n0 vQ UR.heap LQ ∧ FrameEnd UQ oQ UR LQ ({ frames := 2, cells := 1, slots := 4, locals := 34 } : Room).cells ({ frames := 2, cells := 1, slots := 4, locals := 34 } : Room).slots) := by
  refine MetFree.of_bodySF (plainFor_of_name pn_274) hisR ?_
  intro p e s m args below meth c s₁ Bd hml0 hP hK
  obtain ⟨rfl, hZ, hh⟩ := hP
  have hx := Bd.exec
  have hby := Bd.bytes
  have hml : c.maxLocals = 3 := hml0
  have hown : s.vm.findClass "java/util/Arrays" = some m.cls := findClass_of_methodNamed Bd.named
  have hnm := (name_of_methodNamed Bd.named Bd.method).1
  have X0 : Stand p l e ({ frames := 2, cells := 1, slots := 4, locals := 34 } : Room) s m #[(.ref vb), (.int i), (.int j)] below meth c s₁ [] 0 0 := Stand.of_body Bd
  have e0 : s₁.heap = h0 := by rw [← hh, Bd.state]; rfl
  have N0 := Fr.nil n0
  have pre0 : ∀ t, Steps p.tables e below (s₁.setTop (mkF m 0 #[.val (.ref vb), .val (.int i), .val (.int j)] [])) t → Steps p.tables e below (s₁.setTop (entryFrame m #[(.ref vb), (.int i), (.int j)] 3)) t := fun t kq => castTop (ef_rm_cr m vb i j) kq
  by_cases hc1_146 : i = (0 : Int32)
  · -- pc 1: yes
    have Vc147 := B_v
    obtain ⟨cl147, Ar147, q147, S147, N147_, H147_, G147⟩ := Vc147
    obtain ⟨_, _, ⟨T148, L148, k148, n148⟩, -, X148, ⟨Lc148, hQ148, l148, y148, z148⟩, st148⟩ := Jvm.LawKit.callS X0 hx (y := (⟨"java/util/Arrays", "copyOfRangeByte", "([BII)[B"⟩ : MethodName)) hown (mvT hZ (own_q hw 176 rfl)) (mvT hZ (own_q hw 177 rfl)) (mvT hZ (own_q hw 174 rfl)) (mvT hZ (own_q hw 178 rfl)) (by decide) (backOf (W := 0) (rm_crb l Z a0 hw [] vb i j h0 n0 Z0 kb z f B_v hz4 hij) hZ (own_q hw 178 rfl) (own_q hw 174 rfl) (by decide) (by decide)) (g := (mkF m 13 #[.val (.ref vb), .val (.int i), .val (.int j)] [(.int j), (.int i), (.ref vb)])) rfl (by rw [hml]; rfl) (argsL := [(.ref vb), (.int i), (.int j)]) (rest := []) (lenOf pd_308 rfl) rfl (by show 2 * 0 + _ ≤ _; exact Nat.le_of_eq rfl) (hb hby d31_13) (fun _ _ => ⟨rfl, e0, (by decide : 0 + 1 ≤ _), (by decide : 0 + 4 ≤ _)⟩)
    dsimp only [Pt.U, Pt.locs, Pt.cells, Pt.slots] at X148 l148 y148 z148 st148 hQ148
    subst l148 y148 z148
    obtain ⟨w148, rfl, N148q, E148, a148, rfl⟩ := hQ148
    have N148 := Fr.app N0 N148q
    have e148 : T148.heap = T148.heap := rfl
    have EX148 := own_ext_trans (own_ext_refl h0) E148
    have KP148 := Keep.ext (Keep.refl h0 []) E148
    obtain ⟨fs, hr, hrun, hended, hW, hsame⟩ := X148.leave (v := some (.ref a148)) (fun h => by rw [Bd.returns] at h; cases h)
    refine ⟨_, _, pre0 _ ?_, hrun, hended, _, _, rfl, ?_, ⟨_, rfl⟩, hW, hsame.mono (by decide) (by decide)⟩
    · refine XS.iloadN X0.here hx rfl (hb hby d31_0) rfl ?_
      refine XS.ifNo X0.here hx rfl (hb hby d31_1) rfl ((if0 _ _).trans (teq hc1_146).2) ?_
      refine XS.iloadN X0.here hx rfl (hb hby d31_4) rfl ?_
      refine XS.aloadN X0.here hx rfl (hb hby d31_5) rfl rfl ?_
      refine X0.arraylength hx (by rw [e0]; exact Ar147.1) (State.isArrayOf_alike hZ.alike Ar147.2.1) (g := (mkF m 6 #[.val (.ref vb), .val (.int i), .val (.int j)] [(.ref vb), (.int j)])) rfl rfl (hb hby d31_6) _ ?_
      rw [len_of S147 N147_]
      show Steps p.tables e below (s₁.setTop (mkF m 7 #[.val (.ref vb), .val (.int i), .val (.int j)] [(.int z), (.int j)])) _
      refine XS.icmpNo X0.here hx rfl (hb hby d31_7) rfl (feq ((fun q => hne ⟨hc1_146, q⟩) : ¬ (j = z))).1 ?_
      refine XS.aloadN X0.here hx rfl (hb hby d31_10) rfl rfl ?_
      refine XS.iloadN X0.here hx rfl (hb hby d31_11) rfl ?_
      refine XS.iloadN X0.here hx rfl (hb hby d31_12) rfl ?_
      refine st148 _ ?_
      show Steps p.tables e below (T148.setTop (mkF m 16 #[.val (.ref vb), .val (.int i), .val (.int j)] [(.ref a148)])) _
      exact retOut X148 hx Bd.returns rfl (Or.inr (Or.inr (Or.inr (Or.inr ⟨rfl, rfl, rfl⟩)))) (hb hby d31_16) hr
    · show own_Ref (fun w => ∃ a : Addr, w = .ref a) h0 n0 _ T148.heap _
      exact ⟨_, rfl, N148, EX148, _, rfl⟩
  · -- pc 1: no
    obtain ⟨_, _, ⟨T149, L149, k149, n149⟩, -, X149, ⟨Lc149, hQ149, l149, y149, z149⟩, st149⟩ := Jvm.LawKit.callS X0 hx (y := (⟨"java/util/Arrays", "copyOfRangeByte", "([BII)[B"⟩ : MethodName)) hown (mvT hZ (own_q hw 176 rfl)) (mvT hZ (own_q hw 177 rfl)) (mvT hZ (own_q hw 174 rfl)) (mvT hZ (own_q hw 178 rfl)) (by decide) (backOf (W := 0) (rm_crb l Z a0 hw [] vb i j h0 n0 Z0 kb z f B_v hz4 hij) hZ (own_q hw 178 rfl) (own_q hw 174 rfl) (by decide) (by decide)) (g := (mkF m 13 #[.val (.ref vb), .val (.int i), .val (.int j)] [(.int j), (.int i), (.ref vb)])) rfl (by rw [hml]; rfl) (argsL := [(.ref vb), (.int i), (.int j)]) (rest := []) (lenOf pd_308 rfl) rfl (by show 2 * 0 + _ ≤ _; exact Nat.le_of_eq rfl) (hb hby d31_13) (fun _ _ => ⟨rfl, e0, (by decide : 0 + 1 ≤ _), (by decide : 0 + 4 ≤ _)⟩)
    dsimp only [Pt.U, Pt.locs, Pt.cells, Pt.slots] at X149 l149 y149 z149 st149 hQ149
    subst l149 y149 z149
    obtain ⟨w149, rfl, N149q, E149, a149, rfl⟩ := hQ149
    have N149 := Fr.app N0 N149q
    have e149 : T149.heap = T149.heap := rfl
    have EX149 := own_ext_trans (own_ext_refl h0) E149
    have KP149 := Keep.ext (Keep.refl h0 []) E149
    obtain ⟨fs, hr, hrun, hended, hW, hsame⟩ := X149.leave (v := some (.ref a149)) (fun h => by rw [Bd.returns] at h; cases h)
    refine ⟨_, _, pre0 _ ?_, hrun, hended, _, _, rfl, ?_, ⟨_, rfl⟩, hW, hsame.mono (by decide) (by decide)⟩
    · refine XS.iloadN X0.here hx rfl (hb hby d31_0) rfl ?_
      refine XS.ifYes X0.here hx rfl (pc0 := 1) (pc' := 10) rfl (hb hby d31_1) rfl ((if0 _ _).trans (feq hc1_146).2) (by decide) (by decide) ?_
      refine XS.aloadN X0.here hx rfl (hb hby d31_10) rfl rfl ?_
      refine XS.iloadN X0.here hx rfl (hb hby d31_11) rfl ?_
      refine XS.iloadN X0.here hx rfl (hb hby d31_12) rfl ?_
      refine st149 _ ?_
      show Steps p.tables e below (T149.setTop (mkF m 16 #[.val (.ref vb), .val (.int i), .val (.int j)] [(.ref a149)])) _
      exact retOut X149 hx Bd.returns rfl (Or.inr (Or.inr (Or.inr (Or.inr ⟨rfl, rfl, rfl⟩)))) (hb hby d31_16) hr
    · show own_Ref (fun w => ∃ a : Addr, w = .ref a) h0 n0 _ T149.heap _
      exact ⟨_, rfl, N149, EX149, _, rfl⟩
theorem d35_0 : decode jdk_42_method_151_code 0 = .ok (.aload_n 0, 1) := by decide +kernel
theorem d35_1 : decode jdk_42_method_151_code 1 = .ok (.invokespecial 1, 3) := by decide +kernel
theorem d35_4 : decode jdk_42_method_151_code 4 = .ok (.aload_n 0, 1) := by decide +kernel
theorem d35_5 : decode jdk_42_method_151_code 5 = .ok (.aload_n 1, 1) := by decide +kernel
theorem d35_6 : decode jdk_42_method_151_code 6 = .ok (.putfield 9, 3) := by decide +kernel
theorem d35_9 : decode jdk_42_method_151_code 9 = .ok (.aload_n 0, 1) := by decide +kernel
theorem d35_10 : decode jdk_42_method_151_code 10 = .ok (.iload_n 2, 1) := by decide +kernel
theorem d35_11 : decode jdk_42_method_151_code 11 = .ok (.putfield 15, 3) := by decide +kernel
theorem d35_14 : decode jdk_42_method_151_code 14 = .ok (.return_, 1) := by decide +kernel
theorem ef_rm_sbb (m : MethodId) (x0 : Addr) (x1 : Addr) : entryFrame m #[(.ref x0), (.ref x1), (.int (0 : Int32))] 3 = mkF m 0 #[.val (.ref x0), .val (.ref x1), .val (.int (0 : Int32))] [] := by first | (simp [entryFrame, mkF, argsToLocals, Value.category]; done) | rfl
set_option maxRecDepth 65536 in
set_option maxHeartbeats 40000000 in
theorem rm_sbb (l : Launch) (Z : State) (a0 : Array Value) (hw : ∀ d ∈ tables_1, d.before a0 Z = true) (ws : List Jvm.Cond) (a1 : Addr) (bb : Addr) (h0 : Heap) (n0 : Nat) (Z0 : n0 ≤ h0.size) (E_a : Exa Z h0 a1 "java/lang/String") (F_v : Fld Z h0 a1 "java/lang/String" "value" "[B" .null) (F_c : Fld Z h0 a1 "java/lang/String" "coder" "B" (.int (0 : Int32))) (gn_a : n0 ≤ a1) :
    MetFree l (⟨"java/lang/String", "<init>", "([BB)V"⟩ : MethodName) (head1 (Jvm.Cond.code (⟨"java/lang/String", "<init>", "([BB)V"⟩ : MethodName) jdk_42_method_151_code 3 none :: ws) ({ frames := 1, cells := 0, slots := 0, locals := 12 } : Room)) (fun aQ UQ => aQ = #[(.ref a1), (.ref bb), (.int (0 : Int32))] ∧ Z.Warmed39 UQ.vm ∧ UQ.heap = h0) (fun _ _ _ _ _ => True) (fun _ UQ oQ UR => ∃ vQ LQ, oQ = .returned vQ ∧ own_Ini a1 h0 n0 vQ UR.heap LQ ∧ FrameEnd UQ oQ UR LQ ({ frames := 1, cells := 0, slots := 0, locals := 12 } : Room).cells ({ frames := 1, cells := 0, slots := 0, locals := 12 } : Room).slots) := by
  refine MetFree.of_bodySF (plainFor_of_name pn_6) hisR ?_
  intro p e s m args below meth c s₁ Bd hml0 hP hK
  obtain ⟨rfl, hZ, hh⟩ := hP
  have hx := Bd.exec
  have hby := Bd.bytes
  have hml : c.maxLocals = 3 := hml0
  have hown : s.vm.findClass "java/lang/String" = some m.cls := findClass_of_methodNamed Bd.named
  have hnm := (name_of_methodNamed Bd.named Bd.method).1
  have X0 : Stand p l e ({ frames := 1, cells := 0, slots := 0, locals := 12 } : Room) s m #[(.ref a1), (.ref bb), (.int (0 : Int32))] below meth c s₁ [] 0 0 := Stand.of_body Bd
  have e0 : s₁.heap = h0 := by rw [← hh, Bd.state]; rfl
  have N0 := Fr.nil n0
  have pre0 : ∀ t, Steps p.tables e below (s₁.setTop (mkF m 0 #[.val (.ref a1), .val (.ref bb), .val (.int (0 : Int32))] [])) t → Steps p.tables e below (s₁.setTop (entryFrame m #[(.ref a1), (.ref bb), (.int (0 : Int32))] 3)) t := fun t kq => castTop (ef_rm_sbb m a1 bb) kq
  obtain ⟨T150, X150, e150, st150⟩ := initO X0 hx hZ hown (own_q hw 12 rfl) (own_q hw 13 rfl) (own_q hw 14 rfl) e0 (g := (mkF m 1 #[.val (.ref a1), .val (.ref bb), .val (.int (0 : Int32))] [(.ref a1)])) rfl (by rw [hml]; rfl) rfl (hb hby d35_1) (by decide) (W := 0) (by show 2 * 0 + _ ≤ _; exact Nat.le_of_eq rfl) (by decide)
  obtain ⟨T151, h151, X151, e151, W151, st151⟩ := putF X150 hx hZ hown (host := "") (Or.inl (own_q hw 21 rfl)) Via.refl e150 F_v E_a (Or.inr ⟨(own_q hw 17 rfl), rfl, hnm⟩) (own_q hw 3 rfl) (ty := (.array .byte)) (by decide) rfl rfl (g := (mkF m 6 #[.val (.ref a1), .val (.ref bb), .val (.int (0 : Int32))] [(.ref bb), (.ref a1)])) rfl rfl (hb hby d35_6)
  have KP151 := Keep.wr (Keep.refl h0 [a1]) W151 (Or.inl (List.mem_of_getElem? (i := 0) rfl))
  have Fw151 := F_v.same W151
  have N151 := Fr.snoc X151 N0 gn_a
  have Fx152 := (E_a.wr W151)
  have Fx153 := (F_c.other W151 (Or.inr (slot_ne (Or.inr (own_q hw 18 rfl)) (Or.inr (own_q hw 17 rfl)) (by decide) (t := .byte) (t' := (.array .byte)) (by decide) (by decide))))
  obtain ⟨T154, h154, X154, e154, W154, st154⟩ := putFN X151 hx hZ hown (own_q hw 22 rfl) Via.refl e151 Fx153 Fx152 (Or.inr ⟨(own_q hw 18 rfl), rfl, hnm⟩) (own_q hw 3 rfl) (ty := .byte) (v' := (.int (0 : Int32))) (by decide) rfl rfl (g := (mkF m 11 #[.val (.ref a1), .val (.ref bb), .val (.int (0 : Int32))] [(.int (0 : Int32)), (.ref a1)])) rfl rfl (hb hby d35_11)
  have KP154 := Keep.wr KP151 W154 (Or.inl (List.mem_of_getElem? (i := 0) rfl))
  have Fw154 := Fx153.same W154
  have N154 := Fr.snoc X154 N151 gn_a
  obtain ⟨fs, hr, hrun, hended, hW, hsame⟩ := X154.leave (v := none) (fun _ => rfl)
  refine ⟨_, _, pre0 _ ?_, hrun, hended, _, _, rfl, ?_, ⟨_, rfl⟩, hW, hsame.mono (by decide) (by decide)⟩
  · refine XS.aloadN X0.here hx rfl (hb hby d35_0) rfl rfl ?_
    refine st150 _ ?_
    show Steps p.tables e below (T150.setTop (mkF m 4 #[.val (.ref a1), .val (.ref bb), .val (.int (0 : Int32))] [])) _
    refine XS.aloadN X150.here hx rfl (hb hby d35_4) rfl rfl ?_
    refine XS.aloadN X150.here hx rfl (hb hby d35_5) rfl rfl ?_
    refine st151 _ ?_
    show Steps p.tables e below (T151.setTop (mkF m 9 #[.val (.ref a1), .val (.ref bb), .val (.int (0 : Int32))] [])) _
    refine XS.aloadN X151.here hx rfl (hb hby d35_9) rfl rfl ?_
    refine XS.iloadN X151.here hx rfl (hb hby d35_10) rfl ?_
    refine st154 _ ?_
    show Steps p.tables e below (T154.setTop (mkF m 14 #[.val (.ref a1), .val (.ref bb), .val (.int (0 : Int32))] [])) _
    exact X154.returnOut hx Bd.returns (hb hby d35_14) hr
  · show own_Ini a1 h0 n0 _ T154.heap _
    rw [e154]
    exact ⟨rfl, N154, KP154⟩
theorem d30_0 : decode jdk_43_method_47_code 0 = .ok (.iload_n 2, 1) := by decide +kernel
theorem d30_1 : decode jdk_43_method_47_code 1 = .ok (.ifCond .ne 6, 3) := by decide +kernel
theorem d30_4 : decode jdk_43_method_47_code 4 = .ok (.ldc 151, 2) := by decide +kernel
theorem d30_6 : decode jdk_43_method_47_code 6 = .ok (.areturn, 1) := by decide +kernel
theorem d30_7 : decode jdk_43_method_47_code 7 = .ok (.new 1, 3) := by decide +kernel
theorem d30_10 : decode jdk_43_method_47_code 10 = .ok (.dup, 1) := by decide +kernel
theorem d30_11 : decode jdk_43_method_47_code 11 = .ok (.aload_n 0, 1) := by decide +kernel
theorem d30_12 : decode jdk_43_method_47_code 12 = .ok (.iload_n 1, 1) := by decide +kernel
theorem d30_13 : decode jdk_43_method_47_code 13 = .ok (.iload_n 1, 1) := by decide +kernel
theorem d30_14 : decode jdk_43_method_47_code 14 = .ok (.iload_n 2, 1) := by decide +kernel
theorem d30_15 : decode jdk_43_method_47_code 15 = .ok (.iadd, 1) := by decide +kernel
theorem d30_16 : decode jdk_43_method_47_code 16 = .ok (.invokestatic 232, 3) := by decide +kernel
theorem d30_19 : decode jdk_43_method_47_code 19 = .ok (.iconst 0, 1) := by decide +kernel
theorem pd_333 : parseMethodDescriptor "([BB)V" = some ⟨[(.array .byte), .byte], none⟩ := by decide +kernel
theorem d30_20 : decode jdk_43_method_47_code 20 = .ok (.invokespecial 112, 3) := by decide +kernel
theorem d30_23 : decode jdk_43_method_47_code 23 = .ok (.areturn, 1) := by decide +kernel
theorem ef_rm_ns (m : MethodId) (x0 : Addr) (x1 : Int32) (x2 : Int32) : entryFrame m #[(.ref x0), (.int x1), (.int x2)] 3 = mkF m 0 #[.val (.ref x0), .val (.int x1), .val (.int x2)] [] := by first | (simp [entryFrame, mkF, argsToLocals, Value.category]; done) | rfl
set_option maxRecDepth 65536 in
set_option maxHeartbeats 40000000 in
theorem rm_ns (l : Launch) (Z : State) (a0 : Array Value) (hw : ∀ d ∈ tables_1, d.before a0 Z = true) (ws : List Jvm.Cond) (vb : Addr) (i : Int32) (n : Int32) (h0 : Heap) (n0 : Nat) (Z0 : n0 ≤ h0.size) (kb : ClassId) (z : Int32) (f : Nat → Int32) (B_v : own_FB Z h0 vb kb z f) (hz4 : z.toInt ≤ 4) (hij : 0 ≤ i.toInt ∧ 0 ≤ n.toInt ∧ i.toInt + n.toInt ≤ z.toInt) (hne : ¬ (i.toInt = 0 ∧ i.toInt + n.toInt = z.toInt)) :
    MetFree l (⟨"java/lang/StringLatin1", "newString", "([BII)Ljava/lang/String;"⟩ : MethodName) (head1 (Jvm.Cond.code (⟨"java/lang/StringLatin1", "newString", "([BII)Ljava/lang/String;"⟩ : MethodName) jdk_43_method_47_code 3 (some (.object "java/lang/String")) :: ws) ({ frames := 3, cells := 2, slots := 8, locals := 50 } : Room)) (fun aQ UQ => aQ = #[(.ref vb), (.int i), (.int n)] ∧ Z.Warmed39 UQ.vm ∧ UQ.heap = h0) (fun _ _ _ _ _ => True) (fun _ UQ oQ UR => ∃ vQ LQ, oQ = .returned vQ ∧ own_Ref (fun w => ∃ a : Addr, w = .ref a) h0 n0 vQ UR.heap LQ ∧ ReturnedEndW UQ oQ UR LQ ({ frames := 3, cells := 2, slots := 8, locals := 50 } : Room).cells ({ frames := 3, cells := 2, slots := 8, locals := 50 } : Room).slots) := by
  refine MetFree.of_bodySF (plainFor_of_name pn_50) hisR ?_
  intro p e s m args below meth c s₁ Bd hml0 hP hK
  obtain ⟨rfl, hZ, hh⟩ := hP
  have hx := Bd.exec
  have hby := Bd.bytes
  have hml : c.maxLocals = 3 := hml0
  have hown : s.vm.findClass "java/lang/StringLatin1" = some m.cls := findClass_of_methodNamed Bd.named
  have hnm := (name_of_methodNamed Bd.named Bd.method).1
  have X0 : Stand p l e ({ frames := 3, cells := 2, slots := 8, locals := 50 } : Room) (s.setVm s.vm) m #[(.ref vb), (.int i), (.int n)] below meth c s₁ [] 0 0 := Stand.of_body Bd
  have e0 : s₁.heap = h0 := by rw [← hh, Bd.state]; rfl
  have N0 := Fr.nil n0
  have pre0 : ∀ t, Steps p.tables e below (s₁.setTop (mkF m 0 #[.val (.ref vb), .val (.int i), .val (.int n)] [])) t → Steps p.tables e below (s₁.setTop (entryFrame m #[(.ref vb), (.int i), (.int n)] 3)) t := fun t kq => castTop (ef_rm_ns m vb i n) kq
  have hSi0 : s.Since s.vm h0.size := (State.WarmedH.refl s).since _
  have hSk0 : h0.size ≤ h0.size := Nat.le_refl _
  by_cases hc1_155 : n = (0 : Int32)
  · -- pc 1: yes
    have ck156 : ∀ t, Steps p.tables e below (s₁.setTop (mkF m 4 #[.val (.ref vb), .val (.int i), .val (.int n)] [])) t → Steps p.tables e below (s₁.setTop (entryFrame m #[(.ref vb), (.int i), (.int n)] 3)) t := by
      intro t kt
      refine pre0 _ ?_
      refine XS.iloadN X0.here hx rfl (hb hby d30_0) rfl ?_
      refine XS.ifNo X0.here hx rfl (hb hby d30_1) rfl ((if0 _ _).trans (teq hc1_155).2) ?_
      exact kt
    obtain ⟨b157, T157, h157, kk157, X157, e157, E157, hSi157, hSj157, hZ, hown, st157⟩ := ldcS X0 hx hZ hown (own_q hw 193 rfl) (own_atoms hw) e0 hSi0 hSk0 (g := (mkF m 4 #[.val (.ref vb), .val (.int i), .val (.int n)] [])) rfl (hb hby d30_4) (n := 0) (by decide) (by decide) (by decide) (by decide)
    have hSk157 := Nat.le_trans hSk0 E157.1
    have EX157 := own_ext_trans (own_ext_refl h0) E157
    have KP157 := Keep.ext (Keep.refl h0 []) E157
    obtain ⟨fs, hr, hrun, hended, hW⟩ := X157.leaveW hSi157 (show _ ≤ T157.heap.size by rw [e157]; exact hSj157) (v := some (.ref b157)) (fun h => by rw [Bd.returns] at h; cases h)
    refine ⟨_, _, ck156 _ ?_, hrun, hended, _, _, rfl, ?_, own_retW (k := 2) (n := 4) hW (by decide) (by decide)⟩
    · refine st157 _ ?_
      show Steps p.tables e below (T157.setTop (mkF m 6 #[.val (.ref vb), .val (.int i), .val (.int n)] [(.ref b157)])) _
      exact retOut X157 hx Bd.returns rfl (Or.inr (Or.inr (Or.inr (Or.inr ⟨rfl, rfl, rfl⟩)))) (hb hby d30_6) hr
    · show own_Ref (fun w => ∃ a : Addr, w = .ref a) h0 n0 _ T157.heap _
      rw [e157]
      exact ⟨_, rfl, N0, EX157, _, rfl⟩
  · -- pc 1: no
    obtain ⟨T158, h158, X158, e158, E158, A158, D158, -, st158⟩ := newO X0 hx hZ hown (own_q hw 171 rfl) (own_q hw 3 rfl) (own_q hw 4 rfl) e0 (g := (mkF m 7 #[.val (.ref vb), .val (.int i), .val (.int n)] [])) rfl (hb hby d30_7) (by decide) (by decide)
    obtain ⟨b158, g158⟩ : ∃ z, z = h0.size := ⟨_, rfl⟩
    rw [← g158] at A158 D158 st158
    have sz_b158 : h0.size ≤ b158 := Nat.le_trans (Keep.refl h0 []).1 (Nat.le_of_eq g158.symm)
    have gn_b158 : n0 ≤ b158 := Nat.le_trans Z0 sz_b158
    have ne_vb_b158 : vb ≠ b158 := Nat.ne_of_lt (Nat.lt_of_lt_of_le B_v.lt (Nat.le_of_eq g158.symm))
    have hSk158 := Nat.le_trans hSk0 E158.1
    have EX158 := own_ext_trans (own_ext_refl h0) E158
    have KP158 := Keep.ext (Keep.refl h0 []) E158
    have F158_value : Fld Z h158 b158 "java/lang/String" "value" "[B" .null := D158 (Or.inr (own_q hw 17 rfl)) (ty := (.array .byte)) (by decide)
    have F158_coder : Fld Z h158 b158 "java/lang/String" "coder" "B" (.int (0 : Int32)) := D158 (Or.inr (own_q hw 18 rfl)) (ty := .byte) (by decide)
    obtain ⟨ij, h_ij⟩ : ∃ zQ : Int32, (i + n) = zQ := ⟨_, rfl⟩
    have hijv : ij.toInt = i.toInt + n.toInt := by rw [← h_ij]; exact own_addI (by omega)
    have hne2 : ¬ (i = (0 : Int32) ∧ ij = z) := fun q => hne ⟨by rw [q.1]; decide, by rw [← hijv, q.2]⟩
    have Fx159 := (B_v.ext E158)
    obtain ⟨_, _, ⟨T160, L160, k160, n160⟩, -, X160, ⟨Lc160, hQ160, l160, y160, z160⟩, st160⟩ := Jvm.LawKit.callS X158 hx (y := (⟨"java/util/Arrays", "copyOfRange", "([BII)[B"⟩ : MethodName)) hown (mvT hZ (own_q hw 172 rfl)) (mvT hZ (own_q hw 173 rfl)) (mvT hZ (own_q hw 174 rfl)) (mvT hZ (own_q hw 175 rfl)) (by decide) (backOf (W := 2) (rm_cr l Z a0 hw [] vb i ij h158 n0 (Nat.le_trans Z0 EX158.1) kb z f Fx159 hz4 ⟨hij.1, by omega, by omega⟩ hne2) hZ (own_q hw 175 rfl) (own_q hw 174 rfl) (by decide) (by decide)) (g := (mkF m 16 #[.val (.ref vb), .val (.int i), .val (.int n)] [(.int ij), (.int i), (.ref vb), (.ref b158), (.ref b158)])) rfl (by rw [hml]; rfl) (argsL := [(.ref vb), (.int i), (.int ij)]) (rest := [(.ref b158), (.ref b158)]) (lenOf pd_308 rfl) rfl (by show 2 * 0 + _ ≤ _; exact Nat.le_of_eq rfl) (hb hby d30_16) (fun _ _ => ⟨rfl, e158, (by decide : 1 + 1 ≤ _), (by decide : 4 + 4 ≤ _)⟩)
    dsimp only [Pt.U, Pt.locs, Pt.cells, Pt.slots] at X160 l160 y160 z160 st160 hQ160
    subst l160 y160 z160
    obtain ⟨w160, rfl, N160q, E160, a160, rfl⟩ := hQ160
    have N160 := Fr.app N0 N160q
    have e160 : T160.heap = T160.heap := rfl
    have hSk160 := Nat.le_trans hSk158 E160.1
    have EX160 := own_ext_trans EX158 E160
    have KP160 := Keep.ext KP158 E160
    have Fx161 := (A158.ext E160)
    have Fx162 := (F158_value.ext E160)
    have Fx163 := (F158_coder.ext E160)
    obtain ⟨_, _, ⟨T164, L164, k164, n164⟩, -, X164, ⟨Lc164, hQ164, l164, y164, z164⟩, st164⟩ := X160.specialBack hx (y := (⟨"java/lang/String", "<init>", "([BB)V"⟩ : MethodName)) rfl hown (mvT hZ (own_q hw 190 rfl)) (mvT hZ (own_q hw 191 rfl)) (mvT hZ (own_q hw 192 rfl)) (by decide) (backOf (W := 1) (rm_sbb l Z a0 hw [] b158 a160 T160.heap n0 (Nat.le_trans Z0 EX160.1) Fx161 Fx162 Fx163 gn_b158) hZ (own_q hw 192 rfl) (own_q hw 4 rfl) (by decide) (by decide)) (g := (mkF m 20 #[.val (.ref vb), .val (.int i), .val (.int n)] [(.int (0 : Int32)), (.ref a160), (.ref b158), (.ref b158)])) rfl (by rw [hml]; rfl) (Steps.refl _) (a := b158) (argsL := [(.ref a160), (.int (0 : Int32))]) (rest := [(.ref b158)]) (lenOf pd_333 rfl) rfl (by show 2 * 0 + _ ≤ _; exact Nat.le_of_eq rfl) (hb hby d30_20) (fun _ _ => ⟨rfl, e160, (by decide : 2 + 0 ≤ _), (by decide : 8 + 0 ≤ _)⟩)
    dsimp only [Pt.U, Pt.locs, Pt.cells, Pt.slots] at X164 l164 y164 z164 st164 hQ164
    subst l164 y164 z164
    obtain ⟨rfl, N164q, K164⟩ := hQ164
    have N164 := Fr.app N160 N164q
    have e164 : T164.heap = T164.heap := rfl
    have hSk164 := Nat.le_trans hSk160 K164.1
    have EX164 := own_ext_keep EX160 K164 (allS sz_b158 all0)
    have KP164 := Keep.trans KP160 K164 (allS (Or.inr sz_b158) all0)
    obtain ⟨fs, hr, hrun, hended, hW⟩ := X164.leaveW hSi0 (show _ ≤ T164.heap.size by rw [e164]; exact hSk164) (v := some (.ref b158)) (fun h => by rw [Bd.returns] at h; cases h)
    refine ⟨_, _, pre0 _ ?_, hrun, hended, _, _, rfl, ?_, own_retW (k := 2) (n := 8) hW (by decide) (by decide)⟩
    · refine XS.iloadN X0.here hx rfl (hb hby d30_0) rfl ?_
      refine XS.ifYes X0.here hx rfl (pc0 := 1) (pc' := 7) rfl (hb hby d30_1) rfl ((if0 _ _).trans (feq hc1_155).2) (by decide) (by decide) ?_
      refine st158 _ ?_
      show Steps p.tables e below (T158.setTop (mkF m 10 #[.val (.ref vb), .val (.int i), .val (.int n)] [(.ref b158)])) _
      refine XS.dup X158.here hx rfl (hb hby d30_10) rfl rfl ?_
      refine XS.aloadN X158.here hx rfl (hb hby d30_11) rfl rfl ?_
      refine XS.iloadN X158.here hx rfl (hb hby d30_12) rfl ?_
      refine XS.iloadN X158.here hx rfl (hb hby d30_13) rfl ?_
      refine XS.iloadN X158.here hx rfl (hb hby d30_14) rfl ?_
      refine XS.iadd X158.here hx rfl (hb hby d30_15) rfl ?_
      show Steps p.tables e below (T158.setTop (mkF m 16 #[.val (.ref vb), .val (.int i), .val (.int n)] [(.int (i + n)), (.int i), (.ref vb), (.ref b158), (.ref b158)])) _
      rw [h_ij]
      show Steps p.tables e below (T158.setTop (mkF m 16 #[.val (.ref vb), .val (.int i), .val (.int n)] [(.int ij), (.int i), (.ref vb), (.ref b158), (.ref b158)])) _
      refine st160 _ ?_
      show Steps p.tables e below (T160.setTop (mkF m 19 #[.val (.ref vb), .val (.int i), .val (.int n)] [(.ref a160), (.ref b158), (.ref b158)])) _
      refine XS.iconst X160.here hx rfl (hb hby d30_19) ?_
      refine st164.trans ?_
      show Steps p.tables e below (T164.setTop (mkF m 23 #[.val (.ref vb), .val (.int i), .val (.int n)] [(.ref b158)])) _
      exact retOut X164 hx Bd.returns rfl (Or.inr (Or.inr (Or.inr (Or.inr ⟨rfl, rfl, rfl⟩)))) (hb hby d30_23) hr
    · show own_Ref (fun w => ∃ a : Addr, w = .ref a) h0 n0 _ T164.heap _
      exact ⟨_, rfl, N164, EX164, _, rfl⟩
theorem d29_0 : decode jdk_41_method_12_code 0 = .ok (.iload_n 0, 1) := by decide +kernel
theorem d29_1 : decode jdk_41_method_12_code 1 = .ok (.ifCond .lt 13, 3) := by decide +kernel
theorem d29_4 : decode jdk_41_method_12_code 4 = .ok (.iload_n 0, 1) := by decide +kernel
theorem d29_5 : decode jdk_41_method_12_code 5 = .ok (.iload_n 1, 1) := by decide +kernel
theorem d29_6 : decode jdk_41_method_12_code 6 = .ok (.if_icmp .gt 8, 3) := by decide +kernel
theorem d29_9 : decode jdk_41_method_12_code 9 = .ok (.iload_n 1, 1) := by decide +kernel
theorem d29_10 : decode jdk_41_method_12_code 10 = .ok (.iload_n 2, 1) := by decide +kernel
theorem d29_11 : decode jdk_41_method_12_code 11 = .ok (.if_icmp .le 11, 3) := by decide +kernel
theorem d29_22 : decode jdk_41_method_12_code 22 = .ok (.iload_n 0, 1) := by decide +kernel
theorem d29_23 : decode jdk_41_method_12_code 23 = .ok (.ireturn, 1) := by decide +kernel
theorem ef_rm_pftN (m : MethodId) (x0 : Int32) (x1 : Int32) (x2 : Int32) : entryFrame m #[(.int x0), (.int x1), (.int x2), .null] 4 = mkF m 0 #[.val (.int x0), .val (.int x1), .val (.int x2), .val .null] [] := by first | (simp [entryFrame, mkF, argsToLocals, Value.category]; done) | rfl
set_option maxRecDepth 65536 in
set_option maxHeartbeats 40000000 in
theorem rm_pftN (l : Launch) (Z : State) (a0 : Array Value) (hw : ∀ d ∈ tables_1, d.before a0 Z = true) (ws : List Jvm.Cond) (i : Int32) (j : Int32) (n : Int32) (h0 : Heap) (n0 : Nat) (Z0 : n0 ≤ h0.size) (hf1 : ¬ i < (0 : Int32)) (hf2 : ¬ j < i) (hf3 : ¬ n < j) :
    MetFree l (⟨"jdk/internal/util/Preconditions", "checkFromToIndex", "(IIILjava/util/function/BiFunction;)I"⟩ : MethodName) (head1 (Jvm.Cond.code (⟨"jdk/internal/util/Preconditions", "checkFromToIndex", "(IIILjava/util/function/BiFunction;)I"⟩ : MethodName) jdk_41_method_12_code 4 (some .int) :: ws) ({ frames := 0, cells := 0, slots := 0, locals := 0 } : Room)) (fun aQ UQ => aQ = #[(.int i), (.int j), (.int n), .null] ∧ Z.Warmed39 UQ.vm ∧ UQ.heap = h0) (fun _ _ _ _ _ => True) (fun _ UQ oQ UR => ∃ vQ LQ, oQ = .returned vQ ∧ own_Pure (some (.int i)) h0 n0 vQ UR.heap LQ ∧ FrameEnd UQ oQ UR LQ ({ frames := 0, cells := 0, slots := 0, locals := 0 } : Room).cells ({ frames := 0, cells := 0, slots := 0, locals := 0 } : Room).slots) := by
  refine MetFree.of_bodySF (plainFor_of_name pn_30) hisR ?_
  intro p e s m args below meth c s₁ Bd hml0 hP hK
  obtain ⟨rfl, hZ, hh⟩ := hP
  have hx := Bd.exec
  have hby := Bd.bytes
  have hml : c.maxLocals = 4 := hml0
  have hown : s.vm.findClass "jdk/internal/util/Preconditions" = some m.cls := findClass_of_methodNamed Bd.named
  have hnm := (name_of_methodNamed Bd.named Bd.method).1
  have X0 : Stand p l e ({ frames := 0, cells := 0, slots := 0, locals := 0 } : Room) s m #[(.int i), (.int j), (.int n), .null] below meth c s₁ [] 0 0 := Stand.of_body Bd
  have e0 : s₁.heap = h0 := by rw [← hh, Bd.state]; rfl
  have N0 := Fr.nil n0
  have pre0 : ∀ t, Steps p.tables e below (s₁.setTop (mkF m 0 #[.val (.int i), .val (.int j), .val (.int n), .val .null] [])) t → Steps p.tables e below (s₁.setTop (entryFrame m #[(.int i), (.int j), (.int n), .null] 4)) t := fun t kq => castTop (ef_rm_pftN m i j n) kq
  obtain ⟨fs, hr, hrun, hended, hW, hsame⟩ := X0.leave (v := some (.int i)) (fun h => by rw [Bd.returns] at h; cases h)
  refine ⟨_, _, pre0 _ ?_, hrun, hended, _, _, rfl, ?_, ⟨_, rfl⟩, hW, hsame.mono (by decide) (by decide)⟩
  · refine XS.iloadN X0.here hx rfl (hb hby d29_0) rfl ?_
    refine XS.ifNo X0.here hx rfl (hb hby d29_1) rfl ((if0 _ _).trans (flt (hf1 : ¬ (i < (0 : Int32)))).1) ?_
    refine XS.iloadN X0.here hx rfl (hb hby d29_4) rfl ?_
    refine XS.iloadN X0.here hx rfl (hb hby d29_5) rfl ?_
    refine XS.icmpNo X0.here hx rfl (hb hby d29_6) rfl (flt (hf2 : ¬ (j < i))).2.2.1 ?_
    refine XS.iloadN X0.here hx rfl (hb hby d29_9) rfl ?_
    refine XS.iloadN X0.here hx rfl (hb hby d29_10) rfl ?_
    refine XS.icmpYes X0.here hx rfl (pc0 := 11) (pc' := 22) rfl (hb hby d29_11) rfl (flt (hf3 : ¬ (n < j))).2.2.2 (by decide) (by decide) ?_
    refine XS.iloadN X0.here hx rfl (hb hby d29_22) rfl ?_
    exact retOut X0 hx Bd.returns rfl (Or.inl ⟨rfl, Or.inl rfl, _, rfl⟩) (hb hby d29_23) hr
  · show own_Pure (some (.int i)) h0 n0 _ s₁.heap _
    rw [e0]
    exact ⟨rfl, N0, rfl⟩
theorem d28_0 : decode jdk_42_method_158_code 0 = .ok (.iload_n 0, 1) := by decide +kernel
theorem d28_1 : decode jdk_42_method_158_code 1 = .ok (.iload_n 1, 1) := by decide +kernel
theorem d28_2 : decode jdk_42_method_158_code 2 = .ok (.iload_n 2, 1) := by decide +kernel
theorem d28_3 : decode jdk_42_method_158_code 3 = .ok (.getstatic 1053, 3) := by decide +kernel
theorem pd_350 : parseMethodDescriptor "(IIILjava/util/function/BiFunction;)I" = some ⟨[.int, .int, .int, (.object "java/util/function/BiFunction")], some .int⟩ := by decide +kernel
theorem d28_6 : decode jdk_42_method_158_code 6 = .ok (.invokestatic 1062, 3) := by decide +kernel
theorem d28_9 : decode jdk_42_method_158_code 9 = .ok (.pop, 1) := by decide +kernel
theorem d28_10 : decode jdk_42_method_158_code 10 = .ok (.return_, 1) := by decide +kernel
theorem ef_rm_cbeN (m : MethodId) (x0 : Int32) (x1 : Int32) (x2 : Int32) : entryFrame m #[(.int x0), (.int x1), (.int x2)] 3 = mkF m 0 #[.val (.int x0), .val (.int x1), .val (.int x2)] [] := by first | (simp [entryFrame, mkF, argsToLocals, Value.category]; done) | rfl
set_option maxRecDepth 65536 in
set_option maxHeartbeats 40000000 in
theorem rm_cbeN (l : Launch) (Z : State) (a0 : Array Value) (hw : ∀ d ∈ tables_1, d.before a0 Z = true) (ws : List Jvm.Cond) (i : Int32) (j : Int32) (n : Int32) (h0 : Heap) (n0 : Nat) (Z0 : n0 ≤ h0.size) (hf1 : ¬ i < (0 : Int32)) (hf2 : ¬ j < i) (hf3 : ¬ n < j) (S_f : Sta Z h0 "jdk/internal/util/Preconditions" "SIOOBE_FORMATTER" "Ljava/util/function/BiFunction;" .null) :
    MetFree l (⟨"java/lang/String", "checkBoundsBeginEnd", "(III)V"⟩ : MethodName) (head1 (Jvm.Cond.code (⟨"java/lang/String", "checkBoundsBeginEnd", "(III)V"⟩ : MethodName) jdk_42_method_158_code 3 none :: ws) ({ frames := 1, cells := 0, slots := 0, locals := 15 } : Room)) (fun aQ UQ => aQ = #[(.int i), (.int j), (.int n)] ∧ Z.Warmed39 UQ.vm ∧ UQ.heap = h0) (fun _ _ _ _ _ => True) (fun _ UQ oQ UR => ∃ vQ LQ, oQ = .returned vQ ∧ own_Pure none h0 n0 vQ UR.heap LQ ∧ FrameEnd UQ oQ UR LQ ({ frames := 1, cells := 0, slots := 0, locals := 15 } : Room).cells ({ frames := 1, cells := 0, slots := 0, locals := 15 } : Room).slots) := by
  refine MetFree.of_bodySF (plainFor_of_name pn_6) hisR ?_
  intro p e s m args below meth c s₁ Bd hml0 hP hK
  obtain ⟨rfl, hZ, hh⟩ := hP
  have hx := Bd.exec
  have hby := Bd.bytes
  have hml : c.maxLocals = 3 := hml0
  have hown : s.vm.findClass "java/lang/String" = some m.cls := findClass_of_methodNamed Bd.named
  have hnm := (name_of_methodNamed Bd.named Bd.method).1
  have X0 : Stand p l e ({ frames := 1, cells := 0, slots := 0, locals := 15 } : Room) s m #[(.int i), (.int j), (.int n)] below meth c s₁ [] 0 0 := Stand.of_body Bd
  have e0 : s₁.heap = h0 := by rw [← hh, Bd.state]; rfl
  have N0 := Fr.nil n0
  have pre0 : ∀ t, Steps p.tables e below (s₁.setTop (mkF m 0 #[.val (.int i), .val (.int j), .val (.int n)] [])) t → Steps p.tables e below (s₁.setTop (entryFrame m #[(.int i), (.int j), (.int n)] 3)) t := fun t kq => castTop (ef_rm_cbeN m i j n) kq
  obtain ⟨T165, X165, e165, st165⟩ := getS2 X0 hx hZ hown (host := "") (Or.inl (own_q hw 117 rfl)) Via.refl e0 S_f (g := (mkF m 3 #[.val (.int i), .val (.int j), .val (.int n)] [(.int n), (.int j), (.int i)])) rfl (hb hby d28_3)
  obtain ⟨_, _, ⟨T166, L166, k166, n166⟩, -, X166, ⟨Lc166, hQ166, l166, y166, z166⟩, st166⟩ := Jvm.LawKit.callS X165 hx (y := (⟨"jdk/internal/util/Preconditions", "checkFromToIndex", "(IIILjava/util/function/BiFunction;)I"⟩ : MethodName)) hown (mvT hZ (own_q hw 163 rfl)) (mvT hZ (own_q hw 164 rfl)) (mvT hZ (own_q hw 118 rfl)) (mvT hZ (own_q hw 165 rfl)) (by decide) (backOf (W := 0) (rm_pftN l Z a0 hw [] i j n h0 n0 Z0 hf1 hf2 hf3) hZ (own_q hw 165 rfl) (own_q hw 118 rfl) (by decide) (by decide)) (g := (mkF m 6 #[.val (.int i), .val (.int j), .val (.int n)] [.null, (.int n), (.int j), (.int i)])) rfl (by rw [hml]; rfl) (argsL := [(.int i), (.int j), (.int n), .null]) (rest := []) (lenOf pd_350 rfl) rfl (by show 2 * 0 + _ ≤ _; exact Nat.le_of_eq rfl) (hb hby d28_6) (fun _ _ => ⟨rfl, e165, (by decide : 0 + 0 ≤ _), (by decide : 0 + 0 ≤ _)⟩)
  dsimp only [Pt.U, Pt.locs, Pt.cells, Pt.slots] at X166 l166 y166 z166 st166 hQ166
  subst l166 y166 z166
  obtain ⟨rfl, N166q, e166⟩ := hQ166
  have N166 := Fr.app N0 N166q
  obtain ⟨fs, hr, hrun, hended, hW, hsame⟩ := X166.leave (v := none) (fun _ => rfl)
  refine ⟨_, _, pre0 _ ?_, hrun, hended, _, _, rfl, ?_, ⟨_, rfl⟩, hW, hsame.mono (by decide) (by decide)⟩
  · refine XS.iloadN X0.here hx rfl (hb hby d28_0) rfl ?_
    refine XS.iloadN X0.here hx rfl (hb hby d28_1) rfl ?_
    refine XS.iloadN X0.here hx rfl (hb hby d28_2) rfl ?_
    refine st165 _ ?_
    show Steps p.tables e below (T165.setTop (mkF m 6 #[.val (.int i), .val (.int j), .val (.int n)] [.null, (.int n), (.int j), (.int i)])) _
    refine st166 _ ?_
    show Steps p.tables e below (T166.setTop (mkF m 9 #[.val (.int i), .val (.int j), .val (.int n)] [(.int i)])) _
    refine XS.pop X166.here hx rfl (hb hby d28_9) rfl rfl ?_
    exact X166.returnOut hx Bd.returns (hb hby d28_10) hr
  · show own_Pure none h0 n0 _ T166.heap _
    rw [e166]
    exact ⟨rfl, N166, rfl⟩
theorem ef_rm_pftR (m : MethodId) (x0 : Int32) (x1 : Int32) (x2 : Int32) (x3 : Addr) : entryFrame m #[(.int x0), (.int x1), (.int x2), (.ref x3)] 4 = mkF m 0 #[.val (.int x0), .val (.int x1), .val (.int x2), .val (.ref x3)] [] := by first | (simp [entryFrame, mkF, argsToLocals, Value.category]; done) | rfl
set_option maxRecDepth 65536 in
set_option maxHeartbeats 40000000 in
theorem rm_pftR (l : Launch) (Z : State) (a0 : Array Value) (hw : ∀ d ∈ tables_1, d.before a0 Z = true) (ws : List Jvm.Cond) (i : Int32) (j : Int32) (n : Int32) (fa : Addr) (h0 : Heap) (n0 : Nat) (Z0 : n0 ≤ h0.size) (hf1 : ¬ i < (0 : Int32)) (hf2 : ¬ j < i) (hf3 : ¬ n < j) :
    MetFree l (⟨"jdk/internal/util/Preconditions", "checkFromToIndex", "(IIILjava/util/function/BiFunction;)I"⟩ : MethodName) (head1 (Jvm.Cond.code (⟨"jdk/internal/util/Preconditions", "checkFromToIndex", "(IIILjava/util/function/BiFunction;)I"⟩ : MethodName) jdk_41_method_12_code 4 (some .int) :: ws) ({ frames := 0, cells := 0, slots := 0, locals := 0 } : Room)) (fun aQ UQ => aQ = #[(.int i), (.int j), (.int n), (.ref fa)] ∧ Z.Warmed39 UQ.vm ∧ UQ.heap = h0) (fun _ _ _ _ _ => True) (fun _ UQ oQ UR => ∃ vQ LQ, oQ = .returned vQ ∧ own_Pure (some (.int i)) h0 n0 vQ UR.heap LQ ∧ FrameEnd UQ oQ UR LQ ({ frames := 0, cells := 0, slots := 0, locals := 0 } : Room).cells ({ frames := 0, cells := 0, slots := 0, locals := 0 } : Room).slots) := by
  refine MetFree.of_bodySF (plainFor_of_name pn_30) hisR ?_
  intro p e s m args below meth c s₁ Bd hml0 hP hK
  obtain ⟨rfl, hZ, hh⟩ := hP
  have hx := Bd.exec
  have hby := Bd.bytes
  have hml : c.maxLocals = 4 := hml0
  have hown : s.vm.findClass "jdk/internal/util/Preconditions" = some m.cls := findClass_of_methodNamed Bd.named
  have hnm := (name_of_methodNamed Bd.named Bd.method).1
  have X0 : Stand p l e ({ frames := 0, cells := 0, slots := 0, locals := 0 } : Room) s m #[(.int i), (.int j), (.int n), (.ref fa)] below meth c s₁ [] 0 0 := Stand.of_body Bd
  have e0 : s₁.heap = h0 := by rw [← hh, Bd.state]; rfl
  have N0 := Fr.nil n0
  have pre0 : ∀ t, Steps p.tables e below (s₁.setTop (mkF m 0 #[.val (.int i), .val (.int j), .val (.int n), .val (.ref fa)] [])) t → Steps p.tables e below (s₁.setTop (entryFrame m #[(.int i), (.int j), (.int n), (.ref fa)] 4)) t := fun t kq => castTop (ef_rm_pftR m i j n fa) kq
  obtain ⟨fs, hr, hrun, hended, hW, hsame⟩ := X0.leave (v := some (.int i)) (fun h => by rw [Bd.returns] at h; cases h)
  refine ⟨_, _, pre0 _ ?_, hrun, hended, _, _, rfl, ?_, ⟨_, rfl⟩, hW, hsame.mono (by decide) (by decide)⟩
  · refine XS.iloadN X0.here hx rfl (hb hby d29_0) rfl ?_
    refine XS.ifNo X0.here hx rfl (hb hby d29_1) rfl ((if0 _ _).trans (flt (hf1 : ¬ (i < (0 : Int32)))).1) ?_
    refine XS.iloadN X0.here hx rfl (hb hby d29_4) rfl ?_
    refine XS.iloadN X0.here hx rfl (hb hby d29_5) rfl ?_
    refine XS.icmpNo X0.here hx rfl (hb hby d29_6) rfl (flt (hf2 : ¬ (j < i))).2.2.1 ?_
    refine XS.iloadN X0.here hx rfl (hb hby d29_9) rfl ?_
    refine XS.iloadN X0.here hx rfl (hb hby d29_10) rfl ?_
    refine XS.icmpYes X0.here hx rfl (pc0 := 11) (pc' := 22) rfl (hb hby d29_11) rfl (flt (hf3 : ¬ (n < j))).2.2.2 (by decide) (by decide) ?_
    refine XS.iloadN X0.here hx rfl (hb hby d29_22) rfl ?_
    exact retOut X0 hx Bd.returns rfl (Or.inl ⟨rfl, Or.inl rfl, _, rfl⟩) (hb hby d29_23) hr
  · show own_Pure (some (.int i)) h0 n0 _ s₁.heap _
    rw [e0]
    exact ⟨rfl, N0, rfl⟩
theorem ef_rm_cbeR (m : MethodId) (x0 : Int32) (x1 : Int32) (x2 : Int32) : entryFrame m #[(.int x0), (.int x1), (.int x2)] 3 = mkF m 0 #[.val (.int x0), .val (.int x1), .val (.int x2)] [] := by first | (simp [entryFrame, mkF, argsToLocals, Value.category]; done) | rfl
set_option maxRecDepth 65536 in
set_option maxHeartbeats 40000000 in
theorem rm_cbeR (l : Launch) (Z : State) (a0 : Array Value) (hw : ∀ d ∈ tables_1, d.before a0 Z = true) (ws : List Jvm.Cond) (i : Int32) (j : Int32) (n : Int32) (h0 : Heap) (n0 : Nat) (Z0 : n0 ≤ h0.size) (fa : Addr) (hf1 : ¬ i < (0 : Int32)) (hf2 : ¬ j < i) (hf3 : ¬ n < j) (S_f : Sta Z h0 "jdk/internal/util/Preconditions" "SIOOBE_FORMATTER" "Ljava/util/function/BiFunction;" (.ref fa)) :
    MetFree l (⟨"java/lang/String", "checkBoundsBeginEnd", "(III)V"⟩ : MethodName) (head1 (Jvm.Cond.code (⟨"java/lang/String", "checkBoundsBeginEnd", "(III)V"⟩ : MethodName) jdk_42_method_158_code 3 none :: ws) ({ frames := 1, cells := 0, slots := 0, locals := 15 } : Room)) (fun aQ UQ => aQ = #[(.int i), (.int j), (.int n)] ∧ Z.Warmed39 UQ.vm ∧ UQ.heap = h0) (fun _ _ _ _ _ => True) (fun _ UQ oQ UR => ∃ vQ LQ, oQ = .returned vQ ∧ own_Pure none h0 n0 vQ UR.heap LQ ∧ FrameEnd UQ oQ UR LQ ({ frames := 1, cells := 0, slots := 0, locals := 15 } : Room).cells ({ frames := 1, cells := 0, slots := 0, locals := 15 } : Room).slots) := by
  refine MetFree.of_bodySF (plainFor_of_name pn_6) hisR ?_
  intro p e s m args below meth c s₁ Bd hml0 hP hK
  obtain ⟨rfl, hZ, hh⟩ := hP
  have hx := Bd.exec
  have hby := Bd.bytes
  have hml : c.maxLocals = 3 := hml0
  have hown : s.vm.findClass "java/lang/String" = some m.cls := findClass_of_methodNamed Bd.named
  have hnm := (name_of_methodNamed Bd.named Bd.method).1
  have X0 : Stand p l e ({ frames := 1, cells := 0, slots := 0, locals := 15 } : Room) s m #[(.int i), (.int j), (.int n)] below meth c s₁ [] 0 0 := Stand.of_body Bd
  have e0 : s₁.heap = h0 := by rw [← hh, Bd.state]; rfl
  have N0 := Fr.nil n0
  have pre0 : ∀ t, Steps p.tables e below (s₁.setTop (mkF m 0 #[.val (.int i), .val (.int j), .val (.int n)] [])) t → Steps p.tables e below (s₁.setTop (entryFrame m #[(.int i), (.int j), (.int n)] 3)) t := fun t kq => castTop (ef_rm_cbeR m i j n) kq
  obtain ⟨T167, X167, e167, st167⟩ := getS2 X0 hx hZ hown (host := "") (Or.inl (own_q hw 117 rfl)) Via.refl e0 S_f (g := (mkF m 3 #[.val (.int i), .val (.int j), .val (.int n)] [(.int n), (.int j), (.int i)])) rfl (hb hby d28_3)
  obtain ⟨_, _, ⟨T168, L168, k168, n168⟩, -, X168, ⟨Lc168, hQ168, l168, y168, z168⟩, st168⟩ := Jvm.LawKit.callS X167 hx (y := (⟨"jdk/internal/util/Preconditions", "checkFromToIndex", "(IIILjava/util/function/BiFunction;)I"⟩ : MethodName)) hown (mvT hZ (own_q hw 163 rfl)) (mvT hZ (own_q hw 164 rfl)) (mvT hZ (own_q hw 118 rfl)) (mvT hZ (own_q hw 165 rfl)) (by decide) (backOf (W := 0) (rm_pftR l Z a0 hw [] i j n fa h0 n0 Z0 hf1 hf2 hf3) hZ (own_q hw 165 rfl) (own_q hw 118 rfl) (by decide) (by decide)) (g := (mkF m 6 #[.val (.int i), .val (.int j), .val (.int n)] [(.ref fa), (.int n), (.int j), (.int i)])) rfl (by rw [hml]; rfl) (argsL := [(.int i), (.int j), (.int n), (.ref fa)]) (rest := []) (lenOf pd_350 rfl) rfl (by show 2 * 0 + _ ≤ _; exact Nat.le_of_eq rfl) (hb hby d28_6) (fun _ _ => ⟨rfl, e167, (by decide : 0 + 0 ≤ _), (by decide : 0 + 0 ≤ _)⟩)
  dsimp only [Pt.U, Pt.locs, Pt.cells, Pt.slots] at X168 l168 y168 z168 st168 hQ168
  subst l168 y168 z168
  obtain ⟨rfl, N168q, e168⟩ := hQ168
  have N168 := Fr.app N0 N168q
  obtain ⟨fs, hr, hrun, hended, hW, hsame⟩ := X168.leave (v := none) (fun _ => rfl)
  refine ⟨_, _, pre0 _ ?_, hrun, hended, _, _, rfl, ?_, ⟨_, rfl⟩, hW, hsame.mono (by decide) (by decide)⟩
  · refine XS.iloadN X0.here hx rfl (hb hby d28_0) rfl ?_
    refine XS.iloadN X0.here hx rfl (hb hby d28_1) rfl ?_
    refine XS.iloadN X0.here hx rfl (hb hby d28_2) rfl ?_
    refine st167 _ ?_
    show Steps p.tables e below (T167.setTop (mkF m 6 #[.val (.int i), .val (.int j), .val (.int n)] [(.ref fa), (.int n), (.int j), (.int i)])) _
    refine st168 _ ?_
    show Steps p.tables e below (T168.setTop (mkF m 9 #[.val (.int i), .val (.int j), .val (.int n)] [(.int i)])) _
    refine XS.pop X168.here hx rfl (hb hby d28_9) rfl rfl ?_
    exact X168.returnOut hx Bd.returns (hb hby d28_10) hr
  · show own_Pure none h0 n0 _ T168.heap _
    rw [e168]
    exact ⟨rfl, N168, rfl⟩
theorem rm_cbe (l : Launch) (Z : State) (a0 : Array Value) (hw : ∀ d ∈ tables_1, d.before a0 Z = true) (ws : List Jvm.Cond) (i : Int32) (j : Int32) (n : Int32) (h0 : Heap) (n0 : Nat) (Z0 : n0 ≤ h0.size) (hf1 : ¬ i < (0 : Int32)) (hf2 : ¬ j < i) (hf3 : ¬ n < j) (fmt : Value) (hfm : fmt = .null ∨ ∃ a : Addr, fmt = .ref a) (S_f : Sta Z h0 "jdk/internal/util/Preconditions" "SIOOBE_FORMATTER" "Ljava/util/function/BiFunction;" fmt) :
    MetFree l (⟨"java/lang/String", "checkBoundsBeginEnd", "(III)V"⟩ : MethodName) (head1 (Jvm.Cond.code (⟨"java/lang/String", "checkBoundsBeginEnd", "(III)V"⟩ : MethodName) jdk_42_method_158_code 3 none :: ws) ({ frames := 1, cells := 0, slots := 0, locals := 15 } : Room)) (fun aQ UQ => aQ = #[(.int i), (.int j), (.int n)] ∧ Z.Warmed39 UQ.vm ∧ UQ.heap = h0) (fun _ _ _ _ _ => True) (fun _ UQ oQ UR => ∃ vQ LQ, oQ = .returned vQ ∧ own_Pure none h0 n0 vQ UR.heap LQ ∧ FrameEnd UQ oQ UR LQ ({ frames := 1, cells := 0, slots := 0, locals := 15 } : Room).cells ({ frames := 1, cells := 0, slots := 0, locals := 15 } : Room).slots) := by
  rcases hfm with rfl | ⟨fa, rfl⟩
  · exact rm_cbeN l Z a0 hw ws i j n h0 n0 Z0 hf1 hf2 hf3 S_f
  · exact rm_cbeR l Z a0 hw ws i j n h0 n0 Z0 fa hf1 hf2 hf3 S_f
theorem d27_0 : decode jdk_42_method_92_code 0 = .ok (.aload_n 0, 1) := by decide +kernel
theorem d27_1 : decode jdk_42_method_92_code 1 = .ok (.invokevirtual 505, 3) := by decide +kernel
theorem d27_4 : decode jdk_42_method_92_code 4 = .ok (.istore_n 3, 1) := by decide +kernel
theorem d27_5 : decode jdk_42_method_92_code 5 = .ok (.iload_n 1, 1) := by decide +kernel
theorem d27_6 : decode jdk_42_method_92_code 6 = .ok (.iload_n 2, 1) := by decide +kernel
theorem d27_7 : decode jdk_42_method_92_code 7 = .ok (.iload_n 3, 1) := by decide +kernel
theorem pd_360 : parseMethodDescriptor "(III)V" = some ⟨[.int, .int, .int], none⟩ := by decide +kernel
theorem d27_8 : decode jdk_42_method_92_code 8 = .ok (.invokestatic 521, 3) := by decide +kernel
theorem d27_11 : decode jdk_42_method_92_code 11 = .ok (.iload_n 1, 1) := by decide +kernel
theorem d27_12 : decode jdk_42_method_92_code 12 = .ok (.ifCond .ne 10, 3) := by decide +kernel
theorem d27_15 : decode jdk_42_method_92_code 15 = .ok (.iload_n 2, 1) := by decide +kernel
theorem d27_16 : decode jdk_42_method_92_code 16 = .ok (.iload_n 3, 1) := by decide +kernel
theorem d27_17 : decode jdk_42_method_92_code 17 = .ok (.if_icmp .ne 5, 3) := by decide +kernel
theorem d27_20 : decode jdk_42_method_92_code 20 = .ok (.aload_n 0, 1) := by decide +kernel
theorem d27_21 : decode jdk_42_method_92_code 21 = .ok (.areturn, 1) := by decide +kernel
theorem d27_22 : decode jdk_42_method_92_code 22 = .ok (.iload_n 2, 1) := by decide +kernel
theorem d27_23 : decode jdk_42_method_92_code 23 = .ok (.iload_n 1, 1) := by decide +kernel
theorem d27_24 : decode jdk_42_method_92_code 24 = .ok (.isub, 1) := by decide +kernel
theorem d27_25 : decode jdk_42_method_92_code 25 = .ok (.istore 4, 2) := by decide +kernel
theorem d27_27 : decode jdk_42_method_92_code 27 = .ok (.aload_n 0, 1) := by decide +kernel
theorem d27_28 : decode jdk_42_method_92_code 28 = .ok (.invokevirtual 492, 3) := by decide +kernel
theorem d27_31 : decode jdk_42_method_92_code 31 = .ok (.ifCond .eq 16, 3) := by decide +kernel
theorem d27_34 : decode jdk_42_method_92_code 34 = .ok (.aload_n 0, 1) := by decide +kernel
theorem d27_35 : decode jdk_42_method_92_code 35 = .ok (.getfield 9, 3) := by decide +kernel
theorem d27_38 : decode jdk_42_method_92_code 38 = .ok (.iload_n 1, 1) := by decide +kernel
theorem d27_39 : decode jdk_42_method_92_code 39 = .ok (.iload 4, 2) := by decide +kernel
theorem pd_380 : parseMethodDescriptor "([BII)Ljava/lang/String;" = some ⟨[(.array .byte), .int, .int], some (.object "java/lang/String")⟩ := by decide +kernel
theorem d27_41 : decode jdk_42_method_92_code 41 = .ok (.invokestatic 685, 3) := by decide +kernel
theorem d27_44 : decode jdk_42_method_92_code 44 = .ok (.goto 13, 3) := by decide +kernel
theorem d27_57 : decode jdk_42_method_92_code 57 = .ok (.areturn, 1) := by decide +kernel
theorem ef_rm_sub (m : MethodId) (x0 : Addr) (x1 : Int32) (x2 : Int32) : entryFrame m #[(.ref x0), (.int x1), (.int x2)] 5 = mkF m 0 #[.val (.ref x0), .val (.int x1), .val (.int x2), .unset, .unset] [] := by first | (simp [entryFrame, mkF, argsToLocals, Value.category]; done) | rfl
set_option maxRecDepth 65536 in
set_option maxHeartbeats 40000000 in
theorem rm_sub (l : Launch) (Z : State) (a0 : Array Value) (hw : ∀ d ∈ tables_1, d.before a0 Z = true) (ws : List Jvm.Cond) (a1 : Addr) (i : Int32) (j : Int32) (h0 : Heap) (n0 : Nat) (Z0 : n0 ≤ h0.size) (vb : Addr) (kb : ClassId) (z : Int32) (ch : Nat → Int32) (cst : Int32) (fmt : Value) (hS : own_S Z h0 a1 vb kb z ch) (hT : own_T Z h0 cst fmt) (hz4 : z.toInt ≤ 4) (hij : 0 ≤ i.toInt ∧ i.toInt ≤ j.toInt ∧ j.toInt ≤ z.toInt) :
    MetFree l (⟨"java/lang/String", "substring", "(II)Ljava/lang/String;"⟩ : MethodName) (head1 (Jvm.Cond.code (⟨"java/lang/String", "substring", "(II)Ljava/lang/String;"⟩ : MethodName) jdk_42_method_92_code 5 (some (.object "java/lang/String")) :: ws) ({ frames := 4, cells := 2, slots := 8, locals := 64 } : Room)) (fun aQ UQ => aQ = #[(.ref a1), (.int i), (.int j)] ∧ Z.Warmed39 UQ.vm ∧ UQ.heap = h0) (fun _ _ _ _ _ => True) (fun _ UQ oQ UR => ∃ vQ LQ, oQ = .returned vQ ∧ own_Ref (fun w => ∃ a : Addr, w = .ref a) h0 n0 vQ UR.heap LQ ∧ ReturnedEndW UQ oQ UR LQ ({ frames := 4, cells := 2, slots := 8, locals := 64 } : Room).cells ({ frames := 4, cells := 2, slots := 8, locals := 64 } : Room).slots) := by
  refine MetFree.of_bodySF (plainFor_of_name pn_6) hisR ?_
  intro p e s m args below meth c s₁ Bd hml0 hP hK
  obtain ⟨rfl, hZ, hh⟩ := hP
  have hx := Bd.exec
  have hby := Bd.bytes
  have hml : c.maxLocals = 5 := hml0
  have hown : s.vm.findClass "java/lang/String" = some m.cls := findClass_of_methodNamed Bd.named
  have hnm := (name_of_methodNamed Bd.named Bd.method).1
  have X0 : Stand p l e ({ frames := 4, cells := 2, slots := 8, locals := 64 } : Room) (s.setVm s.vm) m #[(.ref a1), (.int i), (.int j)] below meth c s₁ [] 0 0 := Stand.of_body Bd
  have e0 : s₁.heap = h0 := by rw [← hh, Bd.state]; rfl
  have N0 := Fr.nil n0
  have pre0 : ∀ t, Steps p.tables e below (s₁.setTop (mkF m 0 #[.val (.ref a1), .val (.int i), .val (.int j), .unset, .unset] [])) t → Steps p.tables e below (s₁.setTop (entryFrame m #[(.ref a1), (.int i), (.int j)] 5)) t := fun t kq => castTop (ef_rm_sub m a1 i j) kq
  have hSi0 : s.Since s.vm h0.size := (State.WarmedH.refl s).since _
  have hSk0 : h0.size ≤ h0.size := Nat.le_refl _
  obtain ⟨E_a, F_v, F_c, B_v, hch⟩ := id hS
  obtain ⟨S_c, hcst, S_f, hfm⟩ := id hT
  obtain ⟨cq169, kq169, q169a, q169b, q169c⟩ := isOf hZ e0 (E_a)
  obtain ⟨_, _, ⟨T169, L169, k169, n169⟩, -, X169, ⟨Lc169, hQ169, l169, y169, z169⟩, st169⟩ := X0.virtualBack hx (y := (⟨"java/lang/String", "length", "()I"⟩ : MethodName)) (z := (⟨"java/lang/String", "length", "()I"⟩ : MethodName)) hown (mvT hZ (own_q hw 159 rfl)) (mvT hZ (own_q hw 28 rfl)) (notFace_of_selects (args := #[]) (mvT hZ (own_q hw 30 rfl))) (mvT hZ (own_q hw 30 rfl)) (mvT hZ (own_q hw 29 rfl)) (by decide) (backOf (W := 0) (rm_len l Z a0 hw [] a1 h0 n0 Z0 vb kb z ch cst fmt hS hT) hZ (own_q hw 31 rfl) (own_q hw 4 rfl) (by decide) (by decide)) q169a q169c (g := (mkF m 1 #[.val (.ref a1), .val (.int i), .val (.int j), .unset, .unset] [(.ref a1)])) rfl (by rw [hml]; rfl) (Steps.refl _) (argsL := []) (rest := []) (lenOf pd_63 rfl) rfl (by show 2 * 0 + _ ≤ _; exact Nat.le_of_eq rfl) (hb hby d27_1) (fun _ _ => ⟨rfl, e0, (by decide : 0 + 0 ≤ _), (by decide : 0 + 0 ≤ _)⟩)
  dsimp only [Pt.U, Pt.locs, Pt.cells, Pt.slots] at X169 l169 y169 z169 st169 hQ169
  subst l169 y169 z169
  obtain ⟨rfl, N169q, e169⟩ := hQ169
  have N169 := Fr.app N0 N169q
  obtain ⟨_, _, ⟨T170, L170, k170, n170⟩, -, X170, ⟨Lc170, hQ170, l170, y170, z170⟩, st170⟩ := Jvm.LawKit.callS X169 hx (y := (⟨"java/lang/String", "checkBoundsBeginEnd", "(III)V"⟩ : MethodName)) hown (mvT hZ (own_q hw 160 rfl)) (mvT hZ (own_q hw 161 rfl)) (mvT hZ (own_q hw 4 rfl)) (mvT hZ (own_q hw 162 rfl)) (by decide) (backOf (W := 0) (rm_cbe l Z a0 hw [] i j z h0 n0 Z0 (own_nn hij.1) (own_nlt (by omega)) (own_nlt (by omega)) fmt hfm S_f) hZ (own_q hw 162 rfl) (own_q hw 4 rfl) (by decide) (by decide)) (g := (mkF m 8 #[.val (.ref a1), .val (.int i), .val (.int j), .val (.int z), .unset] [(.int z), (.int j), (.int i)])) rfl (by rw [hml]; rfl) (argsL := [(.int i), (.int j), (.int z)]) (rest := []) (lenOf pd_360 rfl) rfl (by show 2 * 0 + _ ≤ _; exact Nat.le_of_eq rfl) (hb hby d27_8) (fun _ _ => ⟨rfl, e169, (by decide : 0 + 0 ≤ _), (by decide : 0 + 0 ≤ _)⟩)
  dsimp only [Pt.U, Pt.locs, Pt.cells, Pt.slots] at X170 l170 y170 z170 st170 hQ170
  subst l170 y170 z170
  obtain ⟨rfl, N170q, e170⟩ := hQ170
  have N170 := Fr.app N169 N170q
  have ck172 : ∀ t, Steps p.tables e below (T170.setTop (mkF m 12 #[.val (.ref a1), .val (.int i), .val (.int j), .val (.int z), .unset] [(.int i)])) t → Steps p.tables e below (s₁.setTop (entryFrame m #[(.ref a1), (.int i), (.int j)] 5)) t := by
    intro t kt
    refine pre0 _ ?_
    refine XS.aloadN X0.here hx rfl (hb hby d27_0) rfl rfl ?_
    refine st169.trans ?_
    show Steps p.tables e below (T169.setTop (mkF m 4 #[.val (.ref a1), .val (.int i), .val (.int j), .unset, .unset] [(.int z)])) _
    refine XS.istoreN X169.here hx rfl (hb hby d27_4) rfl (l' := #[.val (.ref a1), .val (.int i), .val (.int j), .val (.int z), .unset]) rfl ?_
    refine XS.iloadN X169.here hx rfl (hb hby d27_5) rfl ?_
    refine XS.iloadN X169.here hx rfl (hb hby d27_6) rfl ?_
    refine XS.iloadN X169.here hx rfl (hb hby d27_7) rfl ?_
    refine st170 _ ?_
    show Steps p.tables e below (T170.setTop (mkF m 11 #[.val (.ref a1), .val (.int i), .val (.int j), .val (.int z), .unset] [])) _
    refine XS.iloadN X170.here hx rfl (hb hby d27_11) rfl ?_
    exact kt
  (try clear N170q); (try clear st170); (try clear Lc170); (try clear n170); (try clear k170); (try clear L170); (try clear N169); (try clear e169); (try clear N169q); (try clear st169); (try clear Lc169); (try clear X169); (try clear n169); (try clear k169); (try clear L169); (try clear T169); (try clear q169c); (try clear q169b); (try clear q169a); (try clear kq169); (try clear cq169)
  by_cases hc12_171 : i = (0 : Int32)
  · -- pc 12: yes
    by_cases hc17_173 : j = z
    · -- pc 17: yes
      obtain ⟨fs, hr, hrun, hended, hW⟩ := X170.leaveW hSi0 (show _ ≤ T170.heap.size by rw [e170]; exact hSk0) (v := some (.ref a1)) (fun h => by rw [Bd.returns] at h; cases h)
      refine ⟨_, _, ck172 _ ?_, hrun, hended, _, _, rfl, ?_, own_retW (k := 0) (n := 0) hW (by decide) (by decide)⟩
      · refine XS.ifNo X170.here hx rfl (hb hby d27_12) rfl ((if0 _ _).trans (teq hc12_171).2) ?_
        refine XS.iloadN X170.here hx rfl (hb hby d27_15) rfl ?_
        refine XS.iloadN X170.here hx rfl (hb hby d27_16) rfl ?_
        refine XS.icmpNo X170.here hx rfl (hb hby d27_17) rfl (teq hc17_173).2 ?_
        refine XS.aloadN X170.here hx rfl (hb hby d27_20) rfl rfl ?_
        exact retOut X170 hx Bd.returns rfl (Or.inr (Or.inr (Or.inr (Or.inr ⟨rfl, rfl, rfl⟩)))) (hb hby d27_21) hr
      · show own_Ref (fun w => ∃ a : Addr, w = .ref a) h0 n0 _ T170.heap _
        rw [e170]
        exact ⟨_, rfl, N170, (own_ext_refl h0), _, rfl⟩
    · -- pc 17: no
      obtain ⟨nl, h_nl⟩ : ∃ zQ : Int32, (j - i) = zQ := ⟨_, rfl⟩
      have hnl : nl.toInt = j.toInt - i.toInt := by rw [← h_nl]; exact own_subI hij hz4
      obtain ⟨cq174, kq174, q174a, q174b, q174c⟩ := isOf hZ e170 (E_a)
      obtain ⟨_, _, ⟨T174, L174, k174, n174⟩, -, X174, ⟨Lc174, hQ174, l174, y174, z174⟩, st174⟩ := X170.virtualBack hx (y := (⟨"java/lang/String", "isLatin1", "()Z"⟩ : MethodName)) (z := (⟨"java/lang/String", "isLatin1", "()Z"⟩ : MethodName)) hown (mvT hZ (own_q hw 105 rfl)) (mvT hZ (own_q hw 106 rfl)) (notFace_of_selects (args := #[]) (mvT hZ (own_q hw 108 rfl))) (mvT hZ (own_q hw 108 rfl)) (mvT hZ (own_q hw 107 rfl)) (by decide) (backOf (W := 0) (rm_isl l Z a0 hw [] a1 h0 n0 Z0 vb kb z ch cst fmt hS hT) hZ (own_q hw 109 rfl) (own_q hw 4 rfl) (by decide) (by decide)) q174a q174c (g := (mkF m 28 #[.val (.ref a1), .val (.int i), .val (.int j), .val (.int z), .val (.int nl)] [(.ref a1)])) rfl (by rw [hml]; rfl) (Steps.refl _) (argsL := []) (rest := []) (lenOf pd_52 rfl) rfl (by show 2 * 0 + _ ≤ _; exact Nat.le_of_eq rfl) (hb hby d27_28) (fun _ _ => ⟨rfl, e170, (by decide : 0 + 0 ≤ _), (by decide : 0 + 0 ≤ _)⟩)
      dsimp only [Pt.U, Pt.locs, Pt.cells, Pt.slots] at X174 l174 y174 z174 st174 hQ174
      subst l174 y174 z174
      obtain ⟨rfl, N174q, e174⟩ := hQ174
      have N174 := Fr.app N170 N174q
      obtain ⟨T175, X175, e175, st175⟩ := getF X174 hx hZ hown (host := "") (Or.inl (own_q hw 21 rfl)) Via.refl e174 F_v (g := (mkF m 35 #[.val (.ref a1), .val (.int i), .val (.int j), .val (.int z), .val (.int nl)] [(.ref a1)])) rfl rfl (hb hby d27_35)
      have ck176 : ∀ t, Steps p.tables e below (T175.setTop (mkF m 41 #[.val (.ref a1), .val (.int i), .val (.int j), .val (.int z), .val (.int nl)] [(.int nl), (.int i), (.ref vb)])) t → Steps p.tables e below (s₁.setTop (entryFrame m #[(.ref a1), (.int i), (.int j)] 5)) t := by
        intro t kt
        refine ck172 _ ?_
        refine XS.ifNo X170.here hx rfl (hb hby d27_12) rfl ((if0 _ _).trans (teq hc12_171).2) ?_
        refine XS.iloadN X170.here hx rfl (hb hby d27_15) rfl ?_
        refine XS.iloadN X170.here hx rfl (hb hby d27_16) rfl ?_
        refine XS.icmpYes X170.here hx rfl (pc0 := 17) (pc' := 22) rfl (hb hby d27_17) rfl (feq hc17_173).2 (by decide) (by decide) ?_
        refine XS.iloadN X170.here hx rfl (hb hby d27_22) rfl ?_
        refine XS.iloadN X170.here hx rfl (hb hby d27_23) rfl ?_
        refine XS.isub X170.here hx rfl (hb hby d27_24) rfl ?_
        show Steps p.tables e below (T170.setTop (mkF m 25 #[.val (.ref a1), .val (.int i), .val (.int j), .val (.int z), .unset] [(.int (j - i))])) _
        rw [h_nl]
        show Steps p.tables e below (T170.setTop (mkF m 25 #[.val (.ref a1), .val (.int i), .val (.int j), .val (.int z), .unset] [(.int nl)])) _
        refine XS.istore X170.here hx rfl (hb hby d27_25) rfl (l' := #[.val (.ref a1), .val (.int i), .val (.int j), .val (.int z), .val (.int nl)]) rfl ?_
        refine XS.aloadN X170.here hx rfl (hb hby d27_27) rfl rfl ?_
        refine st174.trans ?_
        show Steps p.tables e below (T174.setTop (mkF m 31 #[.val (.ref a1), .val (.int i), .val (.int j), .val (.int z), .val (.int nl)] [(.int (1 : Int32))])) _
        refine XS.ifNo X174.here hx rfl (hb hby d27_31) rfl ((if0 _ _).trans (feq (by decide : ¬ ((1 : Int32) = (0 : Int32)))).1) ?_
        refine XS.aloadN X174.here hx rfl (hb hby d27_34) rfl rfl ?_
        refine st175 _ ?_
        show Steps p.tables e below (T175.setTop (mkF m 38 #[.val (.ref a1), .val (.int i), .val (.int j), .val (.int z), .val (.int nl)] [(.ref vb)])) _
        refine XS.iloadN X175.here hx rfl (hb hby d27_38) rfl ?_
        refine XS.iload X175.here hx rfl (hb hby d27_39) rfl ?_
        exact kt
      (try clear st175); (try clear e174); (try clear N174q); (try clear st174); (try clear Lc174); (try clear X174); (try clear n174); (try clear k174); (try clear L174); (try clear T174); (try clear q174c); (try clear q174b); (try clear q174a); (try clear kq174); (try clear cq174)
      obtain ⟨_, _, ⟨T177, L177, k177, n177⟩, -, X177r, S177r, g177r, ⟨Lc177, hQ177, l177, y177, z177⟩, st177⟩ := Jvm.RoadKit.callSS X175 hx (y := (⟨"java/lang/StringLatin1", "newString", "([BII)Ljava/lang/String;"⟩ : MethodName)) hown (mvT hZ (own_q hw 168 rfl)) (mvT hZ (own_q hw 169 rfl)) (mvT hZ (own_q hw 112 rfl)) (mvT hZ (own_q hw 170 rfl)) (by decide) (backOfS (W := 0) (rm_ns l Z a0 hw [] vb i nl h0 n0 Z0 kb z _ B_v hz4 ⟨hij.1, by omega, by omega⟩ (fun q => hc17_173 (Int32.toInt_inj.mp (by omega)))) hZ (own_q hw 170 rfl) (own_q hw 112 rfl) (by decide) (by decide)) (g := (mkF m 41 #[.val (.ref a1), .val (.int i), .val (.int j), .val (.int z), .val (.int nl)] [(.int nl), (.int i), (.ref vb)])) rfl (by rw [hml]; rfl) (argsL := [(.ref vb), (.int i), (.int nl)]) (rest := []) (lenOf pd_380 rfl) rfl (by show 2 * 0 + _ ≤ _; exact Nat.le_of_eq rfl) (hb hby d27_41) (fun _ _ => ⟨rfl, e175, (by decide : 0 + 2 ≤ _), (by decide : 0 + 8 ≤ _)⟩)
      dsimp only [Pt.U, Pt.locs, Pt.cells, Pt.slots] at X177r S177r g177r l177 y177 z177 st177 hQ177
      subst l177 y177 z177
      obtain ⟨X177, hSi177, hZ, hown⟩ := rebS hSi0 (show _ ≤ T175.heap.size by rw [e175]; exact hSk0) X177r S177r g177r hZ hown
      obtain ⟨w177, rfl, N177q, E177, a177, rfl⟩ := hQ177
      have N177 := Fr.app N174 N177q
      have e177 : T177.heap = T177.heap := rfl
      have hSk177 := Nat.le_trans hSk0 E177.1
      have EX177 := own_ext_trans (own_ext_refl h0) E177
      have KP177 := Keep.ext (Keep.refl h0 []) E177
      obtain ⟨fs, hr, hrun, hended, hW⟩ := X177.leaveW hSi177 (show _ ≤ T177.heap.size by rw [e177]; exact (Nat.le_refl T177.heap.size)) (v := some (.ref a177)) (fun h => by rw [Bd.returns] at h; cases h)
      refine ⟨_, _, ck176 _ ?_, hrun, hended, _, _, rfl, ?_, own_retW (k := 2) (n := 8) hW (by decide) (by decide)⟩
      · refine st177.trans ?_
        show Steps p.tables e below (T177.setTop (mkF m 44 #[.val (.ref a1), .val (.int i), .val (.int j), .val (.int z), .val (.int nl)] [(.ref a177)])) _
        refine XS.goto X177.here hx rfl (pc0 := 44) (pc' := 57) rfl (hb hby d27_44) (by decide) (by decide) ?_
        exact retOut X177 hx Bd.returns rfl (Or.inr (Or.inr (Or.inr (Or.inr ⟨rfl, rfl, rfl⟩)))) (hb hby d27_57) hr
      · show own_Ref (fun w => ∃ a : Addr, w = .ref a) h0 n0 _ T177.heap _
        exact ⟨_, rfl, N177, EX177, _, rfl⟩
  · -- pc 12: no
    obtain ⟨nl, h_nl⟩ : ∃ zQ : Int32, (j - i) = zQ := ⟨_, rfl⟩
    have hnl : nl.toInt = j.toInt - i.toInt := by rw [← h_nl]; exact own_subI hij hz4
    obtain ⟨cq178, kq178, q178a, q178b, q178c⟩ := isOf hZ e170 (E_a)
    obtain ⟨_, _, ⟨T178, L178, k178, n178⟩, -, X178, ⟨Lc178, hQ178, l178, y178, z178⟩, st178⟩ := X170.virtualBack hx (y := (⟨"java/lang/String", "isLatin1", "()Z"⟩ : MethodName)) (z := (⟨"java/lang/String", "isLatin1", "()Z"⟩ : MethodName)) hown (mvT hZ (own_q hw 105 rfl)) (mvT hZ (own_q hw 106 rfl)) (notFace_of_selects (args := #[]) (mvT hZ (own_q hw 108 rfl))) (mvT hZ (own_q hw 108 rfl)) (mvT hZ (own_q hw 107 rfl)) (by decide) (backOf (W := 0) (rm_isl l Z a0 hw [] a1 h0 n0 Z0 vb kb z ch cst fmt hS hT) hZ (own_q hw 109 rfl) (own_q hw 4 rfl) (by decide) (by decide)) q178a q178c (g := (mkF m 28 #[.val (.ref a1), .val (.int i), .val (.int j), .val (.int z), .val (.int nl)] [(.ref a1)])) rfl (by rw [hml]; rfl) (Steps.refl _) (argsL := []) (rest := []) (lenOf pd_52 rfl) rfl (by show 2 * 0 + _ ≤ _; exact Nat.le_of_eq rfl) (hb hby d27_28) (fun _ _ => ⟨rfl, e170, (by decide : 0 + 0 ≤ _), (by decide : 0 + 0 ≤ _)⟩)
    dsimp only [Pt.U, Pt.locs, Pt.cells, Pt.slots] at X178 l178 y178 z178 st178 hQ178
    subst l178 y178 z178
    obtain ⟨rfl, N178q, e178⟩ := hQ178
    have N178 := Fr.app N170 N178q
    obtain ⟨T179, X179, e179, st179⟩ := getF X178 hx hZ hown (host := "") (Or.inl (own_q hw 21 rfl)) Via.refl e178 F_v (g := (mkF m 35 #[.val (.ref a1), .val (.int i), .val (.int j), .val (.int z), .val (.int nl)] [(.ref a1)])) rfl rfl (hb hby d27_35)
    have ck180 : ∀ t, Steps p.tables e below (T179.setTop (mkF m 41 #[.val (.ref a1), .val (.int i), .val (.int j), .val (.int z), .val (.int nl)] [(.int nl), (.int i), (.ref vb)])) t → Steps p.tables e below (s₁.setTop (entryFrame m #[(.ref a1), (.int i), (.int j)] 5)) t := by
      intro t kt
      refine ck172 _ ?_
      refine XS.ifYes X170.here hx rfl (pc0 := 12) (pc' := 22) rfl (hb hby d27_12) rfl ((if0 _ _).trans (feq hc12_171).2) (by decide) (by decide) ?_
      refine XS.iloadN X170.here hx rfl (hb hby d27_22) rfl ?_
      refine XS.iloadN X170.here hx rfl (hb hby d27_23) rfl ?_
      refine XS.isub X170.here hx rfl (hb hby d27_24) rfl ?_
      show Steps p.tables e below (T170.setTop (mkF m 25 #[.val (.ref a1), .val (.int i), .val (.int j), .val (.int z), .unset] [(.int (j - i))])) _
      rw [h_nl]
      show Steps p.tables e below (T170.setTop (mkF m 25 #[.val (.ref a1), .val (.int i), .val (.int j), .val (.int z), .unset] [(.int nl)])) _
      refine XS.istore X170.here hx rfl (hb hby d27_25) rfl (l' := #[.val (.ref a1), .val (.int i), .val (.int j), .val (.int z), .val (.int nl)]) rfl ?_
      refine XS.aloadN X170.here hx rfl (hb hby d27_27) rfl rfl ?_
      refine st178.trans ?_
      show Steps p.tables e below (T178.setTop (mkF m 31 #[.val (.ref a1), .val (.int i), .val (.int j), .val (.int z), .val (.int nl)] [(.int (1 : Int32))])) _
      refine XS.ifNo X178.here hx rfl (hb hby d27_31) rfl ((if0 _ _).trans (feq (by decide : ¬ ((1 : Int32) = (0 : Int32)))).1) ?_
      refine XS.aloadN X178.here hx rfl (hb hby d27_34) rfl rfl ?_
      refine st179 _ ?_
      show Steps p.tables e below (T179.setTop (mkF m 38 #[.val (.ref a1), .val (.int i), .val (.int j), .val (.int z), .val (.int nl)] [(.ref vb)])) _
      refine XS.iloadN X179.here hx rfl (hb hby d27_38) rfl ?_
      refine XS.iload X179.here hx rfl (hb hby d27_39) rfl ?_
      exact kt
    (try clear st179); (try clear e178); (try clear N178q); (try clear st178); (try clear Lc178); (try clear X178); (try clear n178); (try clear k178); (try clear L178); (try clear T178); (try clear q178c); (try clear q178b); (try clear q178a); (try clear kq178); (try clear cq178)
    obtain ⟨_, _, ⟨T181, L181, k181, n181⟩, -, X181r, S181r, g181r, ⟨Lc181, hQ181, l181, y181, z181⟩, st181⟩ := Jvm.RoadKit.callSS X179 hx (y := (⟨"java/lang/StringLatin1", "newString", "([BII)Ljava/lang/String;"⟩ : MethodName)) hown (mvT hZ (own_q hw 168 rfl)) (mvT hZ (own_q hw 169 rfl)) (mvT hZ (own_q hw 112 rfl)) (mvT hZ (own_q hw 170 rfl)) (by decide) (backOfS (W := 0) (rm_ns l Z a0 hw [] vb i nl h0 n0 Z0 kb z _ B_v hz4 ⟨hij.1, by omega, by omega⟩ (fun q => hc12_171 (own_e0 q.1))) hZ (own_q hw 170 rfl) (own_q hw 112 rfl) (by decide) (by decide)) (g := (mkF m 41 #[.val (.ref a1), .val (.int i), .val (.int j), .val (.int z), .val (.int nl)] [(.int nl), (.int i), (.ref vb)])) rfl (by rw [hml]; rfl) (argsL := [(.ref vb), (.int i), (.int nl)]) (rest := []) (lenOf pd_380 rfl) rfl (by show 2 * 0 + _ ≤ _; exact Nat.le_of_eq rfl) (hb hby d27_41) (fun _ _ => ⟨rfl, e179, (by decide : 0 + 2 ≤ _), (by decide : 0 + 8 ≤ _)⟩)
    dsimp only [Pt.U, Pt.locs, Pt.cells, Pt.slots] at X181r S181r g181r l181 y181 z181 st181 hQ181
    subst l181 y181 z181
    obtain ⟨X181, hSi181, hZ, hown⟩ := rebS hSi0 (show _ ≤ T179.heap.size by rw [e179]; exact hSk0) X181r S181r g181r hZ hown
    obtain ⟨w181, rfl, N181q, E181, a181, rfl⟩ := hQ181
    have N181 := Fr.app N178 N181q
    have e181 : T181.heap = T181.heap := rfl
    have hSk181 := Nat.le_trans hSk0 E181.1
    have EX181 := own_ext_trans (own_ext_refl h0) E181
    have KP181 := Keep.ext (Keep.refl h0 []) E181
    obtain ⟨fs, hr, hrun, hended, hW⟩ := X181.leaveW hSi181 (show _ ≤ T181.heap.size by rw [e181]; exact (Nat.le_refl T181.heap.size)) (v := some (.ref a181)) (fun h => by rw [Bd.returns] at h; cases h)
    refine ⟨_, _, ck180 _ ?_, hrun, hended, _, _, rfl, ?_, own_retW (k := 2) (n := 8) hW (by decide) (by decide)⟩
    · refine st181.trans ?_
      show Steps p.tables e below (T181.setTop (mkF m 44 #[.val (.ref a1), .val (.int i), .val (.int j), .val (.int z), .val (.int nl)] [(.ref a181)])) _
      refine XS.goto X181.here hx rfl (pc0 := 44) (pc' := 57) rfl (hb hby d27_44) (by decide) (by decide) ?_
      exact retOut X181 hx Bd.returns rfl (Or.inr (Or.inr (Or.inr (Or.inr ⟨rfl, rfl, rfl⟩)))) (hb hby d27_57) hr
    · show own_Ref (fun w => ∃ a : Addr, w = .ref a) h0 n0 _ T181.heap _
      exact ⟨_, rfl, N181, EX181, _, rfl⟩
theorem d12_0 : decode prog_32_method_1_code 0 = .ok (.aload_n 0, 1) := by decide +kernel
theorem d12_1 : decode prog_32_method_1_code 1 = .ok (.invokespecial 1, 3) := by decide +kernel
theorem d12_4 : decode prog_32_method_1_code 4 = .ok (.aload_n 0, 1) := by decide +kernel
theorem d12_5 : decode prog_32_method_1_code 5 = .ok (.iload_n 1, 1) := by decide +kernel
theorem d12_6 : decode prog_32_method_1_code 6 = .ok (.putfield 7, 3) := by decide +kernel
theorem d12_9 : decode prog_32_method_1_code 9 = .ok (.aload_n 0, 1) := by decide +kernel
theorem d12_10 : decode prog_32_method_1_code 10 = .ok (.aload_n 2, 1) := by decide +kernel
theorem d12_11 : decode prog_32_method_1_code 11 = .ok (.putfield 13, 3) := by decide +kernel
theorem d12_14 : decode prog_32_method_1_code 14 = .ok (.aload_n 0, 1) := by decide +kernel
theorem d12_15 : decode prog_32_method_1_code 15 = .ok (.aload_n 3, 1) := by decide +kernel
theorem d12_16 : decode prog_32_method_1_code 16 = .ok (.putfield 17, 3) := by decide +kernel
theorem d12_19 : decode prog_32_method_1_code 19 = .ok (.aload_n 0, 1) := by decide +kernel
theorem d12_20 : decode prog_32_method_1_code 20 = .ok (.aload 4, 2) := by decide +kernel
theorem d12_22 : decode prog_32_method_1_code 22 = .ok (.putfield 20, 3) := by decide +kernel
theorem d12_25 : decode prog_32_method_1_code 25 = .ok (.return_, 1) := by decide +kernel
theorem pn_399 : plainName "com/example/rowstrata/rowstrata/type/Numeral" = true := by first | (simp [plainName, overriddenIn]; done) | decide +kernel
theorem ef_rm_nin (m : MethodId) (x0 : Addr) (x1 : Int32) (x2 : Addr) (x3 : Value) (x4 : Value) (hx3 : x3.isRef = true) (hx4 : x4.isRef = true) : entryFrame m #[(.ref x0), (.int x1), (.ref x2), x3, x4] 5 = mkF m 0 #[.val (.ref x0), .val (.int x1), .val (.ref x2), .val x3, .val x4] [] := by rcases ref_cases hx3 with rfl | ⟨_, rfl⟩ <;> rcases ref_cases hx4 with rfl | ⟨_, rfl⟩ <;> first | (simp [entryFrame, mkF, argsToLocals, Value.category]; done) | rfl
set_option maxRecDepth 65536 in
set_option maxHeartbeats 40000000 in
theorem rm_nin (l : Launch) (Z : State) (a0 : Array Value) (hw : ∀ d ∈ tables_1, d.before a0 Z = true) (ws : List Jvm.Cond) (a1 : Addr) (ng : Int32) (dg : Addr) (fr : Value) (ex : Value) (h0 : Heap) (n0 : Nat) (Z0 : n0 ≤ h0.size) (hng : ng = (0 : Int32) ∨ ng = (1 : Int32)) (hfr : fr.isRef = true) (hex : ex.isRef = true) (E_a : Exa Z h0 a1 "com/example/rowstrata/rowstrata/type/Numeral") (F_negative : Fld Z h0 a1 "com/example/rowstrata/rowstrata/type/Numeral" "negative" "Z" (.int (0 : Int32))) (F_digits : Fld Z h0 a1 "com/example/rowstrata/rowstrata/type/Numeral" "digits" "Ljava/lang/String;" .null) (F_fraction : Fld Z h0 a1 "com/example/rowstrata/rowstrata/type/Numeral" "fraction" "Ljava/lang/String;" .null) (F_exponent : Fld Z h0 a1 "com/example/rowstrata/rowstrata/type/Numeral" "exponent" "Ljava/lang/String;" .null) (gn_a : n0 ≤ a1) :
    MetFree l (⟨"com/example/rowstrata/rowstrata/type/Numeral", "<init>", "(ZLjava/lang/String;Ljava/lang/String;Ljava/lang/String;)V"⟩ : MethodName) (head1 (Jvm.Cond.code (⟨"com/example/rowstrata/rowstrata/type/Numeral", "<init>", "(ZLjava/lang/String;Ljava/lang/String;Ljava/lang/String;)V"⟩ : MethodName) prog_32_method_1_code 5 none :: ws) ({ frames := 2, cells := 0, slots := 0, locals := 24 } : Room)) (fun aQ UQ => aQ = #[(.ref a1), (.int ng), (.ref dg), fr, ex] ∧ Z.Warmed39 UQ.vm ∧ UQ.heap = h0) (fun _ _ _ _ _ => True) (fun _ UQ oQ UR => ∃ vQ LQ, oQ = .returned vQ ∧ own_NIni Z a1 fr ex h0 n0 vQ UR.heap LQ ∧ FrameEnd UQ oQ UR LQ ({ frames := 2, cells := 0, slots := 0, locals := 24 } : Room).cells ({ frames := 2, cells := 0, slots := 0, locals := 24 } : Room).slots) := by
  refine MetFree.of_bodySF (plainFor_of_name pn_399) hisR ?_
  intro p e s m args below meth c s₁ Bd hml0 hP hK
  obtain ⟨rfl, hZ, hh⟩ := hP
  have hx := Bd.exec
  have hby := Bd.bytes
  have hml : c.maxLocals = 5 := hml0
  have hown : s.vm.findClass "com/example/rowstrata/rowstrata/type/Numeral" = some m.cls := findClass_of_methodNamed Bd.named
  have hnm := (name_of_methodNamed Bd.named Bd.method).1
  have X0 : Stand p l e ({ frames := 2, cells := 0, slots := 0, locals := 24 } : Room) s m #[(.ref a1), (.int ng), (.ref dg), fr, ex] below meth c s₁ [] 0 0 := Stand.of_body Bd
  have e0 : s₁.heap = h0 := by rw [← hh, Bd.state]; rfl
  have N0 := Fr.nil n0
  have pre0 : ∀ t, Steps p.tables e below (s₁.setTop (mkF m 0 #[.val (.ref a1), .val (.int ng), .val (.ref dg), .val fr, .val ex] [])) t → Steps p.tables e below (s₁.setTop (entryFrame m #[(.ref a1), (.int ng), (.ref dg), fr, ex] 5)) t := fun t kq => castTop (ef_rm_nin m a1 ng dg fr ex hfr hex) kq
  obtain ⟨_, _, ⟨T182, L182, k182, n182⟩, -, X182, ⟨Lc182, hQ182, l182, y182, z182⟩, st182⟩ := X0.specialBack hx (y := (⟨"java/lang/Record", "<init>", "()V"⟩ : MethodName)) rfl hown (mvT hZ (own_q hw 68 rfl)) (mvT hZ (own_q hw 69 rfl)) (mvT hZ (own_q hw 72 rfl)) (by decide) (backOf (W := 0) (rm_rec l Z a0 hw [] a1 h0 n0 Z0) hZ (own_q hw 72 rfl) (own_q hw 71 rfl) (by decide) (by decide)) (g := (mkF m 1 #[.val (.ref a1), .val (.int ng), .val (.ref dg), .val fr, .val ex] [(.ref a1)])) rfl (by rw [hml]; rfl) (Steps.refl _) (a := a1) (argsL := []) (rest := []) (lenOf pd_173 rfl) rfl (by show 2 * 0 + _ ≤ _; exact Nat.le_of_eq rfl) (hb hby d12_1) (fun _ _ => ⟨rfl, e0, (by decide : 0 + 0 ≤ _), (by decide : 0 + 0 ≤ _)⟩)
  dsimp only [Pt.U, Pt.locs, Pt.cells, Pt.slots] at X182 l182 y182 z182 st182 hQ182
  subst l182 y182 z182
  obtain ⟨rfl, N182q, e182⟩ := hQ182
  have N182 := Fr.app N0 N182q
  obtain ⟨T183, h183, X183, e183, W183, st183⟩ := putFN X182 hx hZ hown (own_q hw 74 rfl) Via.refl e182 F_negative E_a (Or.inr ⟨(own_q hw 75 rfl), rfl, hnm⟩) (own_q hw 64 rfl) (ty := .boolean) (v' := (.int ng)) (by decide) (own_narZ hng) (own_fitZ hng) (g := (mkF m 6 #[.val (.ref a1), .val (.int ng), .val (.ref dg), .val fr, .val ex] [(.int ng), (.ref a1)])) rfl rfl (hb hby d12_6)
  have KP183 := Keep.wr (Keep.refl h0 [a1]) W183 (Or.inl (List.mem_of_getElem? (i := 0) rfl))
  have Fw183 := F_negative.same W183
  have N183 := Fr.snoc X183 N182 gn_a
  have Fx184 := (E_a.wr W183)
  have Fx185 := (F_digits.other W183 (Or.inr (slot_ne (Or.inr (own_q hw 77 rfl)) (Or.inr (own_q hw 75 rfl)) (by decide) (t := (.object "java/lang/String")) (t' := .boolean) (by decide) (by decide))))
  obtain ⟨T186, h186, X186, e186, W186, st186⟩ := putF X183 hx hZ hown (host := "") (Or.inl (own_q hw 76 rfl)) Via.refl e183 Fx185 Fx184 (Or.inr ⟨(own_q hw 77 rfl), rfl, hnm⟩) (own_q hw 64 rfl) (ty := (.object "java/lang/String")) (by decide) rfl rfl (g := (mkF m 11 #[.val (.ref a1), .val (.int ng), .val (.ref dg), .val fr, .val ex] [(.ref dg), (.ref a1)])) rfl rfl (hb hby d12_11)
  have KP186 := Keep.wr KP183 W186 (Or.inl (List.mem_of_getElem? (i := 0) rfl))
  have Fw186 := Fx185.same W186
  have N186 := Fr.snoc X186 N183 gn_a
  have Fx187 := (Fx184.wr W186)
  have Fx188 := ((F_fraction.other W183 (Or.inr (slot_ne (Or.inr (own_q hw 79 rfl)) (Or.inr (own_q hw 75 rfl)) (by decide) (t := (.object "java/lang/String")) (t' := .boolean) (by decide) (by decide)))).other W186 (Or.inr (slot_ne (Or.inr (own_q hw 79 rfl)) (Or.inr (own_q hw 77 rfl)) (by decide) (t := (.object "java/lang/String")) (t' := (.object "java/lang/String")) (by decide) (by decide))))
  obtain ⟨T189, h189, X189, e189, W189, st189⟩ := putF X186 hx hZ hown (host := "") (Or.inl (own_q hw 78 rfl)) Via.refl e186 Fx188 Fx187 (Or.inr ⟨(own_q hw 79 rfl), rfl, hnm⟩) (own_q hw 64 rfl) (ty := (.object "java/lang/String")) (by decide) (own_narR hfr) (own_fitR hfr) (g := (mkF m 16 #[.val (.ref a1), .val (.int ng), .val (.ref dg), .val fr, .val ex] [fr, (.ref a1)])) rfl rfl (hb hby d12_16)
  have KP189 := Keep.wr KP186 W189 (Or.inl (List.mem_of_getElem? (i := 0) rfl))
  have Fw189 := Fx188.same W189
  have N189 := Fr.snoc X189 N186 gn_a
  have Fx190 := (Fx187.wr W189)
  have Fx191 := (((F_exponent.other W183 (Or.inr (slot_ne (Or.inr (own_q hw 81 rfl)) (Or.inr (own_q hw 75 rfl)) (by decide) (t := (.object "java/lang/String")) (t' := .boolean) (by decide) (by decide)))).other W186 (Or.inr (slot_ne (Or.inr (own_q hw 81 rfl)) (Or.inr (own_q hw 77 rfl)) (by decide) (t := (.object "java/lang/String")) (t' := (.object "java/lang/String")) (by decide) (by decide)))).other W189 (Or.inr (slot_ne (Or.inr (own_q hw 81 rfl)) (Or.inr (own_q hw 79 rfl)) (by decide) (t := (.object "java/lang/String")) (t' := (.object "java/lang/String")) (by decide) (by decide))))
  obtain ⟨T192, h192, X192, e192, W192, st192⟩ := putF X189 hx hZ hown (host := "") (Or.inl (own_q hw 80 rfl)) Via.refl e189 Fx191 Fx190 (Or.inr ⟨(own_q hw 81 rfl), rfl, hnm⟩) (own_q hw 64 rfl) (ty := (.object "java/lang/String")) (by decide) (own_narR hex) (own_fitR hex) (g := (mkF m 22 #[.val (.ref a1), .val (.int ng), .val (.ref dg), .val fr, .val ex] [ex, (.ref a1)])) rfl rfl (hb hby d12_22)
  have KP192 := Keep.wr KP189 W192 (Or.inl (List.mem_of_getElem? (i := 0) rfl))
  have Fw192 := Fx191.same W192
  have N192 := Fr.snoc X192 N189 gn_a
  have Fx193 := (Fx190.wr W192)
  have Fx194 := (Fw189.other W192 (Or.inr (slot_ne (Or.inr (own_q hw 79 rfl)) (Or.inr (own_q hw 81 rfl)) (by decide) (t := (.object "java/lang/String")) (t' := (.object "java/lang/String")) (by decide) (by decide))))
  obtain ⟨fs, hr, hrun, hended, hW, hsame⟩ := X192.leave (v := none) (fun _ => rfl)
  refine ⟨_, _, pre0 _ ?_, hrun, hended, _, _, rfl, ?_, ⟨_, rfl⟩, hW, hsame.mono (by decide) (by decide)⟩
  · refine XS.aloadN X0.here hx rfl (hb hby d12_0) rfl rfl ?_
    refine st182.trans ?_
    show Steps p.tables e below (T182.setTop (mkF m 4 #[.val (.ref a1), .val (.int ng), .val (.ref dg), .val fr, .val ex] [])) _
    refine XS.aloadN X182.here hx rfl (hb hby d12_4) rfl rfl ?_
    refine XS.iloadN X182.here hx rfl (hb hby d12_5) rfl ?_
    refine st183 _ ?_
    show Steps p.tables e below (T183.setTop (mkF m 9 #[.val (.ref a1), .val (.int ng), .val (.ref dg), .val fr, .val ex] [])) _
    refine XS.aloadN X183.here hx rfl (hb hby d12_9) rfl rfl ?_
    refine XS.aloadN X183.here hx rfl (hb hby d12_10) rfl rfl ?_
    refine st186 _ ?_
    show Steps p.tables e below (T186.setTop (mkF m 14 #[.val (.ref a1), .val (.int ng), .val (.ref dg), .val fr, .val ex] [])) _
    refine XS.aloadN X186.here hx rfl (hb hby d12_14) rfl rfl ?_
    refine XS.aloadN X186.here hx rfl (hb hby d12_15) rfl hfr ?_
    refine st189 _ ?_
    show Steps p.tables e below (T189.setTop (mkF m 19 #[.val (.ref a1), .val (.int ng), .val (.ref dg), .val fr, .val ex] [])) _
    refine XS.aloadN X189.here hx rfl (hb hby d12_19) rfl rfl ?_
    refine XS.aload X189.here hx rfl (hb hby d12_20) rfl hex ?_
    refine st192 _ ?_
    show Steps p.tables e below (T192.setTop (mkF m 25 #[.val (.ref a1), .val (.int ng), .val (.ref dg), .val fr, .val ex] [])) _
    exact X192.returnOut hx Bd.returns (hb hby d12_25) hr
  · show own_NIni Z a1 fr ex h0 n0 _ T192.heap _
    rw [e192]
    exact ⟨rfl, N192, KP192, Fx193, Fx194, Fw192⟩
theorem d14_0 : decode prog_32_method_5_code 0 = .ok (.aload_n 0, 1) := by decide +kernel
theorem d14_1 : decode prog_32_method_5_code 1 = .ok (.getfield 17, 3) := by decide +kernel
theorem d14_4 : decode prog_32_method_5_code 4 = .ok (.ifnonnull 14, 3) := by decide +kernel
theorem d14_7 : decode prog_32_method_5_code 7 = .ok (.aload_n 0, 1) := by decide +kernel
theorem d14_8 : decode prog_32_method_5_code 8 = .ok (.getfield 20, 3) := by decide +kernel
theorem d14_11 : decode prog_32_method_5_code 11 = .ok (.ifnonnull 7, 3) := by decide +kernel
theorem d14_14 : decode prog_32_method_5_code 14 = .ok (.iconst 1, 1) := by decide +kernel
theorem d14_15 : decode prog_32_method_5_code 15 = .ok (.goto 4, 3) := by decide +kernel
theorem d14_19 : decode prog_32_method_5_code 19 = .ok (.ireturn, 1) := by decide +kernel
theorem ef_rm_isw (m : MethodId) (x0 : Addr) : entryFrame m #[(.ref x0)] 1 = mkF m 0 #[.val (.ref x0)] [] := by first | (simp [entryFrame, mkF, argsToLocals, Value.category]; done) | rfl
set_option maxRecDepth 65536 in
set_option maxHeartbeats 40000000 in
theorem rm_isw (l : Launch) (Z : State) (a0 : Array Value) (hw : ∀ d ∈ tables_1, d.before a0 Z = true) (ws : List Jvm.Cond) (a1 : Addr) (h0 : Heap) (n0 : Nat) (Z0 : n0 ≤ h0.size) (F_f : Fld Z h0 a1 "com/example/rowstrata/rowstrata/type/Numeral" "fraction" "Ljava/lang/String;" .null) (F_e : Fld Z h0 a1 "com/example/rowstrata/rowstrata/type/Numeral" "exponent" "Ljava/lang/String;" .null) :
    MetFree l (⟨"com/example/rowstrata/rowstrata/type/Numeral", "isWhole", "()Z"⟩ : MethodName) (head1 (Jvm.Cond.code (⟨"com/example/rowstrata/rowstrata/type/Numeral", "isWhole", "()Z"⟩ : MethodName) prog_32_method_5_code 1 (some .boolean) :: ws) ({ frames := 0, cells := 0, slots := 0, locals := 0 } : Room)) (fun aQ UQ => aQ = #[(.ref a1)] ∧ Z.Warmed39 UQ.vm ∧ UQ.heap = h0) (fun _ _ _ _ _ => True) (fun _ UQ oQ UR => ∃ vQ LQ, oQ = .returned vQ ∧ own_Pure (some (.int 1)) h0 n0 vQ UR.heap LQ ∧ FrameEnd UQ oQ UR LQ ({ frames := 0, cells := 0, slots := 0, locals := 0 } : Room).cells ({ frames := 0, cells := 0, slots := 0, locals := 0 } : Room).slots) := by
  refine MetFree.of_bodySF (plainFor_of_name pn_399) hisR ?_
  intro p e s m args below meth c s₁ Bd hml0 hP hK
  obtain ⟨rfl, hZ, hh⟩ := hP
  have hx := Bd.exec
  have hby := Bd.bytes
  have hml : c.maxLocals = 1 := hml0
  have hown : s.vm.findClass "com/example/rowstrata/rowstrata/type/Numeral" = some m.cls := findClass_of_methodNamed Bd.named
  have hnm := (name_of_methodNamed Bd.named Bd.method).1
  have X0 : Stand p l e ({ frames := 0, cells := 0, slots := 0, locals := 0 } : Room) s m #[(.ref a1)] below meth c s₁ [] 0 0 := Stand.of_body Bd
  have e0 : s₁.heap = h0 := by rw [← hh, Bd.state]; rfl
  have N0 := Fr.nil n0
  have pre0 : ∀ t, Steps p.tables e below (s₁.setTop (mkF m 0 #[.val (.ref a1)] [])) t → Steps p.tables e below (s₁.setTop (entryFrame m #[(.ref a1)] 1)) t := fun t kq => castTop (ef_rm_isw m a1) kq
  obtain ⟨T195, X195, e195, st195⟩ := getF X0 hx hZ hown (host := "") (Or.inl (own_q hw 78 rfl)) Via.refl e0 F_f (g := (mkF m 1 #[.val (.ref a1)] [(.ref a1)])) rfl rfl (hb hby d14_1)
  obtain ⟨T196, X196, e196, st196⟩ := getF X195 hx hZ hown (host := "") (Or.inl (own_q hw 80 rfl)) Via.refl e195 F_e (g := (mkF m 8 #[.val (.ref a1)] [(.ref a1)])) rfl rfl (hb hby d14_8)
  obtain ⟨fs, hr, hrun, hended, hW, hsame⟩ := X196.leave (v := some (.int (1 : Int32))) (fun h => by rw [Bd.returns] at h; cases h)
  refine ⟨_, _, pre0 _ ?_, hrun, hended, _, _, rfl, ?_, ⟨_, rfl⟩, hW, hsame.mono (by decide) (by decide)⟩
  · refine XS.aloadN X0.here hx rfl (hb hby d14_0) rfl rfl ?_
    refine st195 _ ?_
    show Steps p.tables e below (T195.setTop (mkF m 4 #[.val (.ref a1)] [.null])) _
    refine XS.ifnonnullNo X195.here hx rfl (hb hby d14_4) rfl ?_
    refine XS.aloadN X195.here hx rfl (hb hby d14_7) rfl rfl ?_
    refine st196 _ ?_
    show Steps p.tables e below (T196.setTop (mkF m 11 #[.val (.ref a1)] [.null])) _
    refine XS.ifnonnullNo X196.here hx rfl (hb hby d14_11) rfl ?_
    refine XS.iconst X196.here hx rfl (hb hby d14_14) ?_
    refine XS.goto X196.here hx rfl (pc0 := 15) (pc' := 19) rfl (hb hby d14_15) (by decide) (by decide) ?_
    exact retN X196 hx (t := .boolean) Bd.returns (by simp) (hb hby d14_19) hr
  · show own_Pure (some (.int 1)) h0 n0 _ T196.heap _
    rw [e196]
    exact ⟨rfl, N0, rfl⟩
theorem d14_18 : decode prog_32_method_5_code 18 = .ok (.iconst 0, 1) := by decide +kernel
theorem ef_rm_iswE (m : MethodId) (x0 : Addr) : entryFrame m #[(.ref x0)] 1 = mkF m 0 #[.val (.ref x0)] [] := by first | (simp [entryFrame, mkF, argsToLocals, Value.category]; done) | rfl
set_option maxRecDepth 65536 in
set_option maxHeartbeats 40000000 in
theorem rm_iswE (l : Launch) (Z : State) (a0 : Array Value) (hw : ∀ d ∈ tables_1, d.before a0 Z = true) (ws : List Jvm.Cond) (a1 : Addr) (h0 : Heap) (n0 : Nat) (Z0 : n0 ≤ h0.size) (ex : Addr) (F_f : Fld Z h0 a1 "com/example/rowstrata/rowstrata/type/Numeral" "fraction" "Ljava/lang/String;" .null) (F_e : Fld Z h0 a1 "com/example/rowstrata/rowstrata/type/Numeral" "exponent" "Ljava/lang/String;" (.ref ex)) :
    MetFree l (⟨"com/example/rowstrata/rowstrata/type/Numeral", "isWhole", "()Z"⟩ : MethodName) (head1 (Jvm.Cond.code (⟨"com/example/rowstrata/rowstrata/type/Numeral", "isWhole", "()Z"⟩ : MethodName) prog_32_method_5_code 1 (some .boolean) :: ws) ({ frames := 0, cells := 0, slots := 0, locals := 0 } : Room)) (fun aQ UQ => aQ = #[(.ref a1)] ∧ Z.Warmed39 UQ.vm ∧ UQ.heap = h0) (fun _ _ _ _ _ => True) (fun _ UQ oQ UR => ∃ vQ LQ, oQ = .returned vQ ∧ own_Pure (some (.int 0)) h0 n0 vQ UR.heap LQ ∧ FrameEnd UQ oQ UR LQ ({ frames := 0, cells := 0, slots := 0, locals := 0 } : Room).cells ({ frames := 0, cells := 0, slots := 0, locals := 0 } : Room).slots) := by
  refine MetFree.of_bodySF (plainFor_of_name pn_399) hisR ?_
  intro p e s m args below meth c s₁ Bd hml0 hP hK
  obtain ⟨rfl, hZ, hh⟩ := hP
  have hx := Bd.exec
  have hby := Bd.bytes
  have hml : c.maxLocals = 1 := hml0
  have hown : s.vm.findClass "com/example/rowstrata/rowstrata/type/Numeral" = some m.cls := findClass_of_methodNamed Bd.named
  have hnm := (name_of_methodNamed Bd.named Bd.method).1
  have X0 : Stand p l e ({ frames := 0, cells := 0, slots := 0, locals := 0 } : Room) s m #[(.ref a1)] below meth c s₁ [] 0 0 := Stand.of_body Bd
  have e0 : s₁.heap = h0 := by rw [← hh, Bd.state]; rfl
  have N0 := Fr.nil n0
  have pre0 : ∀ t, Steps p.tables e below (s₁.setTop (mkF m 0 #[.val (.ref a1)] [])) t → Steps p.tables e below (s₁.setTop (entryFrame m #[(.ref a1)] 1)) t := fun t kq => castTop (ef_rm_iswE m a1) kq
  obtain ⟨T197, X197, e197, st197⟩ := getF X0 hx hZ hown (host := "") (Or.inl (own_q hw 78 rfl)) Via.refl e0 F_f (g := (mkF m 1 #[.val (.ref a1)] [(.ref a1)])) rfl rfl (hb hby d14_1)
  obtain ⟨T198, X198, e198, st198⟩ := getF X197 hx hZ hown (host := "") (Or.inl (own_q hw 80 rfl)) Via.refl e197 F_e (g := (mkF m 8 #[.val (.ref a1)] [(.ref a1)])) rfl rfl (hb hby d14_8)
  obtain ⟨fs, hr, hrun, hended, hW, hsame⟩ := X198.leave (v := some (.int (0 : Int32))) (fun h => by rw [Bd.returns] at h; cases h)
  refine ⟨_, _, pre0 _ ?_, hrun, hended, _, _, rfl, ?_, ⟨_, rfl⟩, hW, hsame.mono (by decide) (by decide)⟩
  · refine XS.aloadN X0.here hx rfl (hb hby d14_0) rfl rfl ?_
    refine st197 _ ?_
    show Steps p.tables e below (T197.setTop (mkF m 4 #[.val (.ref a1)] [.null])) _
    refine XS.ifnonnullNo X197.here hx rfl (hb hby d14_4) rfl ?_
    refine XS.aloadN X197.here hx rfl (hb hby d14_7) rfl rfl ?_
    refine st198 _ ?_
    show Steps p.tables e below (T198.setTop (mkF m 11 #[.val (.ref a1)] [(.ref ex)])) _
    refine XS.ifnonnullYes X198.here hx rfl (pc0 := 11) (pc' := 18) rfl (hb hby d14_11) rfl (by decide) (by decide) ?_
    refine XS.iconst X198.here hx rfl (hb hby d14_18) ?_
    exact retN X198 hx (t := .boolean) Bd.returns (by simp) (hb hby d14_19) hr
  · show own_Pure (some (.int 0)) h0 n0 _ T198.heap _
    rw [e198]
    exact ⟨rfl, N0, rfl⟩
theorem ef_rm_iswF (m : MethodId) (x0 : Addr) : entryFrame m #[(.ref x0)] 1 = mkF m 0 #[.val (.ref x0)] [] := by first | (simp [entryFrame, mkF, argsToLocals, Value.category]; done) | rfl
set_option maxRecDepth 65536 in
set_option maxHeartbeats 40000000 in
theorem rm_iswF (l : Launch) (Z : State) (a0 : Array Value) (hw : ∀ d ∈ tables_1, d.before a0 Z = true) (ws : List Jvm.Cond) (a1 : Addr) (h0 : Heap) (n0 : Nat) (Z0 : n0 ≤ h0.size) (fr : Addr) (F_f : Fld Z h0 a1 "com/example/rowstrata/rowstrata/type/Numeral" "fraction" "Ljava/lang/String;" (.ref fr)) (F_e : Fld Z h0 a1 "com/example/rowstrata/rowstrata/type/Numeral" "exponent" "Ljava/lang/String;" .null) :
    MetFree l (⟨"com/example/rowstrata/rowstrata/type/Numeral", "isWhole", "()Z"⟩ : MethodName) (head1 (Jvm.Cond.code (⟨"com/example/rowstrata/rowstrata/type/Numeral", "isWhole", "()Z"⟩ : MethodName) prog_32_method_5_code 1 (some .boolean) :: ws) ({ frames := 0, cells := 0, slots := 0, locals := 0 } : Room)) (fun aQ UQ => aQ = #[(.ref a1)] ∧ Z.Warmed39 UQ.vm ∧ UQ.heap = h0) (fun _ _ _ _ _ => True) (fun _ UQ oQ UR => ∃ vQ LQ, oQ = .returned vQ ∧ own_Pure (some (.int 0)) h0 n0 vQ UR.heap LQ ∧ FrameEnd UQ oQ UR LQ ({ frames := 0, cells := 0, slots := 0, locals := 0 } : Room).cells ({ frames := 0, cells := 0, slots := 0, locals := 0 } : Room).slots) := by
  refine MetFree.of_bodySF (plainFor_of_name pn_399) hisR ?_
  intro p e s m args below meth c s₁ Bd hml0 hP hK
  obtain ⟨rfl, hZ, hh⟩ := hP
  have hx := Bd.exec
  have hby := Bd.bytes
  have hml : c.maxLocals = 1 := hml0
  have hown : s.vm.findClass "com/example/rowstrata/rowstrata/type/Numeral" = some m.cls := findClass_of_methodNamed Bd.named
  have hnm := (name_of_methodNamed Bd.named Bd.method).1
  have X0 : Stand p l e ({ frames := 0, cells := 0, slots := 0, locals := 0 } : Room) s m #[(.ref a1)] below meth c s₁ [] 0 0 := Stand.of_body Bd
  have e0 : s₁.heap = h0 := by rw [← hh, Bd.state]; rfl
  have N0 := Fr.nil n0
  have pre0 : ∀ t, Steps p.tables e below (s₁.setTop (mkF m 0 #[.val (.ref a1)] [])) t → Steps p.tables e below (s₁.setTop (entryFrame m #[(.ref a1)] 1)) t := fun t kq => castTop (ef_rm_iswF m a1) kq
  obtain ⟨T199, X199, e199, st199⟩ := getF X0 hx hZ hown (host := "") (Or.inl (own_q hw 78 rfl)) Via.refl e0 F_f (g := (mkF m 1 #[.val (.ref a1)] [(.ref a1)])) rfl rfl (hb hby d14_1)
  obtain ⟨fs, hr, hrun, hended, hW, hsame⟩ := X199.leave (v := some (.int (0 : Int32))) (fun h => by rw [Bd.returns] at h; cases h)
  refine ⟨_, _, pre0 _ ?_, hrun, hended, _, _, rfl, ?_, ⟨_, rfl⟩, hW, hsame.mono (by decide) (by decide)⟩
  · refine XS.aloadN X0.here hx rfl (hb hby d14_0) rfl rfl ?_
    refine st199 _ ?_
    show Steps p.tables e below (T199.setTop (mkF m 4 #[.val (.ref a1)] [(.ref fr)])) _
    refine XS.ifnonnullYes X199.here hx rfl (pc0 := 4) (pc' := 18) rfl (hb hby d14_4) rfl (by decide) (by decide) ?_
    refine XS.iconst X199.here hx rfl (hb hby d14_18) ?_
    exact retN X199 hx (t := .boolean) Bd.returns (by simp) (hb hby d14_19) hr
  · show own_Pure (some (.int 0)) h0 n0 _ T199.heap _
    rw [e199]
    exact ⟨rfl, N0, rfl⟩
theorem ef_rm_iswFE (m : MethodId) (x0 : Addr) : entryFrame m #[(.ref x0)] 1 = mkF m 0 #[.val (.ref x0)] [] := by first | (simp [entryFrame, mkF, argsToLocals, Value.category]; done) | rfl
set_option maxRecDepth 65536 in
set_option maxHeartbeats 40000000 in
theorem rm_iswFE (l : Launch) (Z : State) (a0 : Array Value) (hw : ∀ d ∈ tables_1, d.before a0 Z = true) (ws : List Jvm.Cond) (a1 : Addr) (h0 : Heap) (n0 : Nat) (Z0 : n0 ≤ h0.size) (fr ex : Addr) (F_f : Fld Z h0 a1 "com/example/rowstrata/rowstrata/type/Numeral" "fraction" "Ljava/lang/String;" (.ref fr)) (F_e : Fld Z h0 a1 "com/example/rowstrata/rowstrata/type/Numeral" "exponent" "Ljava/lang/String;" (.ref ex)) :
    MetFree l (⟨"com/example/rowstrata/rowstrata/type/Numeral", "isWhole", "()Z"⟩ : MethodName) (head1 (Jvm.Cond.code (⟨"com/example/rowstrata/rowstrata/type/Numeral", "isWhole", "()Z"⟩ : MethodName) prog_32_method_5_code 1 (some .boolean) :: ws) ({ frames := 0, cells := 0, slots := 0, locals := 0 } : Room)) (fun aQ UQ => aQ = #[(.ref a1)] ∧ Z.Warmed39 UQ.vm ∧ UQ.heap = h0) (fun _ _ _ _ _ => True) (fun _ UQ oQ UR => ∃ vQ LQ, oQ = .returned vQ ∧ own_Pure (some (.int 0)) h0 n0 vQ UR.heap LQ ∧ FrameEnd UQ oQ UR LQ ({ frames := 0, cells := 0, slots := 0, locals := 0 } : Room).cells ({ frames := 0, cells := 0, slots := 0, locals := 0 } : Room).slots) := by
  refine MetFree.of_bodySF (plainFor_of_name pn_399) hisR ?_
  intro p e s m args below meth c s₁ Bd hml0 hP hK
  obtain ⟨rfl, hZ, hh⟩ := hP
  have hx := Bd.exec
  have hby := Bd.bytes
  have hml : c.maxLocals = 1 := hml0
  have hown : s.vm.findClass "com/example/rowstrata/rowstrata/type/Numeral" = some m.cls := findClass_of_methodNamed Bd.named
  have hnm := (name_of_methodNamed Bd.named Bd.method).1
  have X0 : Stand p l e ({ frames := 0, cells := 0, slots := 0, locals := 0 } : Room) s m #[(.ref a1)] below meth c s₁ [] 0 0 := Stand.of_body Bd
  have e0 : s₁.heap = h0 := by rw [← hh, Bd.state]; rfl
  have N0 := Fr.nil n0
  have pre0 : ∀ t, Steps p.tables e below (s₁.setTop (mkF m 0 #[.val (.ref a1)] [])) t → Steps p.tables e below (s₁.setTop (entryFrame m #[(.ref a1)] 1)) t := fun t kq => castTop (ef_rm_iswFE m a1) kq
  obtain ⟨T200, X200, e200, st200⟩ := getF X0 hx hZ hown (host := "") (Or.inl (own_q hw 78 rfl)) Via.refl e0 F_f (g := (mkF m 1 #[.val (.ref a1)] [(.ref a1)])) rfl rfl (hb hby d14_1)
  obtain ⟨fs, hr, hrun, hended, hW, hsame⟩ := X200.leave (v := some (.int (0 : Int32))) (fun h => by rw [Bd.returns] at h; cases h)
  refine ⟨_, _, pre0 _ ?_, hrun, hended, _, _, rfl, ?_, ⟨_, rfl⟩, hW, hsame.mono (by decide) (by decide)⟩
  · refine XS.aloadN X0.here hx rfl (hb hby d14_0) rfl rfl ?_
    refine st200 _ ?_
    show Steps p.tables e below (T200.setTop (mkF m 4 #[.val (.ref a1)] [(.ref fr)])) _
    refine XS.ifnonnullYes X200.here hx rfl (pc0 := 4) (pc' := 18) rfl (hb hby d14_4) rfl (by decide) (by decide) ?_
    refine XS.iconst X200.here hx rfl (hb hby d14_18) ?_
    exact retN X200 hx (t := .boolean) Bd.returns (by simp) (hb hby d14_19) hr
  · show own_Pure (some (.int 0)) h0 n0 _ T200.heap _
    rw [e200]
    exact ⟨rfl, N0, rfl⟩
theorem d10_0 : decode prog_32_method_3_code 0 = .ok (.aload_n 0, 1) := by decide +kernel
theorem d10_1 : decode prog_32_method_3_code 1 = .ok (.iconst 0, 1) := by decide +kernel
theorem pd_412 : parseMethodDescriptor "(Ljava/lang/CharSequence;I)Lcom/example/rowstrata/rowstrata/type/Numeral$Bounds;" = some ⟨[(.object "java/lang/CharSequence"), .int], some (.object "com/example/rowstrata/rowstrata/type/Numeral$Bounds")⟩ := by decide +kernel
theorem d10_2 : decode prog_32_method_3_code 2 = .ok (.invokestatic 23, 3) := by decide +kernel
theorem d10_5 : decode prog_32_method_3_code 5 = .ok (.astore_n 1, 1) := by decide +kernel
theorem d10_6 : decode prog_32_method_3_code 6 = .ok (.aload_n 1, 1) := by decide +kernel
theorem d10_7 : decode prog_32_method_3_code 7 = .ok (.ifnull 29, 3) := by decide +kernel
theorem d10_36 : decode prog_32_method_3_code 36 = .ok (.iconst 0, 1) := by decide +kernel
theorem d10_37 : decode prog_32_method_3_code 37 = .ok (.ireturn, 1) := by decide +kernel
theorem d10_10 : decode prog_32_method_3_code 10 = .ok (.aload_n 1, 1) := by decide +kernel
theorem d10_11 : decode prog_32_method_3_code 11 = .ok (.getfield 29, 3) := by decide +kernel
theorem d10_14 : decode prog_32_method_3_code 14 = .ok (.aload_n 0, 1) := by decide +kernel
theorem d10_15 : decode prog_32_method_3_code 15 = .ok (.invokevirtual 33, 3) := by decide +kernel
theorem d10_18 : decode prog_32_method_3_code 18 = .ok (.if_icmp .ne 18, 3) := by decide +kernel
theorem d10_21 : decode prog_32_method_3_code 21 = .ok (.aload_n 1, 1) := by decide +kernel
theorem d10_22 : decode prog_32_method_3_code 22 = .ok (.getfield 29, 3) := by decide +kernel
theorem d10_25 : decode prog_32_method_3_code 25 = .ok (.aload_n 1, 1) := by decide +kernel
theorem d10_26 : decode prog_32_method_3_code 26 = .ok (.getfield 42, 3) := by decide +kernel
theorem d10_29 : decode prog_32_method_3_code 29 = .ok (.if_icmp .ne 7, 3) := by decide +kernel
theorem d10_32 : decode prog_32_method_3_code 32 = .ok (.iconst 1, 1) := by decide +kernel
theorem d10_33 : decode prog_32_method_3_code 33 = .ok (.goto 4, 3) := by decide +kernel
theorem ef_rm_iwn (m : MethodId) (x0 : Addr) : entryFrame m #[(.ref x0)] 2 = mkF m 0 #[.val (.ref x0), .unset] [] := by first | (simp [entryFrame, mkF, argsToLocals, Value.category]; done) | rfl
set_option maxRecDepth 65536 in
set_option maxHeartbeats 40000000 in
theorem rm_iwn (l : Launch) (Z : State) (a0 : Array Value) (hw : ∀ d ∈ tables_1, d.before a0 Z = true) (ws : List Jvm.Cond) (a1 : Addr) (h0 : Heap) (n0 : Nat) (Z0 : n0 ≤ h0.size) (vb : Addr) (kb : ClassId) (z : Int32) (ch : Nat → Int32) (cst : Int32) (fmt : Value) (hS : own_S Z h0 a1 vb kb z ch) (hT : own_T Z h0 cst fmt) (hz0 : 0 ≤ z.toInt) :
    MetFree l (⟨"com/example/rowstrata/rowstrata/type/Numeral", "isWholeNumber", "(Ljava/lang/String;)Z"⟩ : MethodName) (head1 (Jvm.Cond.code (⟨"com/example/rowstrata/rowstrata/type/Numeral", "isWholeNumber", "(Ljava/lang/String;)Z"⟩ : MethodName) prog_32_method_3_code 2 (some .boolean) :: ws) ({ frames := 7, cells := 1, slots := 4, locals := 103 } : Room)) (fun aQ UQ => aQ = #[(.ref a1)] ∧ Z.Warmed39 UQ.vm ∧ UQ.heap = h0) (fun _ _ _ _ _ => True) (fun _ UQ oQ UR => ∃ vQ LQ, oQ = .returned vQ ∧ own_WN (¬ own_nul ch z.toNatClampNeg ∧ own_e ch z.toNatClampNeg = z.toNatClampNeg ∧ own_e ch z.toNatClampNeg = own_d ch z.toNatClampNeg) h0 n0 vQ UR.heap LQ ∧ FrameEnd UQ oQ UR LQ ({ frames := 7, cells := 1, slots := 4, locals := 103 } : Room).cells ({ frames := 7, cells := 1, slots := 4, locals := 103 } : Room).slots) := by
  refine MetFree.of_bodySF (plainFor_of_name pn_399) hisR ?_
  intro p e s m args below meth c s₁ Bd hml0 hP hK
  obtain ⟨rfl, hZ, hh⟩ := hP
  have hx := Bd.exec
  have hby := Bd.bytes
  have hml : c.maxLocals = 2 := hml0
  have hown : s.vm.findClass "com/example/rowstrata/rowstrata/type/Numeral" = some m.cls := findClass_of_methodNamed Bd.named
  have hnm := (name_of_methodNamed Bd.named Bd.method).1
  have X0 : Stand p l e ({ frames := 7, cells := 1, slots := 4, locals := 103 } : Room) s m #[(.ref a1)] below meth c s₁ [] 0 0 := Stand.of_body Bd
  have e0 : s₁.heap = h0 := by rw [← hh, Bd.state]; rfl
  have N0 := Fr.nil n0
  have pre0 : ∀ t, Steps p.tables e below (s₁.setTop (mkF m 0 #[.val (.ref a1), .unset] [])) t → Steps p.tables e below (s₁.setTop (entryFrame m #[(.ref a1)] 2)) t := fun t kq => castTop (ef_rm_iwn m a1) kq
  obtain ⟨E_a, F_v, F_c, B_v, hch⟩ := id hS
  obtain ⟨S_c, hcst, S_f, hfm⟩ := id hT
  obtain ⟨_, _, ⟨T201, L201, k201, n201⟩, -, X201, ⟨Lc201, hQ201, l201, y201, z201⟩, st201⟩ := Jvm.LawKit.callS X0 hx (y := (⟨"com/example/rowstrata/rowstrata/type/Numeral$Bounds", "of", "(Ljava/lang/CharSequence;I)Lcom/example/rowstrata/rowstrata/type/Numeral$Bounds;"⟩ : MethodName)) hown (mvT hZ (own_q hw 42 rfl)) (mvT hZ (own_q hw 43 rfl)) (mvT hZ (own_q hw 44 rfl)) (mvT hZ (own_q hw 45 rfl)) (by decide) (backOf (W := 0) (rm_bo l Z a0 hw [] a1 h0 n0 Z0 vb kb z ch cst fmt hS hT hz0) hZ (own_q hw 45 rfl) (own_q hw 44 rfl) (by decide) (by decide)) (g := (mkF m 2 #[.val (.ref a1), .unset] [(.int (0 : Int32)), (.ref a1)])) rfl (by rw [hml]; rfl) (argsL := [(.ref a1), (.int (0 : Int32))]) (rest := []) (lenOf pd_412 rfl) rfl (by show 2 * 0 + _ ≤ _; exact Nat.le_of_eq rfl) (hb hby d10_2) (fun _ _ => ⟨rfl, e0, (by decide : 0 + 1 ≤ _), (by decide : 0 + 4 ≤ _)⟩)
  dsimp only [Pt.U, Pt.locs, Pt.cells, Pt.slots] at X201 l201 y201 z201 st201 hQ201
  subst l201 y201 z201
  obtain ⟨N201q, E201, hB⟩ := hQ201
  have N201 := Fr.app N0 N201q
  have e201 : T201.heap = T201.heap := rfl
  have EX201 := own_ext_trans (own_ext_refl h0) E201
  have KP201 := Keep.ext (Keep.refl h0 []) E201
  rcases hB with ⟨hnul, rfl⟩ | ⟨hnul, bo, bs, bd, bf, be, rfl, F_s, F_d, F_f, F_e, hbs, hbd, hbf, hbe⟩
  · -- bounds: null
    obtain ⟨fs, hr, hrun, hended, hW, hsame⟩ := X201.leave (v := some (.int (0 : Int32))) (fun h => by rw [Bd.returns] at h; cases h)
    refine ⟨_, _, pre0 _ ?_, hrun, hended, _, _, rfl, ?_, ⟨_, rfl⟩, hW, hsame.mono (by decide) (by decide)⟩
    · refine XS.aloadN X0.here hx rfl (hb hby d10_0) rfl rfl ?_
      refine XS.iconst X0.here hx rfl (hb hby d10_1) ?_
      refine st201 _ ?_
      show Steps p.tables e below (T201.setTop (mkF m 5 #[.val (.ref a1), .unset] [.null])) _
      refine XS.astoreN X201.here hx rfl (hb hby d10_5) rfl rfl (l' := #[.val (.ref a1), .val .null]) rfl ?_
      refine XS.aloadN X201.here hx rfl (hb hby d10_6) rfl rfl ?_
      refine XS.ifnullYes X201.here hx rfl (pc0 := 7) (pc' := 36) rfl (hb hby d10_7) rfl (by decide) (by decide) ?_
      refine XS.iconst X201.here hx rfl (hb hby d10_36) ?_
      exact retN X201 hx (t := .boolean) Bd.returns (by simp) (hb hby d10_37) hr
    · show own_WN (¬ own_nul ch z.toNatClampNeg ∧ own_e ch z.toNatClampNeg = z.toNatClampNeg ∧ own_e ch z.toNatClampNeg = own_d ch z.toNatClampNeg) h0 n0 _ T201.heap _
      exact ⟨_, rfl, N201, EX201, Or.inr ⟨rfl, fun q => q.1 hnul⟩⟩
  · -- bounds: an object
    have hord := own_order ch z.toNatClampNeg
    have t_z := own_tn hz0
    obtain ⟨cq202, kq202, q202a, q202b, q202c⟩ := isOf hZ e201 ((E_a.ext EX201))
    obtain ⟨_, _, ⟨T202, L202, k202, n202⟩, -, X202, ⟨Lc202, hQ202, l202, y202, z202⟩, st202⟩ := X201.virtualBack hx (y := (⟨"java/lang/String", "length", "()I"⟩ : MethodName)) (z := (⟨"java/lang/String", "length", "()I"⟩ : MethodName)) hown (mvT hZ (own_q hw 149 rfl)) (mvT hZ (own_q hw 28 rfl)) (notFace_of_selects (args := #[]) (mvT hZ (own_q hw 30 rfl))) (mvT hZ (own_q hw 30 rfl)) (mvT hZ (own_q hw 29 rfl)) (by decide) (backOf (W := 1) (rm_len l Z a0 hw [] a1 T201.heap n0 (Nat.le_trans Z0 EX201.1) vb kb z ch cst fmt (hS.ext EX201) (hT.ext EX201)) hZ (own_q hw 31 rfl) (own_q hw 4 rfl) (by decide) (by decide)) q202a q202c (g := (mkF m 15 #[.val (.ref a1), .val (.ref bo)] [(.ref a1), (.int be)])) rfl (by rw [hml]; rfl) (Steps.refl _) (argsL := []) (rest := [(.int be)]) (lenOf pd_63 rfl) rfl (by show 2 * 0 + _ ≤ _; exact Nat.le_of_eq rfl) (hb hby d10_15) (fun _ _ => ⟨rfl, e201, (by decide : 1 + 0 ≤ _), (by decide : 4 + 0 ≤ _)⟩)
    dsimp only [Pt.U, Pt.locs, Pt.cells, Pt.slots] at X202 l202 y202 z202 st202 hQ202
    subst l202 y202 z202
    obtain ⟨rfl, N202q, e202⟩ := hQ202
    have N202 := Fr.app N201 N202q
    have ck204 : ∀ t, Steps p.tables e below (T202.setTop (mkF m 18 #[.val (.ref a1), .val (.ref bo)] [(.int z), (.int be)])) t → Steps p.tables e below (s₁.setTop (entryFrame m #[(.ref a1)] 2)) t := by
      intro t kt
      refine pre0 _ ?_
      refine XS.aloadN X0.here hx rfl (hb hby d10_0) rfl rfl ?_
      refine XS.iconst X0.here hx rfl (hb hby d10_1) ?_
      refine st201 _ ?_
      show Steps p.tables e below (T201.setTop (mkF m 5 #[.val (.ref a1), .unset] [(.ref bo)])) _
      refine XS.astoreN X201.here hx rfl (hb hby d10_5) rfl rfl (l' := #[.val (.ref a1), .val (.ref bo)]) rfl ?_
      refine XS.aloadN X201.here hx rfl (hb hby d10_6) rfl rfl ?_
      refine XS.ifnullNo X201.here hx rfl (hb hby d10_7) rfl ?_
      refine XS.aloadN X201.here hx rfl (hb hby d10_10) rfl rfl ?_
      refine own_getFR X201 hx hZ hown (own_q hw 148 rfl) e201 F_e (g := (mkF m 11 #[.val (.ref a1), .val (.ref bo)] [(.ref bo)])) rfl rfl (hb hby d10_11) _ ?_
      show Steps p.tables e below (T201.setTop (mkF m 14 #[.val (.ref a1), .val (.ref bo)] [(.int be)])) _
      refine XS.aloadN X201.here hx rfl (hb hby d10_14) rfl rfl ?_
      refine st202.trans ?_
      exact kt
    (try clear N202q); (try clear st202); (try clear Lc202); (try clear n202); (try clear k202); (try clear L202); (try clear q202c); (try clear q202b); (try clear q202a); (try clear kq202); (try clear cq202)
    by_cases hc18_203 : be = z
    · -- pc 18: yes
      have ck206 : ∀ t, Steps p.tables e below (T202.setTop (mkF m 29 #[.val (.ref a1), .val (.ref bo)] [(.int bd), (.int be)])) t → Steps p.tables e below (s₁.setTop (entryFrame m #[(.ref a1)] 2)) t := by
        intro t kt
        refine ck204 _ ?_
        refine XS.icmpNo X202.here hx rfl (hb hby d10_18) rfl (teq hc18_203).2 ?_
        refine XS.aloadN X202.here hx rfl (hb hby d10_21) rfl rfl ?_
        refine own_getFR X202 hx hZ hown (own_q hw 148 rfl) e202 F_e (g := (mkF m 22 #[.val (.ref a1), .val (.ref bo)] [(.ref bo)])) rfl rfl (hb hby d10_22) _ ?_
        show Steps p.tables e below (T202.setTop (mkF m 25 #[.val (.ref a1), .val (.ref bo)] [(.int be)])) _
        refine XS.aloadN X202.here hx rfl (hb hby d10_25) rfl rfl ?_
        refine own_getFR X202 hx hZ hown (own_q hw 151 rfl) e202 F_d (g := (mkF m 26 #[.val (.ref a1), .val (.ref bo)] [(.ref bo), (.int be)])) rfl rfl (hb hby d10_26) _ ?_
        exact kt
      by_cases hc29_205 : be = bd
      · -- pc 29: yes
        have hez := congrArg Int32.toInt hc18_203
        have hed := congrArg Int32.toInt hc29_205
        obtain ⟨fs, hr, hrun, hended, hW, hsame⟩ := X202.leave (v := some (.int (1 : Int32))) (fun h => by rw [Bd.returns] at h; cases h)
        refine ⟨_, _, ck206 _ ?_, hrun, hended, _, _, rfl, ?_, ⟨_, rfl⟩, hW, hsame.mono (by decide) (by decide)⟩
        · refine XS.icmpNo X202.here hx rfl (hb hby d10_29) rfl (teq hc29_205).2 ?_
          refine XS.iconst X202.here hx rfl (hb hby d10_32) ?_
          refine XS.goto X202.here hx rfl (pc0 := 33) (pc' := 37) rfl (hb hby d10_33) (by decide) (by decide) ?_
          exact retN X202 hx (t := .boolean) Bd.returns (by simp) (hb hby d10_37) hr
        · show own_WN (¬ own_nul ch z.toNatClampNeg ∧ own_e ch z.toNatClampNeg = z.toNatClampNeg ∧ own_e ch z.toNatClampNeg = own_d ch z.toNatClampNeg) h0 n0 _ T202.heap _
          rw [e202]
          exact ⟨_, rfl, N202, EX201, Or.inl ⟨rfl, hnul, by omega, by omega⟩⟩
      · -- pc 29: no
        have hez := congrArg Int32.toInt hc18_203
        have hed := (fun q => hc29_205 (Int32.toInt_inj.mp q) : ¬ be.toInt = bd.toInt)
        obtain ⟨fs, hr, hrun, hended, hW, hsame⟩ := X202.leave (v := some (.int (0 : Int32))) (fun h => by rw [Bd.returns] at h; cases h)
        refine ⟨_, _, ck206 _ ?_, hrun, hended, _, _, rfl, ?_, ⟨_, rfl⟩, hW, hsame.mono (by decide) (by decide)⟩
        · refine XS.icmpYes X202.here hx rfl (pc0 := 29) (pc' := 36) rfl (hb hby d10_29) rfl (feq hc29_205).2 (by decide) (by decide) ?_
          refine XS.iconst X202.here hx rfl (hb hby d10_36) ?_
          exact retN X202 hx (t := .boolean) Bd.returns (by simp) (hb hby d10_37) hr
        · show own_WN (¬ own_nul ch z.toNatClampNeg ∧ own_e ch z.toNatClampNeg = z.toNatClampNeg ∧ own_e ch z.toNatClampNeg = own_d ch z.toNatClampNeg) h0 n0 _ T202.heap _
          rw [e202]
          exact ⟨_, rfl, N202, EX201, Or.inr ⟨rfl, fun q => hed (by have := q.2.2; omega)⟩⟩
    · -- pc 18: no
      have hez := (fun q => hc18_203 (Int32.toInt_inj.mp q) : ¬ be.toInt = z.toInt)
      obtain ⟨fs, hr, hrun, hended, hW, hsame⟩ := X202.leave (v := some (.int (0 : Int32))) (fun h => by rw [Bd.returns] at h; cases h)
      refine ⟨_, _, ck204 _ ?_, hrun, hended, _, _, rfl, ?_, ⟨_, rfl⟩, hW, hsame.mono (by decide) (by decide)⟩
      · refine XS.icmpYes X202.here hx rfl (pc0 := 18) (pc' := 36) rfl (hb hby d10_18) rfl (feq hc18_203).2 (by decide) (by decide) ?_
        refine XS.iconst X202.here hx rfl (hb hby d10_36) ?_
        exact retN X202 hx (t := .boolean) Bd.returns (by simp) (hb hby d10_37) hr
      · show own_WN (¬ own_nul ch z.toNatClampNeg ∧ own_e ch z.toNatClampNeg = z.toNatClampNeg ∧ own_e ch z.toNatClampNeg = own_d ch z.toNatClampNeg) h0 n0 _ T202.heap _
        rw [e202]
        exact ⟨_, rfl, N202, EX201, Or.inr ⟨rfl, fun q => hez (by have := q.2.1; omega)⟩⟩
theorem d7_0 : decode prog_32_method_2_code 0 = .ok (.aload_n 0, 1) := by decide +kernel
theorem d7_1 : decode prog_32_method_2_code 1 = .ok (.iconst 0, 1) := by decide +kernel
theorem d7_2 : decode prog_32_method_2_code 2 = .ok (.invokestatic 23, 3) := by decide +kernel
theorem d7_5 : decode prog_32_method_2_code 5 = .ok (.astore_n 1, 1) := by decide +kernel
theorem d7_6 : decode prog_32_method_2_code 6 = .ok (.aload_n 1, 1) := by decide +kernel
theorem d7_7 : decode prog_32_method_2_code 7 = .ok (.ifnull 14, 3) := by decide +kernel
theorem d7_21 : decode prog_32_method_2_code 21 = .ok (.aconst_null, 1) := by decide +kernel
theorem d7_22 : decode prog_32_method_2_code 22 = .ok (.areturn, 1) := by decide +kernel
theorem d7_10 : decode prog_32_method_2_code 10 = .ok (.aload_n 1, 1) := by decide +kernel
theorem d7_11 : decode prog_32_method_2_code 11 = .ok (.getfield 29, 3) := by decide +kernel
theorem d7_14 : decode prog_32_method_2_code 14 = .ok (.aload_n 0, 1) := by decide +kernel
theorem d7_15 : decode prog_32_method_2_code 15 = .ok (.invokevirtual 33, 3) := by decide +kernel
theorem d7_18 : decode prog_32_method_2_code 18 = .ok (.if_icmp .eq 5, 3) := by decide +kernel
theorem d7_23 : decode prog_32_method_2_code 23 = .ok (.aload_n 1, 1) := by decide +kernel
theorem d7_24 : decode prog_32_method_2_code 24 = .ok (.getfield 39, 3) := by decide +kernel
theorem d7_27 : decode prog_32_method_2_code 27 = .ok (.aload_n 1, 1) := by decide +kernel
theorem d7_28 : decode prog_32_method_2_code 28 = .ok (.getfield 42, 3) := by decide +kernel
theorem d7_31 : decode prog_32_method_2_code 31 = .ok (.if_icmp .le 7, 3) := by decide +kernel
theorem d7_34 : decode prog_32_method_2_code 34 = .ok (.iconst 1, 1) := by decide +kernel
theorem d7_35 : decode prog_32_method_2_code 35 = .ok (.goto 4, 3) := by decide +kernel
theorem d7_38 : decode prog_32_method_2_code 38 = .ok (.iconst 0, 1) := by decide +kernel
theorem d7_39 : decode prog_32_method_2_code 39 = .ok (.istore_n 2, 1) := by decide +kernel
theorem d7_40 : decode prog_32_method_2_code 40 = .ok (.new 8, 3) := by decide +kernel
theorem d7_43 : decode prog_32_method_2_code 43 = .ok (.dup, 1) := by decide +kernel
theorem d7_44 : decode prog_32_method_2_code 44 = .ok (.aload_n 1, 1) := by decide +kernel
theorem d7_45 : decode prog_32_method_2_code 45 = .ok (.getfield 45, 3) := by decide +kernel
theorem d7_48 : decode prog_32_method_2_code 48 = .ok (.ifCond .le 17, 3) := by decide +kernel
theorem d7_51 : decode prog_32_method_2_code 51 = .ok (.aload_n 0, 1) := by decide +kernel
theorem d7_52 : decode prog_32_method_2_code 52 = .ok (.iconst 0, 1) := by decide +kernel
theorem d7_53 : decode prog_32_method_2_code 53 = .ok (.invokevirtual 48, 3) := by decide +kernel
theorem d7_56 : decode prog_32_method_2_code 56 = .ok (.bipush 45, 2) := by decide +kernel
theorem d7_58 : decode prog_32_method_2_code 58 = .ok (.if_icmp .ne 7, 3) := by decide +kernel
theorem d7_61 : decode prog_32_method_2_code 61 = .ok (.iconst 1, 1) := by decide +kernel
theorem d7_62 : decode prog_32_method_2_code 62 = .ok (.goto 4, 3) := by decide +kernel
theorem d7_65 : decode prog_32_method_2_code 65 = .ok (.iconst 0, 1) := by decide +kernel
theorem d7_66 : decode prog_32_method_2_code 66 = .ok (.aload_n 0, 1) := by decide +kernel
theorem d7_67 : decode prog_32_method_2_code 67 = .ok (.aload_n 1, 1) := by decide +kernel
theorem d7_68 : decode prog_32_method_2_code 68 = .ok (.getfield 45, 3) := by decide +kernel
theorem d7_71 : decode prog_32_method_2_code 71 = .ok (.aload_n 1, 1) := by decide +kernel
theorem d7_72 : decode prog_32_method_2_code 72 = .ok (.getfield 42, 3) := by decide +kernel
theorem pd_471 : parseMethodDescriptor "(II)Ljava/lang/String;" = some ⟨[.int, .int], some (.object "java/lang/String")⟩ := by decide +kernel
theorem d7_75 : decode prog_32_method_2_code 75 = .ok (.invokevirtual 52, 3) := by decide +kernel
theorem d7_78 : decode prog_32_method_2_code 78 = .ok (.iload_n 2, 1) := by decide +kernel
theorem d7_79 : decode prog_32_method_2_code 79 = .ok (.ifCond .eq 20, 3) := by decide +kernel
theorem d7_99 : decode prog_32_method_2_code 99 = .ok (.aconst_null, 1) := by decide +kernel
theorem d7_82 : decode prog_32_method_2_code 82 = .ok (.aload_n 0, 1) := by decide +kernel
theorem d7_83 : decode prog_32_method_2_code 83 = .ok (.aload_n 1, 1) := by decide +kernel
theorem d7_84 : decode prog_32_method_2_code 84 = .ok (.getfield 42, 3) := by decide +kernel
theorem d7_87 : decode prog_32_method_2_code 87 = .ok (.iconst 1, 1) := by decide +kernel
theorem d7_88 : decode prog_32_method_2_code 88 = .ok (.iadd, 1) := by decide +kernel
theorem d7_89 : decode prog_32_method_2_code 89 = .ok (.aload_n 1, 1) := by decide +kernel
theorem d7_90 : decode prog_32_method_2_code 90 = .ok (.getfield 39, 3) := by decide +kernel
theorem d7_93 : decode prog_32_method_2_code 93 = .ok (.invokevirtual 52, 3) := by decide +kernel
theorem d7_96 : decode prog_32_method_2_code 96 = .ok (.goto 4, 3) := by decide +kernel
theorem d7_100 : decode prog_32_method_2_code 100 = .ok (.aload_n 1, 1) := by decide +kernel
theorem d7_101 : decode prog_32_method_2_code 101 = .ok (.getfield 29, 3) := by decide +kernel
theorem d7_104 : decode prog_32_method_2_code 104 = .ok (.aload_n 1, 1) := by decide +kernel
theorem d7_105 : decode prog_32_method_2_code 105 = .ok (.getfield 39, 3) := by decide +kernel
theorem d7_108 : decode prog_32_method_2_code 108 = .ok (.if_icmp .le 20, 3) := by decide +kernel
theorem d7_111 : decode prog_32_method_2_code 111 = .ok (.aload_n 0, 1) := by decide +kernel
theorem d7_112 : decode prog_32_method_2_code 112 = .ok (.aload_n 1, 1) := by decide +kernel
theorem d7_113 : decode prog_32_method_2_code 113 = .ok (.getfield 39, 3) := by decide +kernel
theorem d7_116 : decode prog_32_method_2_code 116 = .ok (.iconst 1, 1) := by decide +kernel
theorem d7_117 : decode prog_32_method_2_code 117 = .ok (.iadd, 1) := by decide +kernel
theorem d7_118 : decode prog_32_method_2_code 118 = .ok (.aload_n 1, 1) := by decide +kernel
theorem d7_119 : decode prog_32_method_2_code 119 = .ok (.getfield 29, 3) := by decide +kernel
theorem d7_122 : decode prog_32_method_2_code 122 = .ok (.invokevirtual 52, 3) := by decide +kernel
theorem d7_125 : decode prog_32_method_2_code 125 = .ok (.goto 4, 3) := by decide +kernel
theorem d7_128 : decode prog_32_method_2_code 128 = .ok (.aconst_null, 1) := by decide +kernel
theorem pd_500 : parseMethodDescriptor "(ZLjava/lang/String;Ljava/lang/String;Ljava/lang/String;)V" = some ⟨[.boolean, (.object "java/lang/String"), (.object "java/lang/String"), (.object "java/lang/String")], none⟩ := by decide +kernel
theorem d7_129 : decode prog_32_method_2_code 129 = .ok (.invokespecial 56, 3) := by decide +kernel
theorem d7_132 : decode prog_32_method_2_code 132 = .ok (.areturn, 1) := by decide +kernel
theorem ef_rm_of (m : MethodId) (x0 : Addr) : entryFrame m #[(.ref x0)] 3 = mkF m 0 #[.val (.ref x0), .unset, .unset] [] := by first | (simp [entryFrame, mkF, argsToLocals, Value.category]; done) | rfl
set_option maxRecDepth 65536 in
set_option maxHeartbeats 40000000 in
theorem rm_of (l : Launch) (Z : State) (a0 : Array Value) (hw : ∀ d ∈ tables_1, d.before a0 Z = true) (ws : List Jvm.Cond) (a1 : Addr) (h0 : Heap) (n0 : Nat) (Z0 : n0 ≤ h0.size) (vb : Addr) (kb : ClassId) (z : Int32) (ch : Nat → Int32) (cst : Int32) (fmt : Value) (hS : own_S Z h0 a1 vb kb z ch) (hT : own_T Z h0 cst fmt) (hz0 : 0 ≤ z.toInt) (hz4 : z.toInt ≤ 4) :
    MetFree l (⟨"com/example/rowstrata/rowstrata/type/Numeral", "of", "(Ljava/lang/String;)Lcom/example/rowstrata/rowstrata/type/Numeral;"⟩ : MethodName) (head1 (Jvm.Cond.code (⟨"com/example/rowstrata/rowstrata/type/Numeral", "of", "(Ljava/lang/String;)Lcom/example/rowstrata/rowstrata/type/Numeral;"⟩ : MethodName) prog_32_method_2_code 3 (some (.object "com/example/rowstrata/rowstrata/type/Numeral")) :: ws) ({ frames := 7, cells := 8, slots := 32, locals := 103 } : Room)) (fun aQ UQ => aQ = #[(.ref a1)] ∧ Z.Warmed39 UQ.vm ∧ UQ.heap = h0) (fun _ _ _ _ _ => True) (fun _ UQ oQ UR => ∃ vQ LQ, oQ = .returned vQ ∧ own_Of Z ch z.toNatClampNeg h0 n0 vQ UR.heap LQ ∧ ReturnedEndW UQ oQ UR LQ ({ frames := 7, cells := 8, slots := 32, locals := 103 } : Room).cells ({ frames := 7, cells := 8, slots := 32, locals := 103 } : Room).slots) := by
  refine MetFree.of_bodySF (plainFor_of_name pn_399) hisR ?_
  intro p e s m args below meth c s₁ Bd hml0 hP hK
  obtain ⟨rfl, hZ, hh⟩ := hP
  have hx := Bd.exec
  have hby := Bd.bytes
  have hml : c.maxLocals = 3 := hml0
  have hown : s.vm.findClass "com/example/rowstrata/rowstrata/type/Numeral" = some m.cls := findClass_of_methodNamed Bd.named
  have hnm := (name_of_methodNamed Bd.named Bd.method).1
  have X0 : Stand p l e ({ frames := 7, cells := 8, slots := 32, locals := 103 } : Room) (s.setVm s.vm) m #[(.ref a1)] below meth c s₁ [] 0 0 := Stand.of_body Bd
  have e0 : s₁.heap = h0 := by rw [← hh, Bd.state]; rfl
  have N0 := Fr.nil n0
  have pre0 : ∀ t, Steps p.tables e below (s₁.setTop (mkF m 0 #[.val (.ref a1), .unset, .unset] [])) t → Steps p.tables e below (s₁.setTop (entryFrame m #[(.ref a1)] 3)) t := fun t kq => castTop (ef_rm_of m a1) kq
  have hSi0 : s.Since s.vm h0.size := (State.WarmedH.refl s).since _
  have hSk0 : h0.size ≤ h0.size := Nat.le_refl _
  obtain ⟨E_a, F_v, F_c, B_v, hch⟩ := id hS
  obtain ⟨S_c, hcst, S_f, hfm⟩ := id hT
  obtain ⟨_, _, ⟨T207, L207, k207, n207⟩, -, X207, ⟨Lc207, hQ207, l207, y207, z207⟩, st207⟩ := Jvm.LawKit.callS X0 hx (y := (⟨"com/example/rowstrata/rowstrata/type/Numeral$Bounds", "of", "(Ljava/lang/CharSequence;I)Lcom/example/rowstrata/rowstrata/type/Numeral$Bounds;"⟩ : MethodName)) hown (mvT hZ (own_q hw 42 rfl)) (mvT hZ (own_q hw 43 rfl)) (mvT hZ (own_q hw 44 rfl)) (mvT hZ (own_q hw 45 rfl)) (by decide) (backOf (W := 0) (rm_bo l Z a0 hw [] a1 h0 n0 Z0 vb kb z ch cst fmt hS hT hz0) hZ (own_q hw 45 rfl) (own_q hw 44 rfl) (by decide) (by decide)) (g := (mkF m 2 #[.val (.ref a1), .unset, .unset] [(.int (0 : Int32)), (.ref a1)])) rfl (by rw [hml]; rfl) (argsL := [(.ref a1), (.int (0 : Int32))]) (rest := []) (lenOf pd_412 rfl) rfl (by show 2 * 0 + _ ≤ _; exact Nat.le_of_eq rfl) (hb hby d7_2) (fun _ _ => ⟨rfl, e0, (by decide : 0 + 1 ≤ _), (by decide : 0 + 4 ≤ _)⟩)
  dsimp only [Pt.U, Pt.locs, Pt.cells, Pt.slots] at X207 l207 y207 z207 st207 hQ207
  subst l207 y207 z207
  obtain ⟨N207q, E207, hB⟩ := hQ207
  have N207 := Fr.app N0 N207q
  have e207 : T207.heap = T207.heap := rfl
  have hSk207 := Nat.le_trans hSk0 E207.1
  have EX207 := own_ext_trans (own_ext_refl h0) E207
  have KP207 := Keep.ext (Keep.refl h0 []) E207
  rcases hB with ⟨hnul, rfl⟩ | ⟨hnul, bo, bs, bd, bf, be, rfl, F_s, F_d, F_f, F_e, hbs, hbd, hbf, hbe⟩
  · -- bounds: null
    obtain ⟨fs, hr, hrun, hended, hW⟩ := X207.leaveW hSi0 (show _ ≤ T207.heap.size by rw [e207]; exact hSk207) (v := some .null) (fun h => by rw [Bd.returns] at h; cases h)
    refine ⟨_, _, pre0 _ ?_, hrun, hended, _, _, rfl, ?_, own_retW (k := 1) (n := 4) hW (by decide) (by decide)⟩
    · refine XS.aloadN X0.here hx rfl (hb hby d7_0) rfl rfl ?_
      refine XS.iconst X0.here hx rfl (hb hby d7_1) ?_
      refine st207 _ ?_
      show Steps p.tables e below (T207.setTop (mkF m 5 #[.val (.ref a1), .unset, .unset] [.null])) _
      refine XS.astoreN X207.here hx rfl (hb hby d7_5) rfl rfl (l' := #[.val (.ref a1), .val .null, .unset]) rfl ?_
      refine XS.aloadN X207.here hx rfl (hb hby d7_6) rfl rfl ?_
      refine XS.ifnullYes X207.here hx rfl (pc0 := 7) (pc' := 21) rfl (hb hby d7_7) rfl (by decide) (by decide) ?_
      refine XS.aconstNull X207.here hx rfl (hb hby d7_21) ?_
      exact retOut X207 hx Bd.returns rfl (Or.inr (Or.inr (Or.inr (Or.inr ⟨rfl, rfl, rfl⟩)))) (hb hby d7_22) hr
    · show own_Of Z ch z.toNatClampNeg h0 n0 _ T207.heap _
      exact ⟨N207, EX207, Or.inl ⟨fun q => q.1 hnul, rfl⟩⟩
  · -- bounds: an object
    have hord := own_order ch z.toNatClampNeg
    have t_z := own_tn hz0
    obtain ⟨cq208, kq208, q208a, q208b, q208c⟩ := isOf hZ e207 ((E_a.ext EX207))
    obtain ⟨_, _, ⟨T208, L208, k208, n208⟩, -, X208, ⟨Lc208, hQ208, l208, y208, z208⟩, st208⟩ := X207.virtualBack hx (y := (⟨"java/lang/String", "length", "()I"⟩ : MethodName)) (z := (⟨"java/lang/String", "length", "()I"⟩ : MethodName)) hown (mvT hZ (own_q hw 149 rfl)) (mvT hZ (own_q hw 28 rfl)) (notFace_of_selects (args := #[]) (mvT hZ (own_q hw 30 rfl))) (mvT hZ (own_q hw 30 rfl)) (mvT hZ (own_q hw 29 rfl)) (by decide) (backOf (W := 1) (rm_len l Z a0 hw [] a1 T207.heap n0 (Nat.le_trans Z0 EX207.1) vb kb z ch cst fmt (hS.ext EX207) (hT.ext EX207)) hZ (own_q hw 31 rfl) (own_q hw 4 rfl) (by decide) (by decide)) q208a q208c (g := (mkF m 15 #[.val (.ref a1), .val (.ref bo), .unset] [(.ref a1), (.int be)])) rfl (by rw [hml]; rfl) (Steps.refl _) (argsL := []) (rest := [(.int be)]) (lenOf pd_63 rfl) rfl (by show 2 * 0 + _ ≤ _; exact Nat.le_of_eq rfl) (hb hby d7_15) (fun _ _ => ⟨rfl, e207, (by decide : 1 + 0 ≤ _), (by decide : 4 + 0 ≤ _)⟩)
    dsimp only [Pt.U, Pt.locs, Pt.cells, Pt.slots] at X208 l208 y208 z208 st208 hQ208
    subst l208 y208 z208
    obtain ⟨rfl, N208q, e208⟩ := hQ208
    have N208 := Fr.app N207 N208q
    have ck210 : ∀ t, Steps p.tables e below (T208.setTop (mkF m 18 #[.val (.ref a1), .val (.ref bo), .unset] [(.int z), (.int be)])) t → Steps p.tables e below (s₁.setTop (entryFrame m #[(.ref a1)] 3)) t := by
      intro t kt
      refine pre0 _ ?_
      refine XS.aloadN X0.here hx rfl (hb hby d7_0) rfl rfl ?_
      refine XS.iconst X0.here hx rfl (hb hby d7_1) ?_
      refine st207 _ ?_
      show Steps p.tables e below (T207.setTop (mkF m 5 #[.val (.ref a1), .unset, .unset] [(.ref bo)])) _
      refine XS.astoreN X207.here hx rfl (hb hby d7_5) rfl rfl (l' := #[.val (.ref a1), .val (.ref bo), .unset]) rfl ?_
      refine XS.aloadN X207.here hx rfl (hb hby d7_6) rfl rfl ?_
      refine XS.ifnullNo X207.here hx rfl (hb hby d7_7) rfl ?_
      refine XS.aloadN X207.here hx rfl (hb hby d7_10) rfl rfl ?_
      refine own_getFR X207 hx hZ hown (own_q hw 148 rfl) e207 F_e (g := (mkF m 11 #[.val (.ref a1), .val (.ref bo), .unset] [(.ref bo)])) rfl rfl (hb hby d7_11) _ ?_
      show Steps p.tables e below (T207.setTop (mkF m 14 #[.val (.ref a1), .val (.ref bo), .unset] [(.int be)])) _
      refine XS.aloadN X207.here hx rfl (hb hby d7_14) rfl rfl ?_
      refine st208.trans ?_
      exact kt
    (try clear N208q); (try clear st208); (try clear Lc208); (try clear n208); (try clear k208); (try clear L208); (try clear q208c); (try clear q208b); (try clear q208a); (try clear kq208); (try clear cq208)
    by_cases hc18_209 : be = z
    · -- pc 18: yes
      have hez := congrArg Int32.toInt hc18_209
      have ck211 : ∀ t, Steps p.tables e below (T208.setTop (mkF m 23 #[.val (.ref a1), .val (.ref bo), .unset] [])) t → Steps p.tables e below (s₁.setTop (entryFrame m #[(.ref a1)] 3)) t := by
        intro t kt
        refine ck210 _ ?_
        refine XS.icmpYes X208.here hx rfl (pc0 := 18) (pc' := 23) rfl (hb hby d7_18) rfl (teq hc18_209).1 (by decide) (by decide) ?_
        exact kt
      obtain ⟨T214, L214, lf, X214, e214, N214, hj214_0, ck214⟩ : ∃ (TJ : State) (LJ : List Loc) (lf : Int32), Stand p l e ({ frames := 7, cells := 8, slots := 32, locals := 103 } : Room) (s.setVm s.vm) m #[(.ref a1)] below meth c TJ LJ 1 4 ∧ TJ.heap = T207.heap ∧ Fr n0 LJ ∧ ((lf = (0 : Int32) ∧ ¬ bd.toInt < bf.toInt) ∨ (¬ lf = (0 : Int32) ∧ bd.toInt < bf.toInt)) ∧ (∀ t, Steps p.tables e below (TJ.setTop (mkF m 39 #[.val (.ref a1), .val (.ref bo), .unset] [(.int lf)])) t → Steps p.tables e below (s₁.setTop (entryFrame m #[(.ref a1)] 3)) t) := by
        have ck216 : ∀ t, Steps p.tables e below (T208.setTop (mkF m 31 #[.val (.ref a1), .val (.ref bo), .unset] [(.int bd), (.int bf)])) t → Steps p.tables e below (s₁.setTop (entryFrame m #[(.ref a1)] 3)) t := by
          intro t kt
          refine ck211 _ ?_
          refine XS.aloadN X208.here hx rfl (hb hby d7_23) rfl rfl ?_
          refine own_getFR X208 hx hZ hown (own_q hw 150 rfl) e208 F_f (g := (mkF m 24 #[.val (.ref a1), .val (.ref bo), .unset] [(.ref bo)])) rfl rfl (hb hby d7_24) _ ?_
          show Steps p.tables e below (T208.setTop (mkF m 27 #[.val (.ref a1), .val (.ref bo), .unset] [(.int bf)])) _
          refine XS.aloadN X208.here hx rfl (hb hby d7_27) rfl rfl ?_
          refine own_getFR X208 hx hZ hown (own_q hw 151 rfl) e208 F_d (g := (mkF m 28 #[.val (.ref a1), .val (.ref bo), .unset] [(.ref bo), (.int bf)])) rfl rfl (hb hby d7_28) _ ?_
          exact kt
        by_cases hc31_215 : bd < bf
        · -- pc 31: yes
          have hm1 := hc31_215; rw [Int32.lt_iff_toInt_lt] at hm1
          refine ⟨T208, _, (1 : Int32), X208, e208, N208, Or.inr ⟨by decide, hm1⟩, fun t kt => ?_⟩
          refine ck216 _ ?_
          refine XS.icmpNo X208.here hx rfl (hb hby d7_31) rfl (tlt hc31_215).2.2.2 ?_
          refine XS.iconst X208.here hx rfl (hb hby d7_34) ?_
          refine XS.goto X208.here hx rfl (pc0 := 35) (pc' := 39) rfl (hb hby d7_35) (by decide) (by decide) ?_
          exact kt
        · -- pc 31: no
          have hm1 := hc31_215; rw [Int32.lt_iff_toInt_lt] at hm1
          refine ⟨T208, _, (0 : Int32), X208, e208, N208, Or.inl ⟨rfl, hm1⟩, fun t kt => ?_⟩
          refine ck216 _ ?_
          refine XS.icmpYes X208.here hx rfl (pc0 := 31) (pc' := 38) rfl (hb hby d7_31) rfl (flt hc31_215).2.2.2 (by decide) (by decide) ?_
          refine XS.iconst X208.here hx rfl (hb hby d7_38) ?_
          exact kt
      have hlf := hj214_0
      obtain ⟨T217, h217, X217, e217, E217, A217, D217, -, st217⟩ := newO X214 hx hZ hown (own_q hw 152 rfl) (own_q hw 64 rfl) (own_q hw 40 rfl) e214 (g := (mkF m 40 #[.val (.ref a1), .val (.ref bo), .val (.int lf)] [])) rfl (hb hby d7_40) (by decide) (by decide)
      obtain ⟨b217, g217⟩ : ∃ z, z = T207.heap.size := ⟨_, rfl⟩
      rw [← g217] at A217 D217 st217
      have sz_b217 : h0.size ≤ b217 := Nat.le_trans KP207.1 (Nat.le_of_eq g217.symm)
      have gn_b217 : n0 ≤ b217 := Nat.le_trans Z0 sz_b217
      have hSk217 := Nat.le_trans hSk207 E217.1
      have EX217 := own_ext_trans EX207 E217
      have KP217 := Keep.ext KP207 E217
      have F217_negative : Fld Z h217 b217 "com/example/rowstrata/rowstrata/type/Numeral" "negative" "Z" (.int (0 : Int32)) := D217 (Or.inr (own_q hw 75 rfl)) (ty := .boolean) (by decide)
      have F217_digits : Fld Z h217 b217 "com/example/rowstrata/rowstrata/type/Numeral" "digits" "Ljava/lang/String;" .null := D217 (Or.inr (own_q hw 77 rfl)) (ty := (.object "java/lang/String")) (by decide)
      have F217_fraction : Fld Z h217 b217 "com/example/rowstrata/rowstrata/type/Numeral" "fraction" "Ljava/lang/String;" .null := D217 (Or.inr (own_q hw 79 rfl)) (ty := (.object "java/lang/String")) (by decide)
      have F217_exponent : Fld Z h217 b217 "com/example/rowstrata/rowstrata/type/Numeral" "exponent" "Ljava/lang/String;" .null := D217 (Or.inr (own_q hw 81 rfl)) (ty := (.object "java/lang/String")) (by decide)
      have ck218 : ∀ t, Steps p.tables e below (T217.setTop (mkF m 44 #[.val (.ref a1), .val (.ref bo), .val (.int lf)] [(.ref b217), (.ref b217)])) t → Steps p.tables e below (s₁.setTop (entryFrame m #[(.ref a1)] 3)) t := by
        intro t kt
        refine ck214 _ ?_
        refine XS.istoreN X214.here hx rfl (hb hby d7_39) rfl (l' := #[.val (.ref a1), .val (.ref bo), .val (.int lf)]) rfl ?_
        refine st217 _ ?_
        show Steps p.tables e below (T217.setTop (mkF m 43 #[.val (.ref a1), .val (.ref bo), .val (.int lf)] [(.ref b217)])) _
        refine XS.dup X217.here hx rfl (hb hby d7_43) rfl rfl ?_
        exact kt
      (try clear st217); (try clear D217)
      obtain ⟨T224, L224, ng, X224, e224, N224, hj224_0, ck224⟩ : ∃ (TJ : State) (LJ : List Loc) (ng : Int32), Stand p l e ({ frames := 7, cells := 8, slots := 32, locals := 103 } : Room) (s.setVm s.vm) m #[(.ref a1)] below meth c TJ LJ 2 8 ∧ TJ.heap = h217 ∧ Fr n0 LJ ∧ (ng = (0 : Int32) ∨ ng = (1 : Int32)) ∧ (∀ t, Steps p.tables e below (TJ.setTop (mkF m 66 #[.val (.ref a1), .val (.ref bo), .val (.int lf)] [(.int ng), (.ref b217), (.ref b217)])) t → Steps p.tables e below (s₁.setTop (entryFrame m #[(.ref a1)] 3)) t) := by
        have Fx225 := (F_s.ext E217)
        by_cases hc48_226 : (0 : Int32) < bs
        · -- pc 48: yes
          have hb0 := hc48_226; rw [Int32.lt_iff_toInt_lt] at hb0
          have z0i := own_0i
          obtain ⟨cq227, kq227, q227a, q227b, q227c⟩ := isOf hZ e217 ((E_a.ext EX217))
          obtain ⟨_, _, ⟨T227, L227, k227, n227⟩, -, X227, ⟨Lc227, hQ227, l227, y227, z227⟩, st227⟩ := X217.virtualBack hx (y := (⟨"java/lang/String", "charAt", "(I)C"⟩ : MethodName)) (z := (⟨"java/lang/String", "charAt", "(I)C"⟩ : MethodName)) hown (mvT hZ (own_q hw 167 rfl)) (mvT hZ (own_q hw 101 rfl)) (notFace_of_selects (args := #[]) (mvT hZ (own_q hw 103 rfl))) (mvT hZ (own_q hw 103 rfl)) (mvT hZ (own_q hw 102 rfl)) (by decide) (backOf (W := 2) (rm_ch l Z a0 hw [] a1 (0 : Int32) h217 n0 (Nat.le_trans Z0 EX217.1) vb kb z ch cst fmt (hS.ext EX217) (hT.ext EX217) (by decide) (own_lt32 (by omega))) hZ (own_q hw 104 rfl) (own_q hw 4 rfl) (by decide) (by decide)) q227a q227c (g := (mkF m 53 #[.val (.ref a1), .val (.ref bo), .val (.int lf)] [(.int (0 : Int32)), (.ref a1), (.ref b217), (.ref b217)])) rfl (by rw [hml]; rfl) (Steps.refl _) (argsL := [(.int (0 : Int32))]) (rest := [(.ref b217), (.ref b217)]) (lenOf pd_68 rfl) rfl (by show 2 * 0 + _ ≤ _; exact Nat.le_of_eq rfl) (hb hby d7_53) (fun _ _ => ⟨rfl, e217, (by decide : 2 + 0 ≤ _), (by decide : 8 + 0 ≤ _)⟩)
          dsimp only [Pt.U, Pt.locs, Pt.cells, Pt.slots] at X227 l227 y227 z227 st227 hQ227
          subst l227 y227 z227
          obtain ⟨rfl, N227q, e227⟩ := hQ227
          have N227 := Fr.app N214 N227q
          have ck229 : ∀ t, Steps p.tables e below (T227.setTop (mkF m 58 #[.val (.ref a1), .val (.ref bo), .val (.int lf)] [(.int (45 : Int32)), (.int (ch (0 : Int32).toNatClampNeg)), (.ref b217), (.ref b217)])) t → Steps p.tables e below (s₁.setTop (entryFrame m #[(.ref a1)] 3)) t := by
            intro t kt
            refine ck218 _ ?_
            refine XS.aloadN X217.here hx rfl (hb hby d7_44) rfl rfl ?_
            refine own_getFR X217 hx hZ hown (own_q hw 153 rfl) e217 Fx225 (g := (mkF m 45 #[.val (.ref a1), .val (.ref bo), .val (.int lf)] [(.ref bo), (.ref b217), (.ref b217)])) rfl rfl (hb hby d7_45) _ ?_
            show Steps p.tables e below (T217.setTop (mkF m 48 #[.val (.ref a1), .val (.ref bo), .val (.int lf)] [(.int bs), (.ref b217), (.ref b217)])) _
            refine XS.ifNo X217.here hx rfl (hb hby d7_48) rfl ((if0 _ _).trans (tlt hc48_226).2.2.2) ?_
            refine XS.aloadN X217.here hx rfl (hb hby d7_51) rfl rfl ?_
            refine XS.iconst X217.here hx rfl (hb hby d7_52) ?_
            refine st227.trans ?_
            show Steps p.tables e below (T227.setTop (mkF m 56 #[.val (.ref a1), .val (.ref bo), .val (.int lf)] [(.int (ch (0 : Int32).toNatClampNeg)), (.ref b217), (.ref b217)])) _
            refine XS.bipush X227.here hx rfl (hb hby d7_56) ?_
            exact kt
          (try clear N227q); (try clear st227); (try clear Lc227); (try clear n227); (try clear k227); (try clear L227); (try clear q227c); (try clear q227b); (try clear q227a); (try clear kq227); (try clear cq227)
          by_cases hc58_228 : (ch (0 : Int32).toNatClampNeg) = (45 : Int32)
          · -- pc 58: yes
            refine ⟨T227, _, (1 : Int32), X227, e227, N227, Or.inr rfl, fun t kt => ?_⟩
            refine ck229 _ ?_
            refine XS.icmpNo X227.here hx rfl (hb hby d7_58) rfl (teq hc58_228).2 ?_
            refine XS.iconst X227.here hx rfl (hb hby d7_61) ?_
            refine XS.goto X227.here hx rfl (pc0 := 62) (pc' := 66) rfl (hb hby d7_62) (by decide) (by decide) ?_
            exact kt
          · -- pc 58: no
            refine ⟨T227, _, (0 : Int32), X227, e227, N227, Or.inl rfl, fun t kt => ?_⟩
            refine ck229 _ ?_
            refine XS.icmpYes X227.here hx rfl (pc0 := 58) (pc' := 65) rfl (hb hby d7_58) rfl (feq hc58_228).2 (by decide) (by decide) ?_
            refine XS.iconst X227.here hx rfl (hb hby d7_65) ?_
            exact kt
        · -- pc 48: no
          refine ⟨T217, _, (0 : Int32), X217, e217, N214, Or.inl rfl, fun t kt => ?_⟩
          refine ck218 _ ?_
          refine XS.aloadN X217.here hx rfl (hb hby d7_44) rfl rfl ?_
          refine own_getFR X217 hx hZ hown (own_q hw 153 rfl) e217 Fx225 (g := (mkF m 45 #[.val (.ref a1), .val (.ref bo), .val (.int lf)] [(.ref bo), (.ref b217), (.ref b217)])) rfl rfl (hb hby d7_45) _ ?_
          show Steps p.tables e below (T217.setTop (mkF m 48 #[.val (.ref a1), .val (.ref bo), .val (.int lf)] [(.int bs), (.ref b217), (.ref b217)])) _
          refine XS.ifYes X217.here hx rfl (pc0 := 48) (pc' := 65) rfl (hb hby d7_48) rfl ((if0 _ _).trans (flt hc48_226).2.2.2) (by decide) (by decide) ?_
          refine XS.iconst X217.here hx rfl (hb hby d7_65) ?_
          exact kt
      have hng := hj224_0
      have Fx230 := (F_s.ext E217)
      have Fx231 := (F_d.ext E217)
      have ck232 : ∀ t, Steps p.tables e below (T224.setTop (mkF m 75 #[.val (.ref a1), .val (.ref bo), .val (.int lf)] [(.int bd), (.int bs), (.ref a1), (.int ng), (.ref b217), (.ref b217)])) t → Steps p.tables e below (s₁.setTop (entryFrame m #[(.ref a1)] 3)) t := by
        intro t kt
        refine ck224 _ ?_
        refine XS.aloadN X224.here hx rfl (hb hby d7_66) rfl rfl ?_
        refine XS.aloadN X224.here hx rfl (hb hby d7_67) rfl rfl ?_
        refine own_getFR X224 hx hZ hown (own_q hw 153 rfl) e224 Fx230 (g := (mkF m 68 #[.val (.ref a1), .val (.ref bo), .val (.int lf)] [(.ref bo), (.ref a1), (.int ng), (.ref b217), (.ref b217)])) rfl rfl (hb hby d7_68) _ ?_
        show Steps p.tables e below (T224.setTop (mkF m 71 #[.val (.ref a1), .val (.ref bo), .val (.int lf)] [(.int bs), (.ref a1), (.int ng), (.ref b217), (.ref b217)])) _
        refine XS.aloadN X224.here hx rfl (hb hby d7_71) rfl rfl ?_
        refine own_getFR X224 hx hZ hown (own_q hw 151 rfl) e224 Fx231 (g := (mkF m 72 #[.val (.ref a1), .val (.ref bo), .val (.int lf)] [(.ref bo), (.int bs), (.ref a1), (.int ng), (.ref b217), (.ref b217)])) rfl rfl (hb hby d7_72) _ ?_
        exact kt
      obtain ⟨cq233, kq233, q233a, q233b, q233c⟩ := isOf hZ e224 ((E_a.ext EX217))
      obtain ⟨_, _, ⟨T233, L233, k233, n233⟩, -, X233r, S233r, g233r, ⟨Lc233, hQ233, l233, y233, z233⟩, st233⟩ := X224.virtualBackS hx (y := (⟨"java/lang/String", "substring", "(II)Ljava/lang/String;"⟩ : MethodName)) (z := (⟨"java/lang/String", "substring", "(II)Ljava/lang/String;"⟩ : MethodName)) hown (mvT hZ (own_q hw 154 rfl)) (mvT hZ (own_q hw 155 rfl)) (notFace_of_selects (args := #[]) (mvT hZ (own_q hw 157 rfl))) (mvT hZ (own_q hw 157 rfl)) (mvT hZ (own_q hw 156 rfl)) (by decide) (backOfS (W := 3) (rm_sub l Z a0 hw [] a1 bs bd h217 n0 (Nat.le_trans Z0 EX217.1) vb kb z ch cst fmt (hS.ext EX217) (hT.ext EX217) hz4 ⟨by omega, by omega, by omega⟩) hZ (own_q hw 158 rfl) (own_q hw 4 rfl) (by decide) (by decide)) q233a q233c (g := (mkF m 75 #[.val (.ref a1), .val (.ref bo), .val (.int lf)] [(.int bd), (.int bs), (.ref a1), (.int ng), (.ref b217), (.ref b217)])) rfl (by rw [hml]; rfl) (Steps.refl _) (argsL := [(.int bs), (.int bd)]) (rest := [(.int ng), (.ref b217), (.ref b217)]) (lenOf pd_471 rfl) rfl (by show 2 * 0 + _ ≤ _; exact Nat.le_of_eq rfl) (hb hby d7_75) (fun _ _ => ⟨rfl, e224, (by decide : 2 + 2 ≤ _), (by decide : 8 + 8 ≤ _)⟩)
      dsimp only [Pt.U, Pt.locs, Pt.cells, Pt.slots] at X233r S233r g233r l233 y233 z233 st233 hQ233
      subst l233 y233 z233
      obtain ⟨X233, hSi233, hZ, hown⟩ := rebS hSi0 (show _ ≤ T224.heap.size by rw [e224]; exact hSk217) X233r S233r g233r hZ hown
      obtain ⟨w233, rfl, N233q, E233, a233, rfl⟩ := hQ233
      have N233 := Fr.app N224 N233q
      have e233 : T233.heap = T233.heap := rfl
      have hSk233 := Nat.le_trans hSk217 E233.1
      have EX233 := own_ext_trans EX217 E233
      have KP233 := Keep.ext KP217 E233
      have ck234 : ∀ t, Steps p.tables e below (T233.setTop (mkF m 78 #[.val (.ref a1), .val (.ref bo), .val (.int lf)] [(.ref a233), (.int ng), (.ref b217), (.ref b217)])) t → Steps p.tables e below (s₁.setTop (entryFrame m #[(.ref a1)] 3)) t := by
        intro t kt
        refine ck232 _ ?_
        refine st233.trans ?_
        exact kt
      (try clear N233q); (try clear st233); (try clear Lc233); (try clear n233); (try clear k233); (try clear L233); (try clear q233c); (try clear q233b); (try clear q233a); (try clear kq233); (try clear cq233)
      obtain ⟨vJ240, T240, L240, h240, kJ240, frV, X240, e240, N240, EJ240, hSi240, hSq240, hZ, hown, hj240_0, ck240⟩ : ∃ (vJ : Vm) (TJ : State) (LJ : List Loc) (hJ : Heap) (kJ : Nat) (frV : Value) , Stand p l e ({ frames := 7, cells := 8, slots := 32, locals := 103 } : Room) (s.setVm vJ) m #[(.ref a1)] below meth c TJ LJ 6 24 ∧ TJ.heap = hJ ∧ Fr n0 LJ ∧ Ext T233.heap hJ ∧ s.Since vJ kJ ∧ kJ ≤ hJ.size ∧ Z.Warmed39 (s.setVm vJ).vm ∧ (s.setVm vJ).vm.findClass "com/example/rowstrata/rowstrata/type/Numeral" = some m.cls ∧ (own_Opt (own_d ch z.toNatClampNeg < own_f ch z.toNatClampNeg) frV) ∧ (∀ t, Steps p.tables e below (TJ.setTop (mkF m 100 #[.val (.ref a1), .val (.ref bo), .val (.int lf)] [frV, (.ref a233), (.int ng), (.ref b217), (.ref b217)])) t → Steps p.tables e below (s₁.setTop (entryFrame m #[(.ref a1)] 3)) t) := by
        by_cases hc79_241 : lf = (0 : Int32)
        · -- pc 79: yes
          have hl_n : ¬ bd.toInt < bf.toInt := hlf.elim (fun q => q.2) (fun q => absurd hc79_241 q.1)
          refine ⟨T233.vm, T233, _, T233.heap, _, .null, X233.mono (by decide) (by decide), e233, N233, own_ext_refl _, hSi233, (Nat.le_refl T233.heap.size), hZ, hown, Or.inl ⟨by omega, rfl⟩, fun t kt => ?_⟩
          refine ck234 _ ?_
          refine XS.iloadN X233.here hx rfl (hb hby d7_78) rfl ?_
          refine XS.ifYes X233.here hx rfl (pc0 := 79) (pc' := 99) rfl (hb hby d7_79) rfl ((if0 _ _).trans (teq hc79_241).1) (by decide) (by decide) ?_
          refine XS.aconstNull X233.here hx rfl (hb hby d7_99) ?_
          exact kt
        · -- pc 79: no
          have Fx242 := (Fx231.ext E233)
          obtain ⟨bd1, h_bd1⟩ : ∃ zQ : Int32, (bd + (1 : Int32)) = zQ := ⟨_, rfl⟩
          have hl_bd : bd.toInt < bf.toInt := hlf.elim (fun q => absurd q.1 hc79_241) (fun q => q.2)
          have h1_bd : bd1.toInt = bd.toInt + 1 := by rw [← h_bd1]; have h1i := own_1i; have h1a := own_addI (i := bd) (n := (1 : Int32)) ⟨by omega, by decide, by omega⟩; omega
          have Fx243 := ((F_f.ext E217).ext E233)
          have ck244 : ∀ t, Steps p.tables e below (T233.setTop (mkF m 93 #[.val (.ref a1), .val (.ref bo), .val (.int lf)] [(.int bf), (.int bd1), (.ref a1), (.ref a233), (.int ng), (.ref b217), (.ref b217)])) t → Steps p.tables e below (s₁.setTop (entryFrame m #[(.ref a1)] 3)) t := by
            intro t kt
            refine ck234 _ ?_
            refine XS.iloadN X233.here hx rfl (hb hby d7_78) rfl ?_
            refine XS.ifNo X233.here hx rfl (hb hby d7_79) rfl ((if0 _ _).trans (feq hc79_241).1) ?_
            refine XS.aloadN X233.here hx rfl (hb hby d7_82) rfl rfl ?_
            refine XS.aloadN X233.here hx rfl (hb hby d7_83) rfl rfl ?_
            refine own_getFR X233 hx hZ hown (own_q hw 151 rfl) e233 Fx242 (g := (mkF m 84 #[.val (.ref a1), .val (.ref bo), .val (.int lf)] [(.ref bo), (.ref a1), (.ref a233), (.int ng), (.ref b217), (.ref b217)])) rfl rfl (hb hby d7_84) _ ?_
            show Steps p.tables e below (T233.setTop (mkF m 87 #[.val (.ref a1), .val (.ref bo), .val (.int lf)] [(.int bd), (.ref a1), (.ref a233), (.int ng), (.ref b217), (.ref b217)])) _
            refine XS.iconst X233.here hx rfl (hb hby d7_87) ?_
            refine XS.iadd X233.here hx rfl (hb hby d7_88) rfl ?_
            show Steps p.tables e below (T233.setTop (mkF m 89 #[.val (.ref a1), .val (.ref bo), .val (.int lf)] [(.int (bd + (1 : Int32))), (.ref a1), (.ref a233), (.int ng), (.ref b217), (.ref b217)])) _
            rw [h_bd1]
            show Steps p.tables e below (T233.setTop (mkF m 89 #[.val (.ref a1), .val (.ref bo), .val (.int lf)] [(.int bd1), (.ref a1), (.ref a233), (.int ng), (.ref b217), (.ref b217)])) _
            refine XS.aloadN X233.here hx rfl (hb hby d7_89) rfl rfl ?_
            refine own_getFR X233 hx hZ hown (own_q hw 150 rfl) e233 Fx243 (g := (mkF m 90 #[.val (.ref a1), .val (.ref bo), .val (.int lf)] [(.ref bo), (.int bd1), (.ref a1), (.ref a233), (.int ng), (.ref b217), (.ref b217)])) rfl rfl (hb hby d7_90) _ ?_
            exact kt
          obtain ⟨cq245, kq245, q245a, q245b, q245c⟩ := isOf hZ e233 ((E_a.ext EX233))
          obtain ⟨_, _, ⟨T245, L245, k245, n245⟩, -, X245r, S245r, g245r, ⟨Lc245, hQ245, l245, y245, z245⟩, st245⟩ := X233.virtualBackS hx (y := (⟨"java/lang/String", "substring", "(II)Ljava/lang/String;"⟩ : MethodName)) (z := (⟨"java/lang/String", "substring", "(II)Ljava/lang/String;"⟩ : MethodName)) hown (mvT hZ (own_q hw 154 rfl)) (mvT hZ (own_q hw 155 rfl)) (notFace_of_selects (args := #[]) (mvT hZ (own_q hw 157 rfl))) (mvT hZ (own_q hw 157 rfl)) (mvT hZ (own_q hw 156 rfl)) (by decide) (backOfS (W := 4) (rm_sub l Z a0 hw [] a1 bd1 bf T233.heap n0 (Nat.le_trans Z0 EX233.1) vb kb z ch cst fmt (hS.ext EX233) (hT.ext EX233) hz4 ⟨by omega, by omega, by omega⟩) hZ (own_q hw 158 rfl) (own_q hw 4 rfl) (by decide) (by decide)) q245a q245c (g := (mkF m 93 #[.val (.ref a1), .val (.ref bo), .val (.int lf)] [(.int bf), (.int bd1), (.ref a1), (.ref a233), (.int ng), (.ref b217), (.ref b217)])) rfl (by rw [hml]; rfl) (Steps.refl _) (argsL := [(.int bd1), (.int bf)]) (rest := [(.ref a233), (.int ng), (.ref b217), (.ref b217)]) (lenOf pd_471 rfl) rfl (by show 2 * 0 + _ ≤ _; exact Nat.le_of_eq rfl) (hb hby d7_93) (fun _ _ => ⟨rfl, e233, (by decide : 4 + 2 ≤ _), (by decide : 16 + 8 ≤ _)⟩)
          dsimp only [Pt.U, Pt.locs, Pt.cells, Pt.slots] at X245r S245r g245r l245 y245 z245 st245 hQ245
          subst l245 y245 z245
          obtain ⟨X245, hSi245, hZ, hown⟩ := rebS hSi233 (show _ ≤ T233.heap.size by rw [e233]; exact (Nat.le_refl T233.heap.size)) X245r S245r g245r hZ hown
          obtain ⟨w245, rfl, N245q, E245, a245, rfl⟩ := hQ245
          have N245 := Fr.app N233 N245q
          have e245 : T245.heap = T245.heap := rfl
          have hSk245 := Nat.le_trans (Nat.le_refl T233.heap.size) E245.1
          have EX245 := own_ext_trans EX233 E245
          have KP245 := Keep.ext KP233 E245
          refine ⟨T245.vm, T245, _, T245.heap, _, (.ref a245), X245.mono (by decide) (by decide), e245, N245, E245, hSi245, (Nat.le_refl T245.heap.size), hZ, hown, Or.inr ⟨by omega, _, rfl⟩, fun t kt => ?_⟩
          refine ck244 _ ?_
          refine st245.trans ?_
          show Steps p.tables e below (T245.setTop (mkF m 96 #[.val (.ref a1), .val (.ref bo), .val (.int lf)] [(.ref a245), (.ref a233), (.int ng), (.ref b217), (.ref b217)])) _
          refine XS.goto X245.here hx rfl (pc0 := 96) (pc' := 100) rfl (hb hby d7_96) (by decide) (by decide) ?_
          exact kt
      have hSk240 := Nat.le_trans (Nat.le_refl T233.heap.size) EJ240.1
      have EX240 := own_ext_trans EX233 EJ240
      have KP240 := Keep.ext KP233 EJ240
      have ofr := hj240_0
      obtain ⟨vJ252, T252, L252, h252, kJ252, exV, X252, e252, N252, EJ252, hSi252, hSq252, hZ, hown, hj252_0, ck252⟩ : ∃ (vJ : Vm) (TJ : State) (LJ : List Loc) (hJ : Heap) (kJ : Nat) (exV : Value) , Stand p l e ({ frames := 7, cells := 8, slots := 32, locals := 103 } : Room) (s.setVm vJ) m #[(.ref a1)] below meth c TJ LJ 8 32 ∧ TJ.heap = hJ ∧ Fr n0 LJ ∧ Ext h240 hJ ∧ s.Since vJ kJ ∧ kJ ≤ hJ.size ∧ Z.Warmed39 (s.setVm vJ).vm ∧ (s.setVm vJ).vm.findClass "com/example/rowstrata/rowstrata/type/Numeral" = some m.cls ∧ (own_Opt (own_f ch z.toNatClampNeg < own_e ch z.toNatClampNeg) exV) ∧ (∀ t, Steps p.tables e below (TJ.setTop (mkF m 129 #[.val (.ref a1), .val (.ref bo), .val (.int lf)] [exV, frV, (.ref a233), (.int ng), (.ref b217), (.ref b217)])) t → Steps p.tables e below (s₁.setTop (entryFrame m #[(.ref a1)] 3)) t) := by
        have Fx253 := (((F_e.ext E217).ext E233).ext EJ240)
        have Fx254 := (((F_f.ext E217).ext E233).ext EJ240)
        have ck256 : ∀ t, Steps p.tables e below (T240.setTop (mkF m 108 #[.val (.ref a1), .val (.ref bo), .val (.int lf)] [(.int bf), (.int be), frV, (.ref a233), (.int ng), (.ref b217), (.ref b217)])) t → Steps p.tables e below (s₁.setTop (entryFrame m #[(.ref a1)] 3)) t := by
          intro t kt
          refine ck240 _ ?_
          refine XS.aloadN X240.here hx rfl (hb hby d7_100) rfl rfl ?_
          refine own_getFR X240 hx hZ hown (own_q hw 148 rfl) e240 Fx253 (g := (mkF m 101 #[.val (.ref a1), .val (.ref bo), .val (.int lf)] [(.ref bo), frV, (.ref a233), (.int ng), (.ref b217), (.ref b217)])) rfl rfl (hb hby d7_101) _ ?_
          show Steps p.tables e below (T240.setTop (mkF m 104 #[.val (.ref a1), .val (.ref bo), .val (.int lf)] [(.int be), frV, (.ref a233), (.int ng), (.ref b217), (.ref b217)])) _
          refine XS.aloadN X240.here hx rfl (hb hby d7_104) rfl rfl ?_
          refine own_getFR X240 hx hZ hown (own_q hw 150 rfl) e240 Fx254 (g := (mkF m 105 #[.val (.ref a1), .val (.ref bo), .val (.int lf)] [(.ref bo), (.int be), frV, (.ref a233), (.int ng), (.ref b217), (.ref b217)])) rfl rfl (hb hby d7_105) _ ?_
          exact kt
        by_cases hc108_255 : bf < be
        · -- pc 108: yes
          obtain ⟨bf1, h_bf1⟩ : ∃ zQ : Int32, (bf + (1 : Int32)) = zQ := ⟨_, rfl⟩
          have hl_bf := hc108_255; rw [Int32.lt_iff_toInt_lt] at hl_bf
          have h1_bf : bf1.toInt = bf.toInt + 1 := by rw [← h_bf1]; have h1i := own_1i; have h1a := own_addI (i := bf) (n := (1 : Int32)) ⟨by omega, by decide, by omega⟩; omega
          have ck257 : ∀ t, Steps p.tables e below (T240.setTop (mkF m 122 #[.val (.ref a1), .val (.ref bo), .val (.int lf)] [(.int be), (.int bf1), (.ref a1), frV, (.ref a233), (.int ng), (.ref b217), (.ref b217)])) t → Steps p.tables e below (s₁.setTop (entryFrame m #[(.ref a1)] 3)) t := by
            intro t kt
            refine ck256 _ ?_
            refine XS.icmpNo X240.here hx rfl (hb hby d7_108) rfl (tlt hc108_255).2.2.2 ?_
            refine XS.aloadN X240.here hx rfl (hb hby d7_111) rfl rfl ?_
            refine XS.aloadN X240.here hx rfl (hb hby d7_112) rfl rfl ?_
            refine own_getFR X240 hx hZ hown (own_q hw 150 rfl) e240 Fx254 (g := (mkF m 113 #[.val (.ref a1), .val (.ref bo), .val (.int lf)] [(.ref bo), (.ref a1), frV, (.ref a233), (.int ng), (.ref b217), (.ref b217)])) rfl rfl (hb hby d7_113) _ ?_
            show Steps p.tables e below (T240.setTop (mkF m 116 #[.val (.ref a1), .val (.ref bo), .val (.int lf)] [(.int bf), (.ref a1), frV, (.ref a233), (.int ng), (.ref b217), (.ref b217)])) _
            refine XS.iconst X240.here hx rfl (hb hby d7_116) ?_
            refine XS.iadd X240.here hx rfl (hb hby d7_117) rfl ?_
            show Steps p.tables e below (T240.setTop (mkF m 118 #[.val (.ref a1), .val (.ref bo), .val (.int lf)] [(.int (bf + (1 : Int32))), (.ref a1), frV, (.ref a233), (.int ng), (.ref b217), (.ref b217)])) _
            rw [h_bf1]
            show Steps p.tables e below (T240.setTop (mkF m 118 #[.val (.ref a1), .val (.ref bo), .val (.int lf)] [(.int bf1), (.ref a1), frV, (.ref a233), (.int ng), (.ref b217), (.ref b217)])) _
            refine XS.aloadN X240.here hx rfl (hb hby d7_118) rfl rfl ?_
            refine own_getFR X240 hx hZ hown (own_q hw 148 rfl) e240 Fx253 (g := (mkF m 119 #[.val (.ref a1), .val (.ref bo), .val (.int lf)] [(.ref bo), (.int bf1), (.ref a1), frV, (.ref a233), (.int ng), (.ref b217), (.ref b217)])) rfl rfl (hb hby d7_119) _ ?_
            exact kt
          obtain ⟨cq258, kq258, q258a, q258b, q258c⟩ := isOf hZ e240 ((E_a.ext EX240))
          obtain ⟨_, _, ⟨T258, L258, k258, n258⟩, -, X258r, S258r, g258r, ⟨Lc258, hQ258, l258, y258, z258⟩, st258⟩ := X240.virtualBackS hx (y := (⟨"java/lang/String", "substring", "(II)Ljava/lang/String;"⟩ : MethodName)) (z := (⟨"java/lang/String", "substring", "(II)Ljava/lang/String;"⟩ : MethodName)) hown (mvT hZ (own_q hw 154 rfl)) (mvT hZ (own_q hw 155 rfl)) (notFace_of_selects (args := #[]) (mvT hZ (own_q hw 157 rfl))) (mvT hZ (own_q hw 157 rfl)) (mvT hZ (own_q hw 156 rfl)) (by decide) (backOfS (W := 5) (rm_sub l Z a0 hw [] a1 bf1 be h240 n0 (Nat.le_trans Z0 EX240.1) vb kb z ch cst fmt (hS.ext EX240) (hT.ext EX240) hz4 ⟨by omega, by omega, by omega⟩) hZ (own_q hw 158 rfl) (own_q hw 4 rfl) (by decide) (by decide)) q258a q258c (g := (mkF m 122 #[.val (.ref a1), .val (.ref bo), .val (.int lf)] [(.int be), (.int bf1), (.ref a1), frV, (.ref a233), (.int ng), (.ref b217), (.ref b217)])) rfl (by rw [hml]; rfl) (Steps.refl _) (argsL := [(.int bf1), (.int be)]) (rest := [frV, (.ref a233), (.int ng), (.ref b217), (.ref b217)]) (lenOf pd_471 rfl) rfl (by show 2 * 0 + _ ≤ _; rcases ref_cases (own_isR (own_optV ofr)) with hq | ⟨_, hq⟩ <;> rw [hq] <;> exact Nat.le_of_eq rfl) (hb hby d7_122) (fun _ _ => ⟨rfl, e240, (by decide : 6 + 2 ≤ _), (by decide : 24 + 8 ≤ _)⟩)
          dsimp only [Pt.U, Pt.locs, Pt.cells, Pt.slots] at X258r S258r g258r l258 y258 z258 st258 hQ258
          subst l258 y258 z258
          obtain ⟨X258, hSi258, hZ, hown⟩ := rebS hSi240 (show _ ≤ T240.heap.size by rw [e240]; exact hSq240) X258r S258r g258r hZ hown
          obtain ⟨w258, rfl, N258q, E258, a258, rfl⟩ := hQ258
          have N258 := Fr.app N240 N258q
          have e258 : T258.heap = T258.heap := rfl
          have hSk258 := Nat.le_trans hSq240 E258.1
          have EX258 := own_ext_trans EX240 E258
          have KP258 := Keep.ext KP240 E258
          have hm2 := hc108_255; rw [Int32.lt_iff_toInt_lt] at hm2
          refine ⟨T258.vm, T258, _, T258.heap, _, (.ref a258), X258.mono (by decide) (by decide), e258, N258, E258, hSi258, (Nat.le_refl T258.heap.size), hZ, hown, Or.inr ⟨by omega, _, rfl⟩, fun t kt => ?_⟩
          refine ck257 _ ?_
          refine st258.trans ?_
          show Steps p.tables e below (T258.setTop (mkF m 125 #[.val (.ref a1), .val (.ref bo), .val (.int lf)] [(.ref a258), frV, (.ref a233), (.int ng), (.ref b217), (.ref b217)])) _
          refine XS.goto X258.here hx rfl (pc0 := 125) (pc' := 129) rfl (hb hby d7_125) (by decide) (by decide) ?_
          exact kt
        · -- pc 108: no
          have hm2 := hc108_255; rw [Int32.lt_iff_toInt_lt] at hm2
          refine ⟨vJ240, T240, _, h240, _, .null, X240.mono (by decide) (by decide), e240, N240, own_ext_refl _, hSi240, hSq240, hZ, hown, Or.inl ⟨by omega, rfl⟩, fun t kt => ?_⟩
          refine ck256 _ ?_
          refine XS.icmpYes X240.here hx rfl (pc0 := 108) (pc' := 128) rfl (hb hby d7_108) rfl (flt hc108_255).2.2.2 (by decide) (by decide) ?_
          refine XS.aconstNull X240.here hx rfl (hb hby d7_128) ?_
          exact kt
      have hSk252 := Nat.le_trans hSq240 EJ252.1
      have EX252 := own_ext_trans EX240 EJ252
      have KP252 := Keep.ext KP240 EJ252
      have oex := hj252_0
      have Fx259 := (((A217.ext E233).ext EJ240).ext EJ252)
      have Fx260 := (((F217_negative.ext E233).ext EJ240).ext EJ252)
      have Fx261 := (((F217_digits.ext E233).ext EJ240).ext EJ252)
      have Fx262 := (((F217_fraction.ext E233).ext EJ240).ext EJ252)
      have Fx263 := (((F217_exponent.ext E233).ext EJ240).ext EJ252)
      obtain ⟨_, _, ⟨T264, L264, k264, n264⟩, -, X264, ⟨Lc264, hQ264, l264, y264, z264⟩, st264⟩ := X252.specialBack hx (y := (⟨"com/example/rowstrata/rowstrata/type/Numeral", "<init>", "(ZLjava/lang/String;Ljava/lang/String;Ljava/lang/String;)V"⟩ : MethodName)) rfl hown (mvT hZ (own_q hw 166 rfl)) (mvT hZ (own_q hw 66 rfl)) (mvT hZ (own_q hw 67 rfl)) (by decide) (backOf (W := 1) (rm_nin l Z a0 hw [] b217 ng a233 frV exV h252 n0 (Nat.le_trans Z0 EX252.1) hng (own_isR (own_optV ofr)) (own_isR (own_optV oex)) Fx259 Fx260 Fx261 Fx262 Fx263 gn_b217) hZ (own_q hw 67 rfl) (own_q hw 40 rfl) (by decide) (by decide)) (g := (mkF m 129 #[.val (.ref a1), .val (.ref bo), .val (.int lf)] [exV, frV, (.ref a233), (.int ng), (.ref b217), (.ref b217)])) rfl (by rw [hml]; rfl) (Steps.refl _) (a := b217) (argsL := [(.int ng), (.ref a233), frV, exV]) (rest := [(.ref b217)]) (lenOf pd_500 rfl) rfl (by show 2 * 0 + _ ≤ _; exact Nat.le_of_eq rfl) (hb hby d7_129) (fun _ _ => ⟨rfl, e252, (by decide : 8 + 0 ≤ _), (by decide : 32 + 0 ≤ _)⟩)
      dsimp only [Pt.U, Pt.locs, Pt.cells, Pt.slots] at X264 l264 y264 z264 st264 hQ264
      subst l264 y264 z264
      obtain ⟨rfl, N264q, K264, Ea264, Ff264, Fe264⟩ := hQ264
      have N264 := Fr.app N252 N264q
      have e264 : T264.heap = T264.heap := rfl
      have hSk264 := Nat.le_trans hSq252 K264.1
      have EX264 := own_ext_keep EX252 K264 (allS sz_b217 all0)
      have KP264 := Keep.trans KP252 K264 (allS (Or.inr sz_b217) all0)
      obtain ⟨fs, hr, hrun, hended, hW⟩ := X264.leaveW hSi252 (show _ ≤ T264.heap.size by rw [e264]; exact hSk264) (v := some (.ref b217)) (fun h => by rw [Bd.returns] at h; cases h)
      refine ⟨_, _, ck252 _ ?_, hrun, hended, _, _, rfl, ?_, own_retW (k := 8) (n := 32) hW (by decide) (by decide)⟩
      · refine st264.trans ?_
        show Steps p.tables e below (T264.setTop (mkF m 132 #[.val (.ref a1), .val (.ref bo), .val (.int lf)] [(.ref b217)])) _
        exact retOut X264 hx Bd.returns rfl (Or.inr (Or.inr (Or.inr (Or.inr ⟨rfl, rfl, rfl⟩)))) (hb hby d7_132) hr
      · show own_Of Z ch z.toNatClampNeg h0 n0 _ T264.heap _
        exact ⟨N264, EX264, Or.inr ⟨⟨hnul, by omega⟩, b217, _, _, rfl, Ea264, Ff264, Fe264, ofr, oex⟩⟩
    · -- pc 18: no
      have hez := (fun q => hc18_209 (Int32.toInt_inj.mp q) : ¬ be.toInt = z.toInt)
      obtain ⟨fs, hr, hrun, hended, hW⟩ := X208.leaveW hSi0 (show _ ≤ T208.heap.size by rw [e208]; exact hSk207) (v := some .null) (fun h => by rw [Bd.returns] at h; cases h)
      refine ⟨_, _, ck210 _ ?_, hrun, hended, _, _, rfl, ?_, own_retW (k := 1) (n := 4) hW (by decide) (by decide)⟩
      · refine XS.icmpNo X208.here hx rfl (hb hby d7_18) rfl (feq hc18_209).1 ?_
        refine XS.aconstNull X208.here hx rfl (hb hby d7_21) ?_
        exact retOut X208 hx Bd.returns rfl (Or.inr (Or.inr (Or.inr (Or.inr ⟨rfl, rfl, rfl⟩)))) (hb hby d7_22) hr
      · show own_Of Z ch z.toNatClampNeg h0 n0 _ T208.heap _
        rw [e208]
        exact ⟨N208, EX207, Or.inl ⟨fun q => hez (by have := q.2; omega), rfl⟩⟩
theorem d15_0 : decode method_2_code 0 = .ok (.iload_n 0, 1) := by decide +kernel
theorem d15_1 : decode method_2_code 1 = .ok (.bipush 7, 2) := by decide +kernel
theorem d15_3 : decode method_2_code 3 = .ok (.iand, 1) := by decide +kernel
theorem d15_4 : decode method_2_code 4 = .ok (.istore_n 1, 1) := by decide +kernel
theorem d15_5 : decode method_2_code 5 = .ok (.iload_n 0, 1) := by decide +kernel
theorem d15_6 : decode method_2_code 6 = .ok (.iconst 3, 1) := by decide +kernel
theorem d15_7 : decode method_2_code 7 = .ok (.iushr, 1) := by decide +kernel
theorem d15_8 : decode method_2_code 8 = .ok (.istore_n 2, 1) := by decide +kernel
theorem d15_9 : decode method_2_code 9 = .ok (.iload_n 1, 1) := by decide +kernel
theorem d15_10 : decode method_2_code 10 = .ok (.ifCond .eq 9, 3) := by decide +kernel
theorem d15_19 : decode method_2_code 19 = .ok (.bipush 48, 2) := by decide +kernel
theorem d15_21 : decode method_2_code 21 = .ok (.iload_n 2, 1) := by decide +kernel
theorem d15_22 : decode method_2_code 22 = .ok (.bipush 10, 2) := by decide +kernel
theorem d15_24 : decode method_2_code 24 = .ok (.irem, 1) := by decide +kernel
theorem d15_25 : decode method_2_code 25 = .ok (.iadd, 1) := by decide +kernel
theorem d15_26 : decode method_2_code 26 = .ok (.i2c, 1) := by decide +kernel
theorem d15_27 : decode method_2_code 27 = .ok (.ireturn, 1) := by decide +kernel
theorem d15_13 : decode method_2_code 13 = .ok (.iload_n 1, 1) := by decide +kernel
theorem d15_14 : decode method_2_code 14 = .ok (.bipush 7, 2) := by decide +kernel
theorem d15_16 : decode method_2_code 16 = .ok (.if_icmp .ne 12, 3) := by decide +kernel
theorem d15_28 : decode method_2_code 28 = .ok (.iload_n 1, 1) := by decide +kernel
theorem d15_29 : decode method_2_code 29 = .ok (.iconst 1, 1) := by decide +kernel
theorem d15_30 : decode method_2_code 30 = .ok (.if_icmp .ne 6, 3) := by decide +kernel
theorem d15_33 : decode method_2_code 33 = .ok (.bipush 46, 2) := by decide +kernel
theorem d15_35 : decode method_2_code 35 = .ok (.ireturn, 1) := by decide +kernel
theorem d15_36 : decode method_2_code 36 = .ok (.iload_n 1, 1) := by decide +kernel
theorem d15_37 : decode method_2_code 37 = .ok (.iconst 2, 1) := by decide +kernel
theorem d15_38 : decode method_2_code 38 = .ok (.if_icmp .ne 6, 3) := by decide +kernel
theorem d15_41 : decode method_2_code 41 = .ok (.bipush 101, 2) := by decide +kernel
theorem d15_43 : decode method_2_code 43 = .ok (.ireturn, 1) := by decide +kernel
theorem d15_44 : decode method_2_code 44 = .ok (.iload_n 1, 1) := by decide +kernel
theorem d15_45 : decode method_2_code 45 = .ok (.iconst 3, 1) := by decide +kernel
theorem d15_46 : decode method_2_code 46 = .ok (.if_icmp .ne 6, 3) := by decide +kernel
theorem d15_49 : decode method_2_code 49 = .ok (.bipush 69, 2) := by decide +kernel
theorem d15_51 : decode method_2_code 51 = .ok (.ireturn, 1) := by decide +kernel
theorem d15_52 : decode method_2_code 52 = .ok (.iload_n 1, 1) := by decide +kernel
theorem d15_53 : decode method_2_code 53 = .ok (.iconst 4, 1) := by decide +kernel
theorem d15_54 : decode method_2_code 54 = .ok (.if_icmp .ne 6, 3) := by decide +kernel
theorem d15_57 : decode method_2_code 57 = .ok (.bipush 43, 2) := by decide +kernel
theorem d15_59 : decode method_2_code 59 = .ok (.ireturn, 1) := by decide +kernel
theorem d15_60 : decode method_2_code 60 = .ok (.iload_n 1, 1) := by decide +kernel
theorem d15_61 : decode method_2_code 61 = .ok (.iconst 5, 1) := by decide +kernel
theorem d15_62 : decode method_2_code 62 = .ok (.if_icmp .ne 6, 3) := by decide +kernel
theorem d15_65 : decode method_2_code 65 = .ok (.bipush 45, 2) := by decide +kernel
theorem d15_67 : decode method_2_code 67 = .ok (.ireturn, 1) := by decide +kernel
theorem d15_68 : decode method_2_code 68 = .ok (.iload_n 2, 1) := by decide +kernel
theorem d15_69 : decode method_2_code 69 = .ok (.sipush 255, 3) := by decide +kernel
theorem d15_72 : decode method_2_code 72 = .ok (.iand, 1) := by decide +kernel
theorem d15_73 : decode method_2_code 73 = .ok (.i2c, 1) := by decide +kernel
theorem d15_74 : decode method_2_code 74 = .ok (.ireturn, 1) := by decide +kernel
theorem ef_rm_chr (m : MethodId) (x0 : Int32) : entryFrame m #[(.int x0)] 3 = mkF m 0 #[.val (.int x0), .unset, .unset] [] := by first | (simp [entryFrame, mkF, argsToLocals, Value.category]; done) | rfl
set_option maxRecDepth 65536 in
set_option maxHeartbeats 40000000 in
theorem rm_chr (l : Launch) (Z : State) (a0 : Array Value) (hw : ∀ d ∈ tables_1, d.before a0 Z = true) (ws : List Jvm.Cond) (x : Int32) (h0 : Heap) (n0 : Nat) (Z0 : n0 ≤ h0.size)  :
    MetFree l (⟨"com/example/rowstrata/rowstrata/type/NumeralIsWholePinLaw", "chr", "(I)C"⟩ : MethodName) (head1 (Jvm.Cond.code (⟨"com/example/rowstrata/rowstrata/type/NumeralIsWholePinLaw", "chr", "(I)C"⟩ : MethodName) method_2_code 3 (some .char) :: ws) ({ frames := 0, cells := 0, slots := 0, locals := 0 } : Room)) (fun aQ UQ => aQ = #[(.int x)] ∧ Z.Warmed39 UQ.vm ∧ UQ.heap = h0) (fun _ _ _ _ _ => True) (fun _ UQ oQ UR => ∃ vQ LQ, oQ = .returned vQ ∧ own_Chr h0 n0 vQ UR.heap LQ ∧ FrameEnd UQ oQ UR LQ ({ frames := 0, cells := 0, slots := 0, locals := 0 } : Room).cells ({ frames := 0, cells := 0, slots := 0, locals := 0 } : Room).slots) := by
  refine MetFree.of_bodySF (plainFor_of_name pn_86) hisR ?_
  intro p e s m args below meth c s₁ Bd hml0 hP hK
  obtain ⟨rfl, hZ, hh⟩ := hP
  have hx := Bd.exec
  have hby := Bd.bytes
  have hml : c.maxLocals = 3 := hml0
  have hown : s.vm.findClass "com/example/rowstrata/rowstrata/type/NumeralIsWholePinLaw" = some m.cls := findClass_of_methodNamed Bd.named
  have hnm := (name_of_methodNamed Bd.named Bd.method).1
  have X0 : Stand p l e ({ frames := 0, cells := 0, slots := 0, locals := 0 } : Room) s m #[(.int x)] below meth c s₁ [] 0 0 := Stand.of_body Bd
  have e0 : s₁.heap = h0 := by rw [← hh, Bd.state]; rfl
  have N0 := Fr.nil n0
  have pre0 : ∀ t, Steps p.tables e below (s₁.setTop (mkF m 0 #[.val (.int x), .unset, .unset] [])) t → Steps p.tables e below (s₁.setTop (entryFrame m #[(.int x)] 3)) t := fun t kq => castTop (ef_rm_chr m x) kq
  have ck266 : ∀ t, Steps p.tables e below (s₁.setTop (mkF m 10 #[.val (.int x), .val (.int (x &&& (7 : Int32))), .val (.int ((x.toUInt32 >>> ((3 : Int32) &&& 31).toUInt32).toInt32))] [(.int (x &&& (7 : Int32)))])) t → Steps p.tables e below (s₁.setTop (entryFrame m #[(.int x)] 3)) t := by
    intro t kt
    refine pre0 _ ?_
    refine XS.iloadN X0.here hx rfl (hb hby d15_0) rfl ?_
    refine XS.bipush X0.here hx rfl (hb hby d15_1) ?_
    refine XS.iand X0.here hx rfl (hb hby d15_3) rfl ?_
    refine XS.istoreN X0.here hx rfl (hb hby d15_4) rfl (l' := #[.val (.int x), .val (.int (x &&& (7 : Int32))), .unset]) rfl ?_
    refine XS.iloadN X0.here hx rfl (hb hby d15_5) rfl ?_
    refine XS.iconst X0.here hx rfl (hb hby d15_6) ?_
    refine XS.iushr X0.here hx rfl (hb hby d15_7) rfl ?_
    refine XS.istoreN X0.here hx rfl (hb hby d15_8) rfl (l' := #[.val (.int x), .val (.int (x &&& (7 : Int32))), .val (.int ((x.toUInt32 >>> ((3 : Int32) &&& 31).toUInt32).toInt32))]) rfl ?_
    refine XS.iloadN X0.here hx rfl (hb hby d15_9) rfl ?_
    exact kt
  by_cases hc10_265 : (x &&& (7 : Int32)) = (0 : Int32)
  · -- pc 10: yes
    obtain ⟨fs, hr, hrun, hended, hW, hsame⟩ := X0.leave (v := some (.int (nar .char (((48 : Int32) + (((x.toUInt32 >>> ((3 : Int32) &&& 31).toUInt32).toInt32) % (10 : Int32))).toUInt32.toUInt16.toUInt32.toInt32)))) (fun h => by rw [Bd.returns] at h; cases h)
    refine ⟨_, _, ck266 _ ?_, hrun, hended, _, _, rfl, ?_, ⟨_, rfl⟩, hW, hsame.mono (by decide) (by decide)⟩
    · refine XS.ifYes X0.here hx rfl (pc0 := 10) (pc' := 19) rfl (hb hby d15_10) rfl ((if0 _ _).trans (teq hc10_265).1) (by decide) (by decide) ?_
      refine XS.bipush X0.here hx rfl (hb hby d15_19) ?_
      refine XS.iloadN X0.here hx rfl (hb hby d15_21) rfl ?_
      refine XS.bipush X0.here hx rfl (hb hby d15_22) ?_
      refine Jvm.RoadKit.iremM (g := (mkF m 24 #[.val (.int x), .val (.int (x &&& (7 : Int32))), .val (.int ((x.toUInt32 >>> ((3 : Int32) &&& 31).toUInt32).toInt32))] [(.int (10 : Int32)), (.int ((x.toUInt32 >>> ((3 : Int32) &&& 31).toUInt32).toInt32)), (.int (48 : Int32))])) X0 hx rfl (hb hby d15_24) rfl (by decide) ?_
      show Steps p.tables e below (s₁.setTop (mkF m 25 #[.val (.int x), .val (.int (x &&& (7 : Int32))), .val (.int ((x.toUInt32 >>> ((3 : Int32) &&& 31).toUInt32).toInt32))] [(.int (((x.toUInt32 >>> ((3 : Int32) &&& 31).toUInt32).toInt32) % (10 : Int32))), (.int (48 : Int32))])) _
      refine XS.iadd X0.here hx rfl (hb hby d15_25) rfl ?_
      refine XS.i2c X0.here hx rfl (hb hby d15_26) rfl ?_
      exact retN X0 hx (t := .char) Bd.returns (by simp) (hb hby d15_27) hr
    · show own_Chr h0 n0 _ s₁.heap _
      rw [e0]
      exact ⟨_, rfl, N0, rfl, own_narCle (own_c1 x)⟩
  · -- pc 10: no
    by_cases hc16_267 : (x &&& (7 : Int32)) = (7 : Int32)
    · -- pc 16: yes
      obtain ⟨fs, hr, hrun, hended, hW, hsame⟩ := X0.leave (v := some (.int (nar .char (((48 : Int32) + (((x.toUInt32 >>> ((3 : Int32) &&& 31).toUInt32).toInt32) % (10 : Int32))).toUInt32.toUInt16.toUInt32.toInt32)))) (fun h => by rw [Bd.returns] at h; cases h)
      refine ⟨_, _, ck266 _ ?_, hrun, hended, _, _, rfl, ?_, ⟨_, rfl⟩, hW, hsame.mono (by decide) (by decide)⟩
      · refine XS.ifNo X0.here hx rfl (hb hby d15_10) rfl ((if0 _ _).trans (feq hc10_265).1) ?_
        refine XS.iloadN X0.here hx rfl (hb hby d15_13) rfl ?_
        refine XS.bipush X0.here hx rfl (hb hby d15_14) ?_
        refine XS.icmpNo X0.here hx rfl (hb hby d15_16) rfl (teq hc16_267).2 ?_
        refine XS.bipush X0.here hx rfl (hb hby d15_19) ?_
        refine XS.iloadN X0.here hx rfl (hb hby d15_21) rfl ?_
        refine XS.bipush X0.here hx rfl (hb hby d15_22) ?_
        refine Jvm.RoadKit.iremM (g := (mkF m 24 #[.val (.int x), .val (.int (x &&& (7 : Int32))), .val (.int ((x.toUInt32 >>> ((3 : Int32) &&& 31).toUInt32).toInt32))] [(.int (10 : Int32)), (.int ((x.toUInt32 >>> ((3 : Int32) &&& 31).toUInt32).toInt32)), (.int (48 : Int32))])) X0 hx rfl (hb hby d15_24) rfl (by decide) ?_
        show Steps p.tables e below (s₁.setTop (mkF m 25 #[.val (.int x), .val (.int (x &&& (7 : Int32))), .val (.int ((x.toUInt32 >>> ((3 : Int32) &&& 31).toUInt32).toInt32))] [(.int (((x.toUInt32 >>> ((3 : Int32) &&& 31).toUInt32).toInt32) % (10 : Int32))), (.int (48 : Int32))])) _
        refine XS.iadd X0.here hx rfl (hb hby d15_25) rfl ?_
        refine XS.i2c X0.here hx rfl (hb hby d15_26) rfl ?_
        exact retN X0 hx (t := .char) Bd.returns (by simp) (hb hby d15_27) hr
      · show own_Chr h0 n0 _ s₁.heap _
        rw [e0]
        exact ⟨_, rfl, N0, rfl, own_narCle (own_c1 x)⟩
    · -- pc 16: no
      have ck269 : ∀ t, Steps p.tables e below (s₁.setTop (mkF m 30 #[.val (.int x), .val (.int (x &&& (7 : Int32))), .val (.int ((x.toUInt32 >>> ((3 : Int32) &&& 31).toUInt32).toInt32))] [(.int (1 : Int32)), (.int (x &&& (7 : Int32)))])) t → Steps p.tables e below (s₁.setTop (entryFrame m #[(.int x)] 3)) t := by
        intro t kt
        refine ck266 _ ?_
        refine XS.ifNo X0.here hx rfl (hb hby d15_10) rfl ((if0 _ _).trans (feq hc10_265).1) ?_
        refine XS.iloadN X0.here hx rfl (hb hby d15_13) rfl ?_
        refine XS.bipush X0.here hx rfl (hb hby d15_14) ?_
        refine XS.icmpYes X0.here hx rfl (pc0 := 16) (pc' := 28) rfl (hb hby d15_16) rfl (feq hc16_267).2 (by decide) (by decide) ?_
        refine XS.iloadN X0.here hx rfl (hb hby d15_28) rfl ?_
        refine XS.iconst X0.here hx rfl (hb hby d15_29) ?_
        exact kt
      by_cases hc30_268 : (x &&& (7 : Int32)) = (1 : Int32)
      · -- pc 30: yes
        obtain ⟨fs, hr, hrun, hended, hW, hsame⟩ := X0.leave (v := some (.int (46 : Int32))) (fun h => by rw [Bd.returns] at h; cases h)
        refine ⟨_, _, ck269 _ ?_, hrun, hended, _, _, rfl, ?_, ⟨_, rfl⟩, hW, hsame.mono (by decide) (by decide)⟩
        · refine XS.icmpNo X0.here hx rfl (hb hby d15_30) rfl (teq hc30_268).2 ?_
          refine XS.bipush X0.here hx rfl (hb hby d15_33) ?_
          exact retN X0 hx (t := .char) Bd.returns (by simp) (hb hby d15_35) hr
        · show own_Chr h0 n0 _ s₁.heap _
          rw [e0]
          exact ⟨_, rfl, N0, rfl, by decide, by decide⟩
      · -- pc 30: no
        by_cases hc38_270 : (x &&& (7 : Int32)) = (2 : Int32)
        · -- pc 38: yes
          obtain ⟨fs, hr, hrun, hended, hW, hsame⟩ := X0.leave (v := some (.int (101 : Int32))) (fun h => by rw [Bd.returns] at h; cases h)
          refine ⟨_, _, ck269 _ ?_, hrun, hended, _, _, rfl, ?_, ⟨_, rfl⟩, hW, hsame.mono (by decide) (by decide)⟩
          · refine XS.icmpYes X0.here hx rfl (pc0 := 30) (pc' := 36) rfl (hb hby d15_30) rfl (feq hc30_268).2 (by decide) (by decide) ?_
            refine XS.iloadN X0.here hx rfl (hb hby d15_36) rfl ?_
            refine XS.iconst X0.here hx rfl (hb hby d15_37) ?_
            refine XS.icmpNo X0.here hx rfl (hb hby d15_38) rfl (teq hc38_270).2 ?_
            refine XS.bipush X0.here hx rfl (hb hby d15_41) ?_
            exact retN X0 hx (t := .char) Bd.returns (by simp) (hb hby d15_43) hr
          · show own_Chr h0 n0 _ s₁.heap _
            rw [e0]
            exact ⟨_, rfl, N0, rfl, by decide, by decide⟩
        · -- pc 38: no
          have ck272 : ∀ t, Steps p.tables e below (s₁.setTop (mkF m 46 #[.val (.int x), .val (.int (x &&& (7 : Int32))), .val (.int ((x.toUInt32 >>> ((3 : Int32) &&& 31).toUInt32).toInt32))] [(.int (3 : Int32)), (.int (x &&& (7 : Int32)))])) t → Steps p.tables e below (s₁.setTop (entryFrame m #[(.int x)] 3)) t := by
            intro t kt
            refine ck269 _ ?_
            refine XS.icmpYes X0.here hx rfl (pc0 := 30) (pc' := 36) rfl (hb hby d15_30) rfl (feq hc30_268).2 (by decide) (by decide) ?_
            refine XS.iloadN X0.here hx rfl (hb hby d15_36) rfl ?_
            refine XS.iconst X0.here hx rfl (hb hby d15_37) ?_
            refine XS.icmpYes X0.here hx rfl (pc0 := 38) (pc' := 44) rfl (hb hby d15_38) rfl (feq hc38_270).2 (by decide) (by decide) ?_
            refine XS.iloadN X0.here hx rfl (hb hby d15_44) rfl ?_
            refine XS.iconst X0.here hx rfl (hb hby d15_45) ?_
            exact kt
          by_cases hc46_271 : (x &&& (7 : Int32)) = (3 : Int32)
          · -- pc 46: yes
            obtain ⟨fs, hr, hrun, hended, hW, hsame⟩ := X0.leave (v := some (.int (69 : Int32))) (fun h => by rw [Bd.returns] at h; cases h)
            refine ⟨_, _, ck272 _ ?_, hrun, hended, _, _, rfl, ?_, ⟨_, rfl⟩, hW, hsame.mono (by decide) (by decide)⟩
            · refine XS.icmpNo X0.here hx rfl (hb hby d15_46) rfl (teq hc46_271).2 ?_
              refine XS.bipush X0.here hx rfl (hb hby d15_49) ?_
              exact retN X0 hx (t := .char) Bd.returns (by simp) (hb hby d15_51) hr
            · show own_Chr h0 n0 _ s₁.heap _
              rw [e0]
              exact ⟨_, rfl, N0, rfl, by decide, by decide⟩
          · -- pc 46: no
            by_cases hc54_273 : (x &&& (7 : Int32)) = (4 : Int32)
            · -- pc 54: yes
              obtain ⟨fs, hr, hrun, hended, hW, hsame⟩ := X0.leave (v := some (.int (43 : Int32))) (fun h => by rw [Bd.returns] at h; cases h)
              refine ⟨_, _, ck272 _ ?_, hrun, hended, _, _, rfl, ?_, ⟨_, rfl⟩, hW, hsame.mono (by decide) (by decide)⟩
              · refine XS.icmpYes X0.here hx rfl (pc0 := 46) (pc' := 52) rfl (hb hby d15_46) rfl (feq hc46_271).2 (by decide) (by decide) ?_
                refine XS.iloadN X0.here hx rfl (hb hby d15_52) rfl ?_
                refine XS.iconst X0.here hx rfl (hb hby d15_53) ?_
                refine XS.icmpNo X0.here hx rfl (hb hby d15_54) rfl (teq hc54_273).2 ?_
                refine XS.bipush X0.here hx rfl (hb hby d15_57) ?_
                exact retN X0 hx (t := .char) Bd.returns (by simp) (hb hby d15_59) hr
              · show own_Chr h0 n0 _ s₁.heap _
                rw [e0]
                exact ⟨_, rfl, N0, rfl, by decide, by decide⟩
            · -- pc 54: no
              have ck275 : ∀ t, Steps p.tables e below (s₁.setTop (mkF m 62 #[.val (.int x), .val (.int (x &&& (7 : Int32))), .val (.int ((x.toUInt32 >>> ((3 : Int32) &&& 31).toUInt32).toInt32))] [(.int (5 : Int32)), (.int (x &&& (7 : Int32)))])) t → Steps p.tables e below (s₁.setTop (entryFrame m #[(.int x)] 3)) t := by
                intro t kt
                refine ck272 _ ?_
                refine XS.icmpYes X0.here hx rfl (pc0 := 46) (pc' := 52) rfl (hb hby d15_46) rfl (feq hc46_271).2 (by decide) (by decide) ?_
                refine XS.iloadN X0.here hx rfl (hb hby d15_52) rfl ?_
                refine XS.iconst X0.here hx rfl (hb hby d15_53) ?_
                refine XS.icmpYes X0.here hx rfl (pc0 := 54) (pc' := 60) rfl (hb hby d15_54) rfl (feq hc54_273).2 (by decide) (by decide) ?_
                refine XS.iloadN X0.here hx rfl (hb hby d15_60) rfl ?_
                refine XS.iconst X0.here hx rfl (hb hby d15_61) ?_
                exact kt
              by_cases hc62_274 : (x &&& (7 : Int32)) = (5 : Int32)
              · -- pc 62: yes
                obtain ⟨fs, hr, hrun, hended, hW, hsame⟩ := X0.leave (v := some (.int (45 : Int32))) (fun h => by rw [Bd.returns] at h; cases h)
                refine ⟨_, _, ck275 _ ?_, hrun, hended, _, _, rfl, ?_, ⟨_, rfl⟩, hW, hsame.mono (by decide) (by decide)⟩
                · refine XS.icmpNo X0.here hx rfl (hb hby d15_62) rfl (teq hc62_274).2 ?_
                  refine XS.bipush X0.here hx rfl (hb hby d15_65) ?_
                  exact retN X0 hx (t := .char) Bd.returns (by simp) (hb hby d15_67) hr
                · show own_Chr h0 n0 _ s₁.heap _
                  rw [e0]
                  exact ⟨_, rfl, N0, rfl, by decide, by decide⟩
              · -- pc 62: no
                obtain ⟨fs, hr, hrun, hended, hW, hsame⟩ := X0.leave (v := some (.int (nar .char ((((x.toUInt32 >>> ((3 : Int32) &&& 31).toUInt32).toInt32) &&& (255 : Int32)).toUInt32.toUInt16.toUInt32.toInt32)))) (fun h => by rw [Bd.returns] at h; cases h)
                refine ⟨_, _, ck275 _ ?_, hrun, hended, _, _, rfl, ?_, ⟨_, rfl⟩, hW, hsame.mono (by decide) (by decide)⟩
                · refine XS.icmpYes X0.here hx rfl (pc0 := 62) (pc' := 68) rfl (hb hby d15_62) rfl (feq hc62_274).2 (by decide) (by decide) ?_
                  refine XS.iloadN X0.here hx rfl (hb hby d15_68) rfl ?_
                  refine XS.sipush X0.here hx rfl (hb hby d15_69) ?_
                  refine XS.iand X0.here hx rfl (hb hby d15_72) rfl ?_
                  refine XS.i2c X0.here hx rfl (hb hby d15_73) rfl ?_
                  exact retN X0 hx (t := .char) Bd.returns (by simp) (hb hby d15_74) hr
                · show own_Chr h0 n0 _ s₁.heap _
                  rw [e0]
                  exact ⟨_, rfl, N0, rfl, own_narCle (own_c2 _)⟩
theorem d17_0 : decode jdk_52_method_21_code 0 = .ok (.iconst 0, 1) := by decide +kernel
theorem d17_1 : decode jdk_52_method_21_code 1 = .ok (.istore 5, 2) := by decide +kernel
theorem d17_3 : decode jdk_52_method_21_code 3 = .ok (.iload 5, 2) := by decide +kernel
theorem d17_5 : decode jdk_52_method_21_code 5 = .ok (.iload 4, 2) := by decide +kernel
theorem d17_7 : decode jdk_52_method_21_code 7 = .ok (.if_icmp .ge 37, 3) := by decide +kernel
theorem d17_10 : decode jdk_52_method_21_code 10 = .ok (.aload_n 0, 1) := by decide +kernel
theorem d17_11 : decode jdk_52_method_21_code 11 = .ok (.iload_n 1, 1) := by decide +kernel
theorem d17_12 : decode jdk_52_method_21_code 12 = .ok (.caload, 1) := by decide +kernel
theorem d17_13 : decode jdk_52_method_21_code 13 = .ok (.istore 6, 2) := by decide +kernel
theorem d17_15 : decode jdk_52_method_21_code 15 = .ok (.iload 6, 2) := by decide +kernel
theorem d17_17 : decode jdk_52_method_21_code 17 = .ok (.sipush 255, 3) := by decide +kernel
theorem d17_20 : decode jdk_52_method_21_code 20 = .ok (.if_icmp .le 6, 3) := by decide +kernel
theorem d17_26 : decode jdk_52_method_21_code 26 = .ok (.aload_n 2, 1) := by decide +kernel
theorem d17_27 : decode jdk_52_method_21_code 27 = .ok (.iload_n 3, 1) := by decide +kernel
theorem d17_28 : decode jdk_52_method_21_code 28 = .ok (.iload 6, 2) := by decide +kernel
theorem d17_30 : decode jdk_52_method_21_code 30 = .ok (.i2b, 1) := by decide +kernel
theorem d17_31 : decode jdk_52_method_21_code 31 = .ok (.bastore, 1) := by decide +kernel
theorem d17_32 : decode jdk_52_method_21_code 32 = .ok (.iinc 1 1, 3) := by decide +kernel
theorem d17_35 : decode jdk_52_method_21_code 35 = .ok (.iinc 3 1, 3) := by decide +kernel
theorem d17_38 : decode jdk_52_method_21_code 38 = .ok (.iinc 5 1, 3) := by decide +kernel
theorem d17_41 : decode jdk_52_method_21_code 41 = .ok (.goto (-38), 3) := by decide +kernel
theorem d17_44 : decode jdk_52_method_21_code 44 = .ok (.iload 4, 2) := by decide +kernel
theorem d17_46 : decode jdk_52_method_21_code 46 = .ok (.ireturn, 1) := by decide +kernel
theorem pn_576 : plainName "java/lang/StringUTF16" = true := by first | (simp [plainName, overriddenIn]; done) | decide +kernel
theorem ef_rm_cm2_1 (m : MethodId) (x0 : Addr) (x2 : Addr) : entryFrame m #[(.ref x0), (.int (0 : Int32)), (.ref x2), (.int (0 : Int32)), (.int (1 : Int32))] 7 = mkF m 0 #[.val (.ref x0), .val (.int (0 : Int32)), .val (.ref x2), .val (.int (0 : Int32)), .val (.int (1 : Int32)), .unset, .unset] [] := by first | (simp [entryFrame, mkF, argsToLocals, Value.category]; done) | rfl
set_option maxRecDepth 65536 in
set_option maxHeartbeats 40000000 in
theorem rm_cm2_1 (l : Launch) (Z : State) (a0 : Array Value) (hw : ∀ d ∈ tables_1, d.before a0 Z = true) (ws : List Jvm.Cond) (ca : Addr) (bb : Addr) (h0 : Heap) (n0 : Nat) (Z0 : n0 ≤ h0.size) (kc : ClassId) (c0_ : Int32) (A_c : Arv Z h0 ca kc .char (1 : Int32) [(.int c0_)] (.int (0 : Int32))) (hc : (0 ≤ c0_.toInt ∧ c0_.toInt ≤ 255)) (kb : ClassId) (B_b : own_FB Z h0 bb kb (1 : Int32) (fun _ => (0 : Int32))) (ncb : ca ≠ bb) (gn_b : n0 ≤ bb) :
    MetFree l (⟨"java/lang/StringUTF16", "compress", "([CI[BII)I"⟩ : MethodName) (head1 (Jvm.Cond.code (⟨"java/lang/StringUTF16", "compress", "([CI[BII)I"⟩ : MethodName) jdk_52_method_21_code 7 (some .int) :: ws) ({ frames := 0, cells := 0, slots := 0, locals := 0 } : Room)) (fun aQ UQ => aQ = #[(.ref ca), (.int (0 : Int32)), (.ref bb), (.int (0 : Int32)), (.int (1 : Int32))] ∧ Z.Warmed39 UQ.vm ∧ UQ.heap = h0) (fun _ _ _ _ _ => True) (fun _ UQ oQ UR => ∃ vQ LQ, oQ = .returned vQ ∧ own_Cmp Z bb kb (1 : Int32) [c0_] h0 n0 vQ UR.heap LQ ∧ FrameEnd UQ oQ UR LQ ({ frames := 0, cells := 0, slots := 0, locals := 0 } : Room).cells ({ frames := 0, cells := 0, slots := 0, locals := 0 } : Room).slots) := by
  refine MetFree.of_bodySF (plainFor_of_name pn_576) hisR ?_
  intro p e s m args below meth c s₁ Bd hml0 hP hK
  obtain ⟨rfl, hZ, hh⟩ := hP
  have hx := Bd.exec
  have hby := Bd.bytes
  have hml : c.maxLocals = 7 := hml0
  have hown : s.vm.findClass "java/lang/StringUTF16" = some m.cls := findClass_of_methodNamed Bd.named
  have hnm := (name_of_methodNamed Bd.named Bd.method).1
  have X0 : Stand p l e ({ frames := 0, cells := 0, slots := 0, locals := 0 } : Room) s m #[(.ref ca), (.int (0 : Int32)), (.ref bb), (.int (0 : Int32)), (.int (1 : Int32))] below meth c s₁ [] 0 0 := Stand.of_body Bd
  have e0 : s₁.heap = h0 := by rw [← hh, Bd.state]; rfl
  have N0 := Fr.nil n0
  have pre0 : ∀ t, Steps p.tables e below (s₁.setTop (mkF m 0 #[.val (.ref ca), .val (.int (0 : Int32)), .val (.ref bb), .val (.int (0 : Int32)), .val (.int (1 : Int32)), .unset, .unset] [])) t → Steps p.tables e below (s₁.setTop (entryFrame m #[(.ref ca), (.int (0 : Int32)), (.ref bb), (.int (0 : Int32)), (.int (1 : Int32))] 7)) t := fun t kq => castTop (ef_rm_cm2_1 m ca bb) kq
  have Vc276 := A_c
  obtain ⟨cl276, Ar276, q276, S276, N276_, H276_, G276⟩ := Vc276
  have hin276 : ¬ ((0 : Int32) < 0 ∨ cl276.slots.size ≤ ((0 : Int32)).toNatClampNeg) := inb_of S276 ⟨by decide, by decide⟩
  have hat276 : cl276.slots[((0 : Int32)).toNatClampNeg]? = some (.int c0_) := Has.at H276_ hin276 rfl
  have Vc277 := B_b
  obtain ⟨cl277, Ar277, q277, S277, N277_, H277_, G277⟩ := Vc277
  have hin277 : ¬ ((0 : Int32) < 0 ∨ cl277.slots.size ≤ ((0 : Int32)).toNatClampNeg) := inb_of S277 ⟨(by decide), (by decide)⟩
  obtain ⟨T278, h278, X278, e278, W278, st278⟩ := stB X0 hx hZ e0 Ar277 (j := (0 : Int32)) hin277 (g := (mkF m 31 #[.val (.ref ca), .val (.int (0 : Int32)), .val (.ref bb), .val (.int (0 : Int32)), .val (.int (1 : Int32)), .val (.int (0 : Int32)), .val (.int c0_)] [(.int (c0_.toInt8.toInt32)), (.int (0 : Int32)), (.ref bb)])) rfl rfl (hb hby d17_31)
  have KP278 := Keep.wr (Keep.refl h0 [bb]) W278 (Or.inl (List.mem_of_getElem? (i := 0) rfl))
  have V278 : own_FB Z h278 bb kb (1 : Int32) (fun i => if i = ((0 : Int32)).toNatClampNeg then (nar .byte (c0_.toInt8.toInt32)) else (fun _ => (0 : Int32)) i) := own_FB.set Ar277 q277 S277 N277_ H277_ G277 (fits_nar_byte _) W278
  have N278 := Fr.snoc X278 N0 gn_b
  obtain ⟨fs, hr, hrun, hended, hW, hsame⟩ := X278.leave (v := some (.int (1 : Int32))) (fun h => by rw [Bd.returns] at h; cases h)
  refine ⟨_, _, pre0 _ ?_, hrun, hended, _, _, rfl, ?_, ⟨_, rfl⟩, hW, hsame.mono (by decide) (by decide)⟩
  · refine XS.iconst X0.here hx rfl (hb hby d17_0) ?_
    refine XS.istore X0.here hx rfl (hb hby d17_1) rfl (l' := #[.val (.ref ca), .val (.int (0 : Int32)), .val (.ref bb), .val (.int (0 : Int32)), .val (.int (1 : Int32)), .val (.int (0 : Int32)), .unset]) rfl ?_
    refine XS.iload X0.here hx rfl (hb hby d17_3) rfl ?_
    refine XS.iload X0.here hx rfl (hb hby d17_5) rfl ?_
    refine XS.icmpNo X0.here hx rfl (hb hby d17_7) rfl (tlt (by decide : (0 : Int32) < (1 : Int32))).2.1 ?_
    refine XS.aloadN X0.here hx rfl (hb hby d17_10) rfl rfl ?_
    refine XS.iloadN X0.here hx rfl (hb hby d17_11) rfl ?_
    refine X0.caload hx (j := (0 : Int32)) (v := (.int c0_)) (by rw [e0]; exact Ar276.1) (State.isArrayOf_alike hZ.alike Ar276.2.1) Ar276.2.2 hin276 hat276 (g := (mkF m 12 #[.val (.ref ca), .val (.int (0 : Int32)), .val (.ref bb), .val (.int (0 : Int32)), .val (.int (1 : Int32)), .val (.int (0 : Int32)), .unset] [(.int (0 : Int32)), (.ref ca)])) rfl rfl (hb hby d17_12) _ ?_
    show Steps p.tables e below (s₁.setTop (mkF m 13 #[.val (.ref ca), .val (.int (0 : Int32)), .val (.ref bb), .val (.int (0 : Int32)), .val (.int (1 : Int32)), .val (.int (0 : Int32)), .unset] [(.int c0_)])) _
    refine XS.istore X0.here hx rfl (hb hby d17_13) rfl (l' := #[.val (.ref ca), .val (.int (0 : Int32)), .val (.ref bb), .val (.int (0 : Int32)), .val (.int (1 : Int32)), .val (.int (0 : Int32)), .val (.int c0_)]) rfl ?_
    refine XS.iload X0.here hx rfl (hb hby d17_15) rfl ?_
    refine XS.sipush X0.here hx rfl (hb hby d17_17) ?_
    refine XS.icmpYes X0.here hx rfl (pc0 := 20) (pc' := 26) rfl (hb hby d17_20) rfl (flt ((by rw [Int32.lt_iff_toInt_lt]; have := own_255; omega) : ¬ ((255 : Int32) < c0_))).2.2.2 (by decide) (by decide) ?_
    refine XS.aloadN X0.here hx rfl (hb hby d17_26) rfl rfl ?_
    refine XS.iloadN X0.here hx rfl (hb hby d17_27) rfl ?_
    refine XS.iload X0.here hx rfl (hb hby d17_28) rfl ?_
    refine XS.i2b X0.here hx rfl (hb hby d17_30) rfl ?_
    refine st278 _ ?_
    show Steps p.tables e below (T278.setTop (mkF m 32 #[.val (.ref ca), .val (.int (0 : Int32)), .val (.ref bb), .val (.int (0 : Int32)), .val (.int (1 : Int32)), .val (.int (0 : Int32)), .val (.int c0_)] [])) _
    refine XS.iinc X278.here hx rfl (hb hby d17_32) rfl (l' := #[.val (.ref ca), .val (.int (1 : Int32)), .val (.ref bb), .val (.int (0 : Int32)), .val (.int (1 : Int32)), .val (.int (0 : Int32)), .val (.int c0_)]) rfl ?_
    refine XS.iinc X278.here hx rfl (hb hby d17_35) rfl (l' := #[.val (.ref ca), .val (.int (1 : Int32)), .val (.ref bb), .val (.int (1 : Int32)), .val (.int (1 : Int32)), .val (.int (0 : Int32)), .val (.int c0_)]) rfl ?_
    refine XS.iinc X278.here hx rfl (hb hby d17_38) rfl (l' := #[.val (.ref ca), .val (.int (1 : Int32)), .val (.ref bb), .val (.int (1 : Int32)), .val (.int (1 : Int32)), .val (.int (1 : Int32)), .val (.int c0_)]) rfl ?_
    refine XS.goto X278.here hx rfl (pc0 := 41) (pc' := 3) rfl (hb hby d17_41) (by decide) (by decide) ?_
    refine XS.iload X278.here hx rfl (hb hby d17_3) rfl ?_
    refine XS.iload X278.here hx rfl (hb hby d17_5) rfl ?_
    refine XS.icmpYes X278.here hx rfl (pc0 := 7) (pc' := 44) rfl (hb hby d17_7) rfl (flt (by decide : ¬ ((1 : Int32) < (1 : Int32)))).2.1 (by decide) (by decide) ?_
    refine XS.iload X278.here hx rfl (hb hby d17_44) rfl ?_
    exact retOut X278 hx Bd.returns rfl (Or.inl ⟨rfl, Or.inl rfl, _, rfl⟩) (hb hby d17_46) hr
  · show own_Cmp Z bb kb (1 : Int32) [c0_] h0 n0 _ T278.heap _
    rw [e278]
    exact ⟨rfl, N278, KP278, own_FB.congr V278 (fun i hi => own_pt1 c0_ i hi)⟩
theorem ef_rm_cm2_2 (m : MethodId) (x0 : Addr) (x2 : Addr) : entryFrame m #[(.ref x0), (.int (0 : Int32)), (.ref x2), (.int (0 : Int32)), (.int (2 : Int32))] 7 = mkF m 0 #[.val (.ref x0), .val (.int (0 : Int32)), .val (.ref x2), .val (.int (0 : Int32)), .val (.int (2 : Int32)), .unset, .unset] [] := by first | (simp [entryFrame, mkF, argsToLocals, Value.category]; done) | rfl
set_option maxRecDepth 65536 in
set_option maxHeartbeats 40000000 in
theorem rm_cm2_2 (l : Launch) (Z : State) (a0 : Array Value) (hw : ∀ d ∈ tables_1, d.before a0 Z = true) (ws : List Jvm.Cond) (ca : Addr) (bb : Addr) (h0 : Heap) (n0 : Nat) (Z0 : n0 ≤ h0.size) (kc : ClassId) (c0_ c1_ : Int32) (A_c : Arv Z h0 ca kc .char (2 : Int32) [(.int c0_), (.int c1_)] (.int (0 : Int32))) (hc : (0 ≤ c0_.toInt ∧ c0_.toInt ≤ 255) ∧ (0 ≤ c1_.toInt ∧ c1_.toInt ≤ 255)) (kb : ClassId) (B_b : own_FB Z h0 bb kb (2 : Int32) (fun _ => (0 : Int32))) (ncb : ca ≠ bb) (gn_b : n0 ≤ bb) :
    MetFree l (⟨"java/lang/StringUTF16", "compress", "([CI[BII)I"⟩ : MethodName) (head1 (Jvm.Cond.code (⟨"java/lang/StringUTF16", "compress", "([CI[BII)I"⟩ : MethodName) jdk_52_method_21_code 7 (some .int) :: ws) ({ frames := 0, cells := 0, slots := 0, locals := 0 } : Room)) (fun aQ UQ => aQ = #[(.ref ca), (.int (0 : Int32)), (.ref bb), (.int (0 : Int32)), (.int (2 : Int32))] ∧ Z.Warmed39 UQ.vm ∧ UQ.heap = h0) (fun _ _ _ _ _ => True) (fun _ UQ oQ UR => ∃ vQ LQ, oQ = .returned vQ ∧ own_Cmp Z bb kb (2 : Int32) [c0_, c1_] h0 n0 vQ UR.heap LQ ∧ FrameEnd UQ oQ UR LQ ({ frames := 0, cells := 0, slots := 0, locals := 0 } : Room).cells ({ frames := 0, cells := 0, slots := 0, locals := 0 } : Room).slots) := by
  refine MetFree.of_bodySF (plainFor_of_name pn_576) hisR ?_
  intro p e s m args below meth c s₁ Bd hml0 hP hK
  obtain ⟨rfl, hZ, hh⟩ := hP
  have hx := Bd.exec
  have hby := Bd.bytes
  have hml : c.maxLocals = 7 := hml0
  have hown : s.vm.findClass "java/lang/StringUTF16" = some m.cls := findClass_of_methodNamed Bd.named
  have hnm := (name_of_methodNamed Bd.named Bd.method).1
  have X0 : Stand p l e ({ frames := 0, cells := 0, slots := 0, locals := 0 } : Room) s m #[(.ref ca), (.int (0 : Int32)), (.ref bb), (.int (0 : Int32)), (.int (2 : Int32))] below meth c s₁ [] 0 0 := Stand.of_body Bd
  have e0 : s₁.heap = h0 := by rw [← hh, Bd.state]; rfl
  have N0 := Fr.nil n0
  have pre0 : ∀ t, Steps p.tables e below (s₁.setTop (mkF m 0 #[.val (.ref ca), .val (.int (0 : Int32)), .val (.ref bb), .val (.int (0 : Int32)), .val (.int (2 : Int32)), .unset, .unset] [])) t → Steps p.tables e below (s₁.setTop (entryFrame m #[(.ref ca), (.int (0 : Int32)), (.ref bb), (.int (0 : Int32)), (.int (2 : Int32))] 7)) t := fun t kq => castTop (ef_rm_cm2_2 m ca bb) kq
  have Vc279 := A_c
  obtain ⟨cl279, Ar279, q279, S279, N279_, H279_, G279⟩ := Vc279
  have hin279 : ¬ ((0 : Int32) < 0 ∨ cl279.slots.size ≤ ((0 : Int32)).toNatClampNeg) := inb_of S279 ⟨by decide, by decide⟩
  have hat279 : cl279.slots[((0 : Int32)).toNatClampNeg]? = some (.int c0_) := Has.at H279_ hin279 rfl
  have Vc280 := B_b
  obtain ⟨cl280, Ar280, q280, S280, N280_, H280_, G280⟩ := Vc280
  have hin280 : ¬ ((0 : Int32) < 0 ∨ cl280.slots.size ≤ ((0 : Int32)).toNatClampNeg) := inb_of S280 ⟨(by decide), (by decide)⟩
  obtain ⟨T281, h281, X281, e281, W281, st281⟩ := stB X0 hx hZ e0 Ar280 (j := (0 : Int32)) hin280 (g := (mkF m 31 #[.val (.ref ca), .val (.int (0 : Int32)), .val (.ref bb), .val (.int (0 : Int32)), .val (.int (2 : Int32)), .val (.int (0 : Int32)), .val (.int c0_)] [(.int (c0_.toInt8.toInt32)), (.int (0 : Int32)), (.ref bb)])) rfl rfl (hb hby d17_31)
  have KP281 := Keep.wr (Keep.refl h0 [bb]) W281 (Or.inl (List.mem_of_getElem? (i := 0) rfl))
  have V281 : own_FB Z h281 bb kb (2 : Int32) (fun i => if i = ((0 : Int32)).toNatClampNeg then (nar .byte (c0_.toInt8.toInt32)) else (fun _ => (0 : Int32)) i) := own_FB.set Ar280 q280 S280 N280_ H280_ G280 (fits_nar_byte _) W281
  have N281 := Fr.snoc X281 N0 gn_b
  have Fx282 := (A_c.other W281 ncb)
  have Vc283 := Fx282
  obtain ⟨cl283, Ar283, q283, S283, N283_, H283_, G283⟩ := Vc283
  have hin283 : ¬ ((1 : Int32) < 0 ∨ cl283.slots.size ≤ ((1 : Int32)).toNatClampNeg) := inb_of S283 ⟨by decide, by decide⟩
  have hat283 : cl283.slots[((1 : Int32)).toNatClampNeg]? = some (.int c1_) := Has.at H283_ hin283 rfl
  have Vc284 := V281
  obtain ⟨cl284, Ar284, q284, S284, N284_, H284_, G284⟩ := Vc284
  have hin284 : ¬ ((1 : Int32) < 0 ∨ cl284.slots.size ≤ ((1 : Int32)).toNatClampNeg) := inb_of S284 ⟨(by decide), (by decide)⟩
  obtain ⟨T285, h285, X285, e285, W285, st285⟩ := stB X281 hx hZ e281 Ar284 (j := (1 : Int32)) hin284 (g := (mkF m 31 #[.val (.ref ca), .val (.int (1 : Int32)), .val (.ref bb), .val (.int (1 : Int32)), .val (.int (2 : Int32)), .val (.int (1 : Int32)), .val (.int c1_)] [(.int (c1_.toInt8.toInt32)), (.int (1 : Int32)), (.ref bb)])) rfl rfl (hb hby d17_31)
  have KP285 := Keep.wr KP281 W285 (Or.inl (List.mem_of_getElem? (i := 0) rfl))
  have V285 : own_FB Z h285 bb kb (2 : Int32) (fun i => if i = ((1 : Int32)).toNatClampNeg then (nar .byte (c1_.toInt8.toInt32)) else (fun i => if i = ((0 : Int32)).toNatClampNeg then (nar .byte (c0_.toInt8.toInt32)) else (fun _ => (0 : Int32)) i) i) := own_FB.set Ar284 q284 S284 N284_ H284_ G284 (fits_nar_byte _) W285
  have N285 := Fr.snoc X285 N281 gn_b
  obtain ⟨fs, hr, hrun, hended, hW, hsame⟩ := X285.leave (v := some (.int (2 : Int32))) (fun h => by rw [Bd.returns] at h; cases h)
  refine ⟨_, _, pre0 _ ?_, hrun, hended, _, _, rfl, ?_, ⟨_, rfl⟩, hW, hsame.mono (by decide) (by decide)⟩
  · refine XS.iconst X0.here hx rfl (hb hby d17_0) ?_
    refine XS.istore X0.here hx rfl (hb hby d17_1) rfl (l' := #[.val (.ref ca), .val (.int (0 : Int32)), .val (.ref bb), .val (.int (0 : Int32)), .val (.int (2 : Int32)), .val (.int (0 : Int32)), .unset]) rfl ?_
    refine XS.iload X0.here hx rfl (hb hby d17_3) rfl ?_
    refine XS.iload X0.here hx rfl (hb hby d17_5) rfl ?_
    refine XS.icmpNo X0.here hx rfl (hb hby d17_7) rfl (tlt (by decide : (0 : Int32) < (2 : Int32))).2.1 ?_
    refine XS.aloadN X0.here hx rfl (hb hby d17_10) rfl rfl ?_
    refine XS.iloadN X0.here hx rfl (hb hby d17_11) rfl ?_
    refine X0.caload hx (j := (0 : Int32)) (v := (.int c0_)) (by rw [e0]; exact Ar279.1) (State.isArrayOf_alike hZ.alike Ar279.2.1) Ar279.2.2 hin279 hat279 (g := (mkF m 12 #[.val (.ref ca), .val (.int (0 : Int32)), .val (.ref bb), .val (.int (0 : Int32)), .val (.int (2 : Int32)), .val (.int (0 : Int32)), .unset] [(.int (0 : Int32)), (.ref ca)])) rfl rfl (hb hby d17_12) _ ?_
    show Steps p.tables e below (s₁.setTop (mkF m 13 #[.val (.ref ca), .val (.int (0 : Int32)), .val (.ref bb), .val (.int (0 : Int32)), .val (.int (2 : Int32)), .val (.int (0 : Int32)), .unset] [(.int c0_)])) _
    refine XS.istore X0.here hx rfl (hb hby d17_13) rfl (l' := #[.val (.ref ca), .val (.int (0 : Int32)), .val (.ref bb), .val (.int (0 : Int32)), .val (.int (2 : Int32)), .val (.int (0 : Int32)), .val (.int c0_)]) rfl ?_
    refine XS.iload X0.here hx rfl (hb hby d17_15) rfl ?_
    refine XS.sipush X0.here hx rfl (hb hby d17_17) ?_
    refine XS.icmpYes X0.here hx rfl (pc0 := 20) (pc' := 26) rfl (hb hby d17_20) rfl (flt ((by rw [Int32.lt_iff_toInt_lt]; have := own_255; omega) : ¬ ((255 : Int32) < c0_))).2.2.2 (by decide) (by decide) ?_
    refine XS.aloadN X0.here hx rfl (hb hby d17_26) rfl rfl ?_
    refine XS.iloadN X0.here hx rfl (hb hby d17_27) rfl ?_
    refine XS.iload X0.here hx rfl (hb hby d17_28) rfl ?_
    refine XS.i2b X0.here hx rfl (hb hby d17_30) rfl ?_
    refine st281 _ ?_
    show Steps p.tables e below (T281.setTop (mkF m 32 #[.val (.ref ca), .val (.int (0 : Int32)), .val (.ref bb), .val (.int (0 : Int32)), .val (.int (2 : Int32)), .val (.int (0 : Int32)), .val (.int c0_)] [])) _
    refine XS.iinc X281.here hx rfl (hb hby d17_32) rfl (l' := #[.val (.ref ca), .val (.int (1 : Int32)), .val (.ref bb), .val (.int (0 : Int32)), .val (.int (2 : Int32)), .val (.int (0 : Int32)), .val (.int c0_)]) rfl ?_
    refine XS.iinc X281.here hx rfl (hb hby d17_35) rfl (l' := #[.val (.ref ca), .val (.int (1 : Int32)), .val (.ref bb), .val (.int (1 : Int32)), .val (.int (2 : Int32)), .val (.int (0 : Int32)), .val (.int c0_)]) rfl ?_
    refine XS.iinc X281.here hx rfl (hb hby d17_38) rfl (l' := #[.val (.ref ca), .val (.int (1 : Int32)), .val (.ref bb), .val (.int (1 : Int32)), .val (.int (2 : Int32)), .val (.int (1 : Int32)), .val (.int c0_)]) rfl ?_
    refine XS.goto X281.here hx rfl (pc0 := 41) (pc' := 3) rfl (hb hby d17_41) (by decide) (by decide) ?_
    refine XS.iload X281.here hx rfl (hb hby d17_3) rfl ?_
    refine XS.iload X281.here hx rfl (hb hby d17_5) rfl ?_
    refine XS.icmpNo X281.here hx rfl (hb hby d17_7) rfl (tlt (by decide : (1 : Int32) < (2 : Int32))).2.1 ?_
    refine XS.aloadN X281.here hx rfl (hb hby d17_10) rfl rfl ?_
    refine XS.iloadN X281.here hx rfl (hb hby d17_11) rfl ?_
    refine X281.caload hx (j := (1 : Int32)) (v := (.int c1_)) (by rw [e281]; exact Ar283.1) (State.isArrayOf_alike hZ.alike Ar283.2.1) Ar283.2.2 hin283 hat283 (g := (mkF m 12 #[.val (.ref ca), .val (.int (1 : Int32)), .val (.ref bb), .val (.int (1 : Int32)), .val (.int (2 : Int32)), .val (.int (1 : Int32)), .val (.int c0_)] [(.int (1 : Int32)), (.ref ca)])) rfl rfl (hb hby d17_12) _ ?_
    show Steps p.tables e below (T281.setTop (mkF m 13 #[.val (.ref ca), .val (.int (1 : Int32)), .val (.ref bb), .val (.int (1 : Int32)), .val (.int (2 : Int32)), .val (.int (1 : Int32)), .val (.int c0_)] [(.int c1_)])) _
    refine XS.istore X281.here hx rfl (hb hby d17_13) rfl (l' := #[.val (.ref ca), .val (.int (1 : Int32)), .val (.ref bb), .val (.int (1 : Int32)), .val (.int (2 : Int32)), .val (.int (1 : Int32)), .val (.int c1_)]) rfl ?_
    refine XS.iload X281.here hx rfl (hb hby d17_15) rfl ?_
    refine XS.sipush X281.here hx rfl (hb hby d17_17) ?_
    refine XS.icmpYes X281.here hx rfl (pc0 := 20) (pc' := 26) rfl (hb hby d17_20) rfl (flt ((by rw [Int32.lt_iff_toInt_lt]; have := own_255; omega) : ¬ ((255 : Int32) < c1_))).2.2.2 (by decide) (by decide) ?_
    refine XS.aloadN X281.here hx rfl (hb hby d17_26) rfl rfl ?_
    refine XS.iloadN X281.here hx rfl (hb hby d17_27) rfl ?_
    refine XS.iload X281.here hx rfl (hb hby d17_28) rfl ?_
    refine XS.i2b X281.here hx rfl (hb hby d17_30) rfl ?_
    refine st285 _ ?_
    show Steps p.tables e below (T285.setTop (mkF m 32 #[.val (.ref ca), .val (.int (1 : Int32)), .val (.ref bb), .val (.int (1 : Int32)), .val (.int (2 : Int32)), .val (.int (1 : Int32)), .val (.int c1_)] [])) _
    refine XS.iinc X285.here hx rfl (hb hby d17_32) rfl (l' := #[.val (.ref ca), .val (.int (2 : Int32)), .val (.ref bb), .val (.int (1 : Int32)), .val (.int (2 : Int32)), .val (.int (1 : Int32)), .val (.int c1_)]) rfl ?_
    refine XS.iinc X285.here hx rfl (hb hby d17_35) rfl (l' := #[.val (.ref ca), .val (.int (2 : Int32)), .val (.ref bb), .val (.int (2 : Int32)), .val (.int (2 : Int32)), .val (.int (1 : Int32)), .val (.int c1_)]) rfl ?_
    refine XS.iinc X285.here hx rfl (hb hby d17_38) rfl (l' := #[.val (.ref ca), .val (.int (2 : Int32)), .val (.ref bb), .val (.int (2 : Int32)), .val (.int (2 : Int32)), .val (.int (2 : Int32)), .val (.int c1_)]) rfl ?_
    refine XS.goto X285.here hx rfl (pc0 := 41) (pc' := 3) rfl (hb hby d17_41) (by decide) (by decide) ?_
    refine XS.iload X285.here hx rfl (hb hby d17_3) rfl ?_
    refine XS.iload X285.here hx rfl (hb hby d17_5) rfl ?_
    refine XS.icmpYes X285.here hx rfl (pc0 := 7) (pc' := 44) rfl (hb hby d17_7) rfl (flt (by decide : ¬ ((2 : Int32) < (2 : Int32)))).2.1 (by decide) (by decide) ?_
    refine XS.iload X285.here hx rfl (hb hby d17_44) rfl ?_
    exact retOut X285 hx Bd.returns rfl (Or.inl ⟨rfl, Or.inl rfl, _, rfl⟩) (hb hby d17_46) hr
  · show own_Cmp Z bb kb (2 : Int32) [c0_, c1_] h0 n0 _ T285.heap _
    rw [e285]
    exact ⟨rfl, N285, KP285, own_FB.congr V285 (fun i hi => own_pt2 c0_ c1_ i hi)⟩
theorem ef_rm_cm2_3 (m : MethodId) (x0 : Addr) (x2 : Addr) : entryFrame m #[(.ref x0), (.int (0 : Int32)), (.ref x2), (.int (0 : Int32)), (.int (3 : Int32))] 7 = mkF m 0 #[.val (.ref x0), .val (.int (0 : Int32)), .val (.ref x2), .val (.int (0 : Int32)), .val (.int (3 : Int32)), .unset, .unset] [] := by first | (simp [entryFrame, mkF, argsToLocals, Value.category]; done) | rfl
set_option maxRecDepth 65536 in
set_option maxHeartbeats 40000000 in
theorem rm_cm2_3 (l : Launch) (Z : State) (a0 : Array Value) (hw : ∀ d ∈ tables_1, d.before a0 Z = true) (ws : List Jvm.Cond) (ca : Addr) (bb : Addr) (h0 : Heap) (n0 : Nat) (Z0 : n0 ≤ h0.size) (kc : ClassId) (c0_ c1_ c2_ : Int32) (A_c : Arv Z h0 ca kc .char (3 : Int32) [(.int c0_), (.int c1_), (.int c2_)] (.int (0 : Int32))) (hc : (0 ≤ c0_.toInt ∧ c0_.toInt ≤ 255) ∧ (0 ≤ c1_.toInt ∧ c1_.toInt ≤ 255) ∧ (0 ≤ c2_.toInt ∧ c2_.toInt ≤ 255)) (kb : ClassId) (B_b : own_FB Z h0 bb kb (3 : Int32) (fun _ => (0 : Int32))) (ncb : ca ≠ bb) (gn_b : n0 ≤ bb) :
    MetFree l (⟨"java/lang/StringUTF16", "compress", "([CI[BII)I"⟩ : MethodName) (head1 (Jvm.Cond.code (⟨"java/lang/StringUTF16", "compress", "([CI[BII)I"⟩ : MethodName) jdk_52_method_21_code 7 (some .int) :: ws) ({ frames := 0, cells := 0, slots := 0, locals := 0 } : Room)) (fun aQ UQ => aQ = #[(.ref ca), (.int (0 : Int32)), (.ref bb), (.int (0 : Int32)), (.int (3 : Int32))] ∧ Z.Warmed39 UQ.vm ∧ UQ.heap = h0) (fun _ _ _ _ _ => True) (fun _ UQ oQ UR => ∃ vQ LQ, oQ = .returned vQ ∧ own_Cmp Z bb kb (3 : Int32) [c0_, c1_, c2_] h0 n0 vQ UR.heap LQ ∧ FrameEnd UQ oQ UR LQ ({ frames := 0, cells := 0, slots := 0, locals := 0 } : Room).cells ({ frames := 0, cells := 0, slots := 0, locals := 0 } : Room).slots) := by
  refine MetFree.of_bodySF (plainFor_of_name pn_576) hisR ?_
  intro p e s m args below meth c s₁ Bd hml0 hP hK
  obtain ⟨rfl, hZ, hh⟩ := hP
  have hx := Bd.exec
  have hby := Bd.bytes
  have hml : c.maxLocals = 7 := hml0
  have hown : s.vm.findClass "java/lang/StringUTF16" = some m.cls := findClass_of_methodNamed Bd.named
  have hnm := (name_of_methodNamed Bd.named Bd.method).1
  have X0 : Stand p l e ({ frames := 0, cells := 0, slots := 0, locals := 0 } : Room) s m #[(.ref ca), (.int (0 : Int32)), (.ref bb), (.int (0 : Int32)), (.int (3 : Int32))] below meth c s₁ [] 0 0 := Stand.of_body Bd
  have e0 : s₁.heap = h0 := by rw [← hh, Bd.state]; rfl
  have N0 := Fr.nil n0
  have pre0 : ∀ t, Steps p.tables e below (s₁.setTop (mkF m 0 #[.val (.ref ca), .val (.int (0 : Int32)), .val (.ref bb), .val (.int (0 : Int32)), .val (.int (3 : Int32)), .unset, .unset] [])) t → Steps p.tables e below (s₁.setTop (entryFrame m #[(.ref ca), (.int (0 : Int32)), (.ref bb), (.int (0 : Int32)), (.int (3 : Int32))] 7)) t := fun t kq => castTop (ef_rm_cm2_3 m ca bb) kq
  have Vc286 := A_c
  obtain ⟨cl286, Ar286, q286, S286, N286_, H286_, G286⟩ := Vc286
  have hin286 : ¬ ((0 : Int32) < 0 ∨ cl286.slots.size ≤ ((0 : Int32)).toNatClampNeg) := inb_of S286 ⟨by decide, by decide⟩
  have hat286 : cl286.slots[((0 : Int32)).toNatClampNeg]? = some (.int c0_) := Has.at H286_ hin286 rfl
  have Vc287 := B_b
  obtain ⟨cl287, Ar287, q287, S287, N287_, H287_, G287⟩ := Vc287
  have hin287 : ¬ ((0 : Int32) < 0 ∨ cl287.slots.size ≤ ((0 : Int32)).toNatClampNeg) := inb_of S287 ⟨(by decide), (by decide)⟩
  obtain ⟨T288, h288, X288, e288, W288, st288⟩ := stB X0 hx hZ e0 Ar287 (j := (0 : Int32)) hin287 (g := (mkF m 31 #[.val (.ref ca), .val (.int (0 : Int32)), .val (.ref bb), .val (.int (0 : Int32)), .val (.int (3 : Int32)), .val (.int (0 : Int32)), .val (.int c0_)] [(.int (c0_.toInt8.toInt32)), (.int (0 : Int32)), (.ref bb)])) rfl rfl (hb hby d17_31)
  have KP288 := Keep.wr (Keep.refl h0 [bb]) W288 (Or.inl (List.mem_of_getElem? (i := 0) rfl))
  have V288 : own_FB Z h288 bb kb (3 : Int32) (fun i => if i = ((0 : Int32)).toNatClampNeg then (nar .byte (c0_.toInt8.toInt32)) else (fun _ => (0 : Int32)) i) := own_FB.set Ar287 q287 S287 N287_ H287_ G287 (fits_nar_byte _) W288
  have N288 := Fr.snoc X288 N0 gn_b
  have Fx289 := (A_c.other W288 ncb)
  have Vc290 := Fx289
  obtain ⟨cl290, Ar290, q290, S290, N290_, H290_, G290⟩ := Vc290
  have hin290 : ¬ ((1 : Int32) < 0 ∨ cl290.slots.size ≤ ((1 : Int32)).toNatClampNeg) := inb_of S290 ⟨by decide, by decide⟩
  have hat290 : cl290.slots[((1 : Int32)).toNatClampNeg]? = some (.int c1_) := Has.at H290_ hin290 rfl
  have Vc291 := V288
  obtain ⟨cl291, Ar291, q291, S291, N291_, H291_, G291⟩ := Vc291
  have hin291 : ¬ ((1 : Int32) < 0 ∨ cl291.slots.size ≤ ((1 : Int32)).toNatClampNeg) := inb_of S291 ⟨(by decide), (by decide)⟩
  obtain ⟨T292, h292, X292, e292, W292, st292⟩ := stB X288 hx hZ e288 Ar291 (j := (1 : Int32)) hin291 (g := (mkF m 31 #[.val (.ref ca), .val (.int (1 : Int32)), .val (.ref bb), .val (.int (1 : Int32)), .val (.int (3 : Int32)), .val (.int (1 : Int32)), .val (.int c1_)] [(.int (c1_.toInt8.toInt32)), (.int (1 : Int32)), (.ref bb)])) rfl rfl (hb hby d17_31)
  have KP292 := Keep.wr KP288 W292 (Or.inl (List.mem_of_getElem? (i := 0) rfl))
  have V292 : own_FB Z h292 bb kb (3 : Int32) (fun i => if i = ((1 : Int32)).toNatClampNeg then (nar .byte (c1_.toInt8.toInt32)) else (fun i => if i = ((0 : Int32)).toNatClampNeg then (nar .byte (c0_.toInt8.toInt32)) else (fun _ => (0 : Int32)) i) i) := own_FB.set Ar291 q291 S291 N291_ H291_ G291 (fits_nar_byte _) W292
  have N292 := Fr.snoc X292 N288 gn_b
  have Fx293 := (Fx289.other W292 ncb)
  have Vc294 := Fx293
  obtain ⟨cl294, Ar294, q294, S294, N294_, H294_, G294⟩ := Vc294
  have hin294 : ¬ ((2 : Int32) < 0 ∨ cl294.slots.size ≤ ((2 : Int32)).toNatClampNeg) := inb_of S294 ⟨by decide, by decide⟩
  have hat294 : cl294.slots[((2 : Int32)).toNatClampNeg]? = some (.int c2_) := Has.at H294_ hin294 rfl
  have Vc295 := V292
  obtain ⟨cl295, Ar295, q295, S295, N295_, H295_, G295⟩ := Vc295
  have hin295 : ¬ ((2 : Int32) < 0 ∨ cl295.slots.size ≤ ((2 : Int32)).toNatClampNeg) := inb_of S295 ⟨(by decide), (by decide)⟩
  obtain ⟨T296, h296, X296, e296, W296, st296⟩ := stB X292 hx hZ e292 Ar295 (j := (2 : Int32)) hin295 (g := (mkF m 31 #[.val (.ref ca), .val (.int (2 : Int32)), .val (.ref bb), .val (.int (2 : Int32)), .val (.int (3 : Int32)), .val (.int (2 : Int32)), .val (.int c2_)] [(.int (c2_.toInt8.toInt32)), (.int (2 : Int32)), (.ref bb)])) rfl rfl (hb hby d17_31)
  have KP296 := Keep.wr KP292 W296 (Or.inl (List.mem_of_getElem? (i := 0) rfl))
  have V296 : own_FB Z h296 bb kb (3 : Int32) (fun i => if i = ((2 : Int32)).toNatClampNeg then (nar .byte (c2_.toInt8.toInt32)) else (fun i => if i = ((1 : Int32)).toNatClampNeg then (nar .byte (c1_.toInt8.toInt32)) else (fun i => if i = ((0 : Int32)).toNatClampNeg then (nar .byte (c0_.toInt8.toInt32)) else (fun _ => (0 : Int32)) i) i) i) := own_FB.set Ar295 q295 S295 N295_ H295_ G295 (fits_nar_byte _) W296
  have N296 := Fr.snoc X296 N292 gn_b
  obtain ⟨fs, hr, hrun, hended, hW, hsame⟩ := X296.leave (v := some (.int (3 : Int32))) (fun h => by rw [Bd.returns] at h; cases h)
  refine ⟨_, _, pre0 _ ?_, hrun, hended, _, _, rfl, ?_, ⟨_, rfl⟩, hW, hsame.mono (by decide) (by decide)⟩
  · refine XS.iconst X0.here hx rfl (hb hby d17_0) ?_
    refine XS.istore X0.here hx rfl (hb hby d17_1) rfl (l' := #[.val (.ref ca), .val (.int (0 : Int32)), .val (.ref bb), .val (.int (0 : Int32)), .val (.int (3 : Int32)), .val (.int (0 : Int32)), .unset]) rfl ?_
    refine XS.iload X0.here hx rfl (hb hby d17_3) rfl ?_
    refine XS.iload X0.here hx rfl (hb hby d17_5) rfl ?_
    refine XS.icmpNo X0.here hx rfl (hb hby d17_7) rfl (tlt (by decide : (0 : Int32) < (3 : Int32))).2.1 ?_
    refine XS.aloadN X0.here hx rfl (hb hby d17_10) rfl rfl ?_
    refine XS.iloadN X0.here hx rfl (hb hby d17_11) rfl ?_
    refine X0.caload hx (j := (0 : Int32)) (v := (.int c0_)) (by rw [e0]; exact Ar286.1) (State.isArrayOf_alike hZ.alike Ar286.2.1) Ar286.2.2 hin286 hat286 (g := (mkF m 12 #[.val (.ref ca), .val (.int (0 : Int32)), .val (.ref bb), .val (.int (0 : Int32)), .val (.int (3 : Int32)), .val (.int (0 : Int32)), .unset] [(.int (0 : Int32)), (.ref ca)])) rfl rfl (hb hby d17_12) _ ?_
    show Steps p.tables e below (s₁.setTop (mkF m 13 #[.val (.ref ca), .val (.int (0 : Int32)), .val (.ref bb), .val (.int (0 : Int32)), .val (.int (3 : Int32)), .val (.int (0 : Int32)), .unset] [(.int c0_)])) _
    refine XS.istore X0.here hx rfl (hb hby d17_13) rfl (l' := #[.val (.ref ca), .val (.int (0 : Int32)), .val (.ref bb), .val (.int (0 : Int32)), .val (.int (3 : Int32)), .val (.int (0 : Int32)), .val (.int c0_)]) rfl ?_
    refine XS.iload X0.here hx rfl (hb hby d17_15) rfl ?_
    refine XS.sipush X0.here hx rfl (hb hby d17_17) ?_
    refine XS.icmpYes X0.here hx rfl (pc0 := 20) (pc' := 26) rfl (hb hby d17_20) rfl (flt ((by rw [Int32.lt_iff_toInt_lt]; have := own_255; omega) : ¬ ((255 : Int32) < c0_))).2.2.2 (by decide) (by decide) ?_
    refine XS.aloadN X0.here hx rfl (hb hby d17_26) rfl rfl ?_
    refine XS.iloadN X0.here hx rfl (hb hby d17_27) rfl ?_
    refine XS.iload X0.here hx rfl (hb hby d17_28) rfl ?_
    refine XS.i2b X0.here hx rfl (hb hby d17_30) rfl ?_
    refine st288 _ ?_
    show Steps p.tables e below (T288.setTop (mkF m 32 #[.val (.ref ca), .val (.int (0 : Int32)), .val (.ref bb), .val (.int (0 : Int32)), .val (.int (3 : Int32)), .val (.int (0 : Int32)), .val (.int c0_)] [])) _
    refine XS.iinc X288.here hx rfl (hb hby d17_32) rfl (l' := #[.val (.ref ca), .val (.int (1 : Int32)), .val (.ref bb), .val (.int (0 : Int32)), .val (.int (3 : Int32)), .val (.int (0 : Int32)), .val (.int c0_)]) rfl ?_
    refine XS.iinc X288.here hx rfl (hb hby d17_35) rfl (l' := #[.val (.ref ca), .val (.int (1 : Int32)), .val (.ref bb), .val (.int (1 : Int32)), .val (.int (3 : Int32)), .val (.int (0 : Int32)), .val (.int c0_)]) rfl ?_
    refine XS.iinc X288.here hx rfl (hb hby d17_38) rfl (l' := #[.val (.ref ca), .val (.int (1 : Int32)), .val (.ref bb), .val (.int (1 : Int32)), .val (.int (3 : Int32)), .val (.int (1 : Int32)), .val (.int c0_)]) rfl ?_
    refine XS.goto X288.here hx rfl (pc0 := 41) (pc' := 3) rfl (hb hby d17_41) (by decide) (by decide) ?_
    refine XS.iload X288.here hx rfl (hb hby d17_3) rfl ?_
    refine XS.iload X288.here hx rfl (hb hby d17_5) rfl ?_
    refine XS.icmpNo X288.here hx rfl (hb hby d17_7) rfl (tlt (by decide : (1 : Int32) < (3 : Int32))).2.1 ?_
    refine XS.aloadN X288.here hx rfl (hb hby d17_10) rfl rfl ?_
    refine XS.iloadN X288.here hx rfl (hb hby d17_11) rfl ?_
    refine X288.caload hx (j := (1 : Int32)) (v := (.int c1_)) (by rw [e288]; exact Ar290.1) (State.isArrayOf_alike hZ.alike Ar290.2.1) Ar290.2.2 hin290 hat290 (g := (mkF m 12 #[.val (.ref ca), .val (.int (1 : Int32)), .val (.ref bb), .val (.int (1 : Int32)), .val (.int (3 : Int32)), .val (.int (1 : Int32)), .val (.int c0_)] [(.int (1 : Int32)), (.ref ca)])) rfl rfl (hb hby d17_12) _ ?_
    show Steps p.tables e below (T288.setTop (mkF m 13 #[.val (.ref ca), .val (.int (1 : Int32)), .val (.ref bb), .val (.int (1 : Int32)), .val (.int (3 : Int32)), .val (.int (1 : Int32)), .val (.int c0_)] [(.int c1_)])) _
    refine XS.istore X288.here hx rfl (hb hby d17_13) rfl (l' := #[.val (.ref ca), .val (.int (1 : Int32)), .val (.ref bb), .val (.int (1 : Int32)), .val (.int (3 : Int32)), .val (.int (1 : Int32)), .val (.int c1_)]) rfl ?_
    refine XS.iload X288.here hx rfl (hb hby d17_15) rfl ?_
    refine XS.sipush X288.here hx rfl (hb hby d17_17) ?_
    refine XS.icmpYes X288.here hx rfl (pc0 := 20) (pc' := 26) rfl (hb hby d17_20) rfl (flt ((by rw [Int32.lt_iff_toInt_lt]; have := own_255; omega) : ¬ ((255 : Int32) < c1_))).2.2.2 (by decide) (by decide) ?_
    refine XS.aloadN X288.here hx rfl (hb hby d17_26) rfl rfl ?_
    refine XS.iloadN X288.here hx rfl (hb hby d17_27) rfl ?_
    refine XS.iload X288.here hx rfl (hb hby d17_28) rfl ?_
    refine XS.i2b X288.here hx rfl (hb hby d17_30) rfl ?_
    refine st292 _ ?_
    show Steps p.tables e below (T292.setTop (mkF m 32 #[.val (.ref ca), .val (.int (1 : Int32)), .val (.ref bb), .val (.int (1 : Int32)), .val (.int (3 : Int32)), .val (.int (1 : Int32)), .val (.int c1_)] [])) _
    refine XS.iinc X292.here hx rfl (hb hby d17_32) rfl (l' := #[.val (.ref ca), .val (.int (2 : Int32)), .val (.ref bb), .val (.int (1 : Int32)), .val (.int (3 : Int32)), .val (.int (1 : Int32)), .val (.int c1_)]) rfl ?_
    refine XS.iinc X292.here hx rfl (hb hby d17_35) rfl (l' := #[.val (.ref ca), .val (.int (2 : Int32)), .val (.ref bb), .val (.int (2 : Int32)), .val (.int (3 : Int32)), .val (.int (1 : Int32)), .val (.int c1_)]) rfl ?_
    refine XS.iinc X292.here hx rfl (hb hby d17_38) rfl (l' := #[.val (.ref ca), .val (.int (2 : Int32)), .val (.ref bb), .val (.int (2 : Int32)), .val (.int (3 : Int32)), .val (.int (2 : Int32)), .val (.int c1_)]) rfl ?_
    refine XS.goto X292.here hx rfl (pc0 := 41) (pc' := 3) rfl (hb hby d17_41) (by decide) (by decide) ?_
    refine XS.iload X292.here hx rfl (hb hby d17_3) rfl ?_
    refine XS.iload X292.here hx rfl (hb hby d17_5) rfl ?_
    refine XS.icmpNo X292.here hx rfl (hb hby d17_7) rfl (tlt (by decide : (2 : Int32) < (3 : Int32))).2.1 ?_
    refine XS.aloadN X292.here hx rfl (hb hby d17_10) rfl rfl ?_
    refine XS.iloadN X292.here hx rfl (hb hby d17_11) rfl ?_
    refine X292.caload hx (j := (2 : Int32)) (v := (.int c2_)) (by rw [e292]; exact Ar294.1) (State.isArrayOf_alike hZ.alike Ar294.2.1) Ar294.2.2 hin294 hat294 (g := (mkF m 12 #[.val (.ref ca), .val (.int (2 : Int32)), .val (.ref bb), .val (.int (2 : Int32)), .val (.int (3 : Int32)), .val (.int (2 : Int32)), .val (.int c1_)] [(.int (2 : Int32)), (.ref ca)])) rfl rfl (hb hby d17_12) _ ?_
    show Steps p.tables e below (T292.setTop (mkF m 13 #[.val (.ref ca), .val (.int (2 : Int32)), .val (.ref bb), .val (.int (2 : Int32)), .val (.int (3 : Int32)), .val (.int (2 : Int32)), .val (.int c1_)] [(.int c2_)])) _
    refine XS.istore X292.here hx rfl (hb hby d17_13) rfl (l' := #[.val (.ref ca), .val (.int (2 : Int32)), .val (.ref bb), .val (.int (2 : Int32)), .val (.int (3 : Int32)), .val (.int (2 : Int32)), .val (.int c2_)]) rfl ?_
    refine XS.iload X292.here hx rfl (hb hby d17_15) rfl ?_
    refine XS.sipush X292.here hx rfl (hb hby d17_17) ?_
    refine XS.icmpYes X292.here hx rfl (pc0 := 20) (pc' := 26) rfl (hb hby d17_20) rfl (flt ((by rw [Int32.lt_iff_toInt_lt]; have := own_255; omega) : ¬ ((255 : Int32) < c2_))).2.2.2 (by decide) (by decide) ?_
    refine XS.aloadN X292.here hx rfl (hb hby d17_26) rfl rfl ?_
    refine XS.iloadN X292.here hx rfl (hb hby d17_27) rfl ?_
    refine XS.iload X292.here hx rfl (hb hby d17_28) rfl ?_
    refine XS.i2b X292.here hx rfl (hb hby d17_30) rfl ?_
    refine st296 _ ?_
    show Steps p.tables e below (T296.setTop (mkF m 32 #[.val (.ref ca), .val (.int (2 : Int32)), .val (.ref bb), .val (.int (2 : Int32)), .val (.int (3 : Int32)), .val (.int (2 : Int32)), .val (.int c2_)] [])) _
    refine XS.iinc X296.here hx rfl (hb hby d17_32) rfl (l' := #[.val (.ref ca), .val (.int (3 : Int32)), .val (.ref bb), .val (.int (2 : Int32)), .val (.int (3 : Int32)), .val (.int (2 : Int32)), .val (.int c2_)]) rfl ?_
    refine XS.iinc X296.here hx rfl (hb hby d17_35) rfl (l' := #[.val (.ref ca), .val (.int (3 : Int32)), .val (.ref bb), .val (.int (3 : Int32)), .val (.int (3 : Int32)), .val (.int (2 : Int32)), .val (.int c2_)]) rfl ?_
    refine XS.iinc X296.here hx rfl (hb hby d17_38) rfl (l' := #[.val (.ref ca), .val (.int (3 : Int32)), .val (.ref bb), .val (.int (3 : Int32)), .val (.int (3 : Int32)), .val (.int (3 : Int32)), .val (.int c2_)]) rfl ?_
    refine XS.goto X296.here hx rfl (pc0 := 41) (pc' := 3) rfl (hb hby d17_41) (by decide) (by decide) ?_
    refine XS.iload X296.here hx rfl (hb hby d17_3) rfl ?_
    refine XS.iload X296.here hx rfl (hb hby d17_5) rfl ?_
    refine XS.icmpYes X296.here hx rfl (pc0 := 7) (pc' := 44) rfl (hb hby d17_7) rfl (flt (by decide : ¬ ((3 : Int32) < (3 : Int32)))).2.1 (by decide) (by decide) ?_
    refine XS.iload X296.here hx rfl (hb hby d17_44) rfl ?_
    exact retOut X296 hx Bd.returns rfl (Or.inl ⟨rfl, Or.inl rfl, _, rfl⟩) (hb hby d17_46) hr
  · show own_Cmp Z bb kb (3 : Int32) [c0_, c1_, c2_] h0 n0 _ T296.heap _
    rw [e296]
    exact ⟨rfl, N296, KP296, own_FB.congr V296 (fun i hi => own_pt3 c0_ c1_ c2_ i hi)⟩
theorem ef_rm_cm2_4 (m : MethodId) (x0 : Addr) (x2 : Addr) : entryFrame m #[(.ref x0), (.int (0 : Int32)), (.ref x2), (.int (0 : Int32)), (.int (4 : Int32))] 7 = mkF m 0 #[.val (.ref x0), .val (.int (0 : Int32)), .val (.ref x2), .val (.int (0 : Int32)), .val (.int (4 : Int32)), .unset, .unset] [] := by first | (simp [entryFrame, mkF, argsToLocals, Value.category]; done) | rfl
set_option maxRecDepth 65536 in
set_option maxHeartbeats 40000000 in
theorem rm_cm2_4 (l : Launch) (Z : State) (a0 : Array Value) (hw : ∀ d ∈ tables_1, d.before a0 Z = true) (ws : List Jvm.Cond) (ca : Addr) (bb : Addr) (h0 : Heap) (n0 : Nat) (Z0 : n0 ≤ h0.size) (kc : ClassId) (c0_ c1_ c2_ c3_ : Int32) (A_c : Arv Z h0 ca kc .char (4 : Int32) [(.int c0_), (.int c1_), (.int c2_), (.int c3_)] (.int (0 : Int32))) (hc : (0 ≤ c0_.toInt ∧ c0_.toInt ≤ 255) ∧ (0 ≤ c1_.toInt ∧ c1_.toInt ≤ 255) ∧ (0 ≤ c2_.toInt ∧ c2_.toInt ≤ 255) ∧ (0 ≤ c3_.toInt ∧ c3_.toInt ≤ 255)) (kb : ClassId) (B_b : own_FB Z h0 bb kb (4 : Int32) (fun _ => (0 : Int32))) (ncb : ca ≠ bb) (gn_b : n0 ≤ bb) :
    MetFree l (⟨"java/lang/StringUTF16", "compress", "([CI[BII)I"⟩ : MethodName) (head1 (Jvm.Cond.code (⟨"java/lang/StringUTF16", "compress", "([CI[BII)I"⟩ : MethodName) jdk_52_method_21_code 7 (some .int) :: ws) ({ frames := 0, cells := 0, slots := 0, locals := 0 } : Room)) (fun aQ UQ => aQ = #[(.ref ca), (.int (0 : Int32)), (.ref bb), (.int (0 : Int32)), (.int (4 : Int32))] ∧ Z.Warmed39 UQ.vm ∧ UQ.heap = h0) (fun _ _ _ _ _ => True) (fun _ UQ oQ UR => ∃ vQ LQ, oQ = .returned vQ ∧ own_Cmp Z bb kb (4 : Int32) [c0_, c1_, c2_, c3_] h0 n0 vQ UR.heap LQ ∧ FrameEnd UQ oQ UR LQ ({ frames := 0, cells := 0, slots := 0, locals := 0 } : Room).cells ({ frames := 0, cells := 0, slots := 0, locals := 0 } : Room).slots) := by
  refine MetFree.of_bodySF (plainFor_of_name pn_576) hisR ?_
  intro p e s m args below meth c s₁ Bd hml0 hP hK
  obtain ⟨rfl, hZ, hh⟩ := hP
  have hx := Bd.exec
  have hby := Bd.bytes
  have hml : c.maxLocals = 7 := hml0
  have hown : s.vm.findClass "java/lang/StringUTF16" = some m.cls := findClass_of_methodNamed Bd.named
  have hnm := (name_of_methodNamed Bd.named Bd.method).1
  have X0 : Stand p l e ({ frames := 0, cells := 0, slots := 0, locals := 0 } : Room) s m #[(.ref ca), (.int (0 : Int32)), (.ref bb), (.int (0 : Int32)), (.int (4 : Int32))] below meth c s₁ [] 0 0 := Stand.of_body Bd
  have e0 : s₁.heap = h0 := by rw [← hh, Bd.state]; rfl
  have N0 := Fr.nil n0
  have pre0 : ∀ t, Steps p.tables e below (s₁.setTop (mkF m 0 #[.val (.ref ca), .val (.int (0 : Int32)), .val (.ref bb), .val (.int (0 : Int32)), .val (.int (4 : Int32)), .unset, .unset] [])) t → Steps p.tables e below (s₁.setTop (entryFrame m #[(.ref ca), (.int (0 : Int32)), (.ref bb), (.int (0 : Int32)), (.int (4 : Int32))] 7)) t := fun t kq => castTop (ef_rm_cm2_4 m ca bb) kq
  have Vc297 := A_c
  obtain ⟨cl297, Ar297, q297, S297, N297_, H297_, G297⟩ := Vc297
  have hin297 : ¬ ((0 : Int32) < 0 ∨ cl297.slots.size ≤ ((0 : Int32)).toNatClampNeg) := inb_of S297 ⟨by decide, by decide⟩
  have hat297 : cl297.slots[((0 : Int32)).toNatClampNeg]? = some (.int c0_) := Has.at H297_ hin297 rfl
  have Vc298 := B_b
  obtain ⟨cl298, Ar298, q298, S298, N298_, H298_, G298⟩ := Vc298
  have hin298 : ¬ ((0 : Int32) < 0 ∨ cl298.slots.size ≤ ((0 : Int32)).toNatClampNeg) := inb_of S298 ⟨(by decide), (by decide)⟩
  obtain ⟨T299, h299, X299, e299, W299, st299⟩ := stB X0 hx hZ e0 Ar298 (j := (0 : Int32)) hin298 (g := (mkF m 31 #[.val (.ref ca), .val (.int (0 : Int32)), .val (.ref bb), .val (.int (0 : Int32)), .val (.int (4 : Int32)), .val (.int (0 : Int32)), .val (.int c0_)] [(.int (c0_.toInt8.toInt32)), (.int (0 : Int32)), (.ref bb)])) rfl rfl (hb hby d17_31)
  have KP299 := Keep.wr (Keep.refl h0 [bb]) W299 (Or.inl (List.mem_of_getElem? (i := 0) rfl))
  have V299 : own_FB Z h299 bb kb (4 : Int32) (fun i => if i = ((0 : Int32)).toNatClampNeg then (nar .byte (c0_.toInt8.toInt32)) else (fun _ => (0 : Int32)) i) := own_FB.set Ar298 q298 S298 N298_ H298_ G298 (fits_nar_byte _) W299
  have N299 := Fr.snoc X299 N0 gn_b
  have Fx300 := (A_c.other W299 ncb)
  have Vc301 := Fx300
  obtain ⟨cl301, Ar301, q301, S301, N301_, H301_, G301⟩ := Vc301
  have hin301 : ¬ ((1 : Int32) < 0 ∨ cl301.slots.size ≤ ((1 : Int32)).toNatClampNeg) := inb_of S301 ⟨by decide, by decide⟩
  have hat301 : cl301.slots[((1 : Int32)).toNatClampNeg]? = some (.int c1_) := Has.at H301_ hin301 rfl
  have Vc302 := V299
  obtain ⟨cl302, Ar302, q302, S302, N302_, H302_, G302⟩ := Vc302
  have hin302 : ¬ ((1 : Int32) < 0 ∨ cl302.slots.size ≤ ((1 : Int32)).toNatClampNeg) := inb_of S302 ⟨(by decide), (by decide)⟩
  obtain ⟨T303, h303, X303, e303, W303, st303⟩ := stB X299 hx hZ e299 Ar302 (j := (1 : Int32)) hin302 (g := (mkF m 31 #[.val (.ref ca), .val (.int (1 : Int32)), .val (.ref bb), .val (.int (1 : Int32)), .val (.int (4 : Int32)), .val (.int (1 : Int32)), .val (.int c1_)] [(.int (c1_.toInt8.toInt32)), (.int (1 : Int32)), (.ref bb)])) rfl rfl (hb hby d17_31)
  have KP303 := Keep.wr KP299 W303 (Or.inl (List.mem_of_getElem? (i := 0) rfl))
  have V303 : own_FB Z h303 bb kb (4 : Int32) (fun i => if i = ((1 : Int32)).toNatClampNeg then (nar .byte (c1_.toInt8.toInt32)) else (fun i => if i = ((0 : Int32)).toNatClampNeg then (nar .byte (c0_.toInt8.toInt32)) else (fun _ => (0 : Int32)) i) i) := own_FB.set Ar302 q302 S302 N302_ H302_ G302 (fits_nar_byte _) W303
  have N303 := Fr.snoc X303 N299 gn_b
  have Fx304 := (Fx300.other W303 ncb)
  have Vc305 := Fx304
  obtain ⟨cl305, Ar305, q305, S305, N305_, H305_, G305⟩ := Vc305
  have hin305 : ¬ ((2 : Int32) < 0 ∨ cl305.slots.size ≤ ((2 : Int32)).toNatClampNeg) := inb_of S305 ⟨by decide, by decide⟩
  have hat305 : cl305.slots[((2 : Int32)).toNatClampNeg]? = some (.int c2_) := Has.at H305_ hin305 rfl
  have Vc306 := V303
  obtain ⟨cl306, Ar306, q306, S306, N306_, H306_, G306⟩ := Vc306
  have hin306 : ¬ ((2 : Int32) < 0 ∨ cl306.slots.size ≤ ((2 : Int32)).toNatClampNeg) := inb_of S306 ⟨(by decide), (by decide)⟩
  obtain ⟨T307, h307, X307, e307, W307, st307⟩ := stB X303 hx hZ e303 Ar306 (j := (2 : Int32)) hin306 (g := (mkF m 31 #[.val (.ref ca), .val (.int (2 : Int32)), .val (.ref bb), .val (.int (2 : Int32)), .val (.int (4 : Int32)), .val (.int (2 : Int32)), .val (.int c2_)] [(.int (c2_.toInt8.toInt32)), (.int (2 : Int32)), (.ref bb)])) rfl rfl (hb hby d17_31)
  have KP307 := Keep.wr KP303 W307 (Or.inl (List.mem_of_getElem? (i := 0) rfl))
  have V307 : own_FB Z h307 bb kb (4 : Int32) (fun i => if i = ((2 : Int32)).toNatClampNeg then (nar .byte (c2_.toInt8.toInt32)) else (fun i => if i = ((1 : Int32)).toNatClampNeg then (nar .byte (c1_.toInt8.toInt32)) else (fun i => if i = ((0 : Int32)).toNatClampNeg then (nar .byte (c0_.toInt8.toInt32)) else (fun _ => (0 : Int32)) i) i) i) := own_FB.set Ar306 q306 S306 N306_ H306_ G306 (fits_nar_byte _) W307
  have N307 := Fr.snoc X307 N303 gn_b
  have Fx308 := (Fx304.other W307 ncb)
  have Vc309 := Fx308
  obtain ⟨cl309, Ar309, q309, S309, N309_, H309_, G309⟩ := Vc309
  have hin309 : ¬ ((3 : Int32) < 0 ∨ cl309.slots.size ≤ ((3 : Int32)).toNatClampNeg) := inb_of S309 ⟨by decide, by decide⟩
  have hat309 : cl309.slots[((3 : Int32)).toNatClampNeg]? = some (.int c3_) := Has.at H309_ hin309 rfl
  have Vc310 := V307
  obtain ⟨cl310, Ar310, q310, S310, N310_, H310_, G310⟩ := Vc310
  have hin310 : ¬ ((3 : Int32) < 0 ∨ cl310.slots.size ≤ ((3 : Int32)).toNatClampNeg) := inb_of S310 ⟨(by decide), (by decide)⟩
  obtain ⟨T311, h311, X311, e311, W311, st311⟩ := stB X307 hx hZ e307 Ar310 (j := (3 : Int32)) hin310 (g := (mkF m 31 #[.val (.ref ca), .val (.int (3 : Int32)), .val (.ref bb), .val (.int (3 : Int32)), .val (.int (4 : Int32)), .val (.int (3 : Int32)), .val (.int c3_)] [(.int (c3_.toInt8.toInt32)), (.int (3 : Int32)), (.ref bb)])) rfl rfl (hb hby d17_31)
  have KP311 := Keep.wr KP307 W311 (Or.inl (List.mem_of_getElem? (i := 0) rfl))
  have V311 : own_FB Z h311 bb kb (4 : Int32) (fun i => if i = ((3 : Int32)).toNatClampNeg then (nar .byte (c3_.toInt8.toInt32)) else (fun i => if i = ((2 : Int32)).toNatClampNeg then (nar .byte (c2_.toInt8.toInt32)) else (fun i => if i = ((1 : Int32)).toNatClampNeg then (nar .byte (c1_.toInt8.toInt32)) else (fun i => if i = ((0 : Int32)).toNatClampNeg then (nar .byte (c0_.toInt8.toInt32)) else (fun _ => (0 : Int32)) i) i) i) i) := own_FB.set Ar310 q310 S310 N310_ H310_ G310 (fits_nar_byte _) W311
  have N311 := Fr.snoc X311 N307 gn_b
  obtain ⟨fs, hr, hrun, hended, hW, hsame⟩ := X311.leave (v := some (.int (4 : Int32))) (fun h => by rw [Bd.returns] at h; cases h)
  refine ⟨_, _, pre0 _ ?_, hrun, hended, _, _, rfl, ?_, ⟨_, rfl⟩, hW, hsame.mono (by decide) (by decide)⟩
  · refine XS.iconst X0.here hx rfl (hb hby d17_0) ?_
    refine XS.istore X0.here hx rfl (hb hby d17_1) rfl (l' := #[.val (.ref ca), .val (.int (0 : Int32)), .val (.ref bb), .val (.int (0 : Int32)), .val (.int (4 : Int32)), .val (.int (0 : Int32)), .unset]) rfl ?_
    refine XS.iload X0.here hx rfl (hb hby d17_3) rfl ?_
    refine XS.iload X0.here hx rfl (hb hby d17_5) rfl ?_
    refine XS.icmpNo X0.here hx rfl (hb hby d17_7) rfl (tlt (by decide : (0 : Int32) < (4 : Int32))).2.1 ?_
    refine XS.aloadN X0.here hx rfl (hb hby d17_10) rfl rfl ?_
    refine XS.iloadN X0.here hx rfl (hb hby d17_11) rfl ?_
    refine X0.caload hx (j := (0 : Int32)) (v := (.int c0_)) (by rw [e0]; exact Ar297.1) (State.isArrayOf_alike hZ.alike Ar297.2.1) Ar297.2.2 hin297 hat297 (g := (mkF m 12 #[.val (.ref ca), .val (.int (0 : Int32)), .val (.ref bb), .val (.int (0 : Int32)), .val (.int (4 : Int32)), .val (.int (0 : Int32)), .unset] [(.int (0 : Int32)), (.ref ca)])) rfl rfl (hb hby d17_12) _ ?_
    show Steps p.tables e below (s₁.setTop (mkF m 13 #[.val (.ref ca), .val (.int (0 : Int32)), .val (.ref bb), .val (.int (0 : Int32)), .val (.int (4 : Int32)), .val (.int (0 : Int32)), .unset] [(.int c0_)])) _
    refine XS.istore X0.here hx rfl (hb hby d17_13) rfl (l' := #[.val (.ref ca), .val (.int (0 : Int32)), .val (.ref bb), .val (.int (0 : Int32)), .val (.int (4 : Int32)), .val (.int (0 : Int32)), .val (.int c0_)]) rfl ?_
    refine XS.iload X0.here hx rfl (hb hby d17_15) rfl ?_
    refine XS.sipush X0.here hx rfl (hb hby d17_17) ?_
    refine XS.icmpYes X0.here hx rfl (pc0 := 20) (pc' := 26) rfl (hb hby d17_20) rfl (flt ((by rw [Int32.lt_iff_toInt_lt]; have := own_255; omega) : ¬ ((255 : Int32) < c0_))).2.2.2 (by decide) (by decide) ?_
    refine XS.aloadN X0.here hx rfl (hb hby d17_26) rfl rfl ?_
    refine XS.iloadN X0.here hx rfl (hb hby d17_27) rfl ?_
    refine XS.iload X0.here hx rfl (hb hby d17_28) rfl ?_
    refine XS.i2b X0.here hx rfl (hb hby d17_30) rfl ?_
    refine st299 _ ?_
    show Steps p.tables e below (T299.setTop (mkF m 32 #[.val (.ref ca), .val (.int (0 : Int32)), .val (.ref bb), .val (.int (0 : Int32)), .val (.int (4 : Int32)), .val (.int (0 : Int32)), .val (.int c0_)] [])) _
    refine XS.iinc X299.here hx rfl (hb hby d17_32) rfl (l' := #[.val (.ref ca), .val (.int (1 : Int32)), .val (.ref bb), .val (.int (0 : Int32)), .val (.int (4 : Int32)), .val (.int (0 : Int32)), .val (.int c0_)]) rfl ?_
    refine XS.iinc X299.here hx rfl (hb hby d17_35) rfl (l' := #[.val (.ref ca), .val (.int (1 : Int32)), .val (.ref bb), .val (.int (1 : Int32)), .val (.int (4 : Int32)), .val (.int (0 : Int32)), .val (.int c0_)]) rfl ?_
    refine XS.iinc X299.here hx rfl (hb hby d17_38) rfl (l' := #[.val (.ref ca), .val (.int (1 : Int32)), .val (.ref bb), .val (.int (1 : Int32)), .val (.int (4 : Int32)), .val (.int (1 : Int32)), .val (.int c0_)]) rfl ?_
    refine XS.goto X299.here hx rfl (pc0 := 41) (pc' := 3) rfl (hb hby d17_41) (by decide) (by decide) ?_
    refine XS.iload X299.here hx rfl (hb hby d17_3) rfl ?_
    refine XS.iload X299.here hx rfl (hb hby d17_5) rfl ?_
    refine XS.icmpNo X299.here hx rfl (hb hby d17_7) rfl (tlt (by decide : (1 : Int32) < (4 : Int32))).2.1 ?_
    refine XS.aloadN X299.here hx rfl (hb hby d17_10) rfl rfl ?_
    refine XS.iloadN X299.here hx rfl (hb hby d17_11) rfl ?_
    refine X299.caload hx (j := (1 : Int32)) (v := (.int c1_)) (by rw [e299]; exact Ar301.1) (State.isArrayOf_alike hZ.alike Ar301.2.1) Ar301.2.2 hin301 hat301 (g := (mkF m 12 #[.val (.ref ca), .val (.int (1 : Int32)), .val (.ref bb), .val (.int (1 : Int32)), .val (.int (4 : Int32)), .val (.int (1 : Int32)), .val (.int c0_)] [(.int (1 : Int32)), (.ref ca)])) rfl rfl (hb hby d17_12) _ ?_
    show Steps p.tables e below (T299.setTop (mkF m 13 #[.val (.ref ca), .val (.int (1 : Int32)), .val (.ref bb), .val (.int (1 : Int32)), .val (.int (4 : Int32)), .val (.int (1 : Int32)), .val (.int c0_)] [(.int c1_)])) _
    refine XS.istore X299.here hx rfl (hb hby d17_13) rfl (l' := #[.val (.ref ca), .val (.int (1 : Int32)), .val (.ref bb), .val (.int (1 : Int32)), .val (.int (4 : Int32)), .val (.int (1 : Int32)), .val (.int c1_)]) rfl ?_
    refine XS.iload X299.here hx rfl (hb hby d17_15) rfl ?_
    refine XS.sipush X299.here hx rfl (hb hby d17_17) ?_
    refine XS.icmpYes X299.here hx rfl (pc0 := 20) (pc' := 26) rfl (hb hby d17_20) rfl (flt ((by rw [Int32.lt_iff_toInt_lt]; have := own_255; omega) : ¬ ((255 : Int32) < c1_))).2.2.2 (by decide) (by decide) ?_
    refine XS.aloadN X299.here hx rfl (hb hby d17_26) rfl rfl ?_
    refine XS.iloadN X299.here hx rfl (hb hby d17_27) rfl ?_
    refine XS.iload X299.here hx rfl (hb hby d17_28) rfl ?_
    refine XS.i2b X299.here hx rfl (hb hby d17_30) rfl ?_
    refine st303 _ ?_
    show Steps p.tables e below (T303.setTop (mkF m 32 #[.val (.ref ca), .val (.int (1 : Int32)), .val (.ref bb), .val (.int (1 : Int32)), .val (.int (4 : Int32)), .val (.int (1 : Int32)), .val (.int c1_)] [])) _
    refine XS.iinc X303.here hx rfl (hb hby d17_32) rfl (l' := #[.val (.ref ca), .val (.int (2 : Int32)), .val (.ref bb), .val (.int (1 : Int32)), .val (.int (4 : Int32)), .val (.int (1 : Int32)), .val (.int c1_)]) rfl ?_
    refine XS.iinc X303.here hx rfl (hb hby d17_35) rfl (l' := #[.val (.ref ca), .val (.int (2 : Int32)), .val (.ref bb), .val (.int (2 : Int32)), .val (.int (4 : Int32)), .val (.int (1 : Int32)), .val (.int c1_)]) rfl ?_
    refine XS.iinc X303.here hx rfl (hb hby d17_38) rfl (l' := #[.val (.ref ca), .val (.int (2 : Int32)), .val (.ref bb), .val (.int (2 : Int32)), .val (.int (4 : Int32)), .val (.int (2 : Int32)), .val (.int c1_)]) rfl ?_
    refine XS.goto X303.here hx rfl (pc0 := 41) (pc' := 3) rfl (hb hby d17_41) (by decide) (by decide) ?_
    refine XS.iload X303.here hx rfl (hb hby d17_3) rfl ?_
    refine XS.iload X303.here hx rfl (hb hby d17_5) rfl ?_
    refine XS.icmpNo X303.here hx rfl (hb hby d17_7) rfl (tlt (by decide : (2 : Int32) < (4 : Int32))).2.1 ?_
    refine XS.aloadN X303.here hx rfl (hb hby d17_10) rfl rfl ?_
    refine XS.iloadN X303.here hx rfl (hb hby d17_11) rfl ?_
    refine X303.caload hx (j := (2 : Int32)) (v := (.int c2_)) (by rw [e303]; exact Ar305.1) (State.isArrayOf_alike hZ.alike Ar305.2.1) Ar305.2.2 hin305 hat305 (g := (mkF m 12 #[.val (.ref ca), .val (.int (2 : Int32)), .val (.ref bb), .val (.int (2 : Int32)), .val (.int (4 : Int32)), .val (.int (2 : Int32)), .val (.int c1_)] [(.int (2 : Int32)), (.ref ca)])) rfl rfl (hb hby d17_12) _ ?_
    show Steps p.tables e below (T303.setTop (mkF m 13 #[.val (.ref ca), .val (.int (2 : Int32)), .val (.ref bb), .val (.int (2 : Int32)), .val (.int (4 : Int32)), .val (.int (2 : Int32)), .val (.int c1_)] [(.int c2_)])) _
    refine XS.istore X303.here hx rfl (hb hby d17_13) rfl (l' := #[.val (.ref ca), .val (.int (2 : Int32)), .val (.ref bb), .val (.int (2 : Int32)), .val (.int (4 : Int32)), .val (.int (2 : Int32)), .val (.int c2_)]) rfl ?_
    refine XS.iload X303.here hx rfl (hb hby d17_15) rfl ?_
    refine XS.sipush X303.here hx rfl (hb hby d17_17) ?_
    refine XS.icmpYes X303.here hx rfl (pc0 := 20) (pc' := 26) rfl (hb hby d17_20) rfl (flt ((by rw [Int32.lt_iff_toInt_lt]; have := own_255; omega) : ¬ ((255 : Int32) < c2_))).2.2.2 (by decide) (by decide) ?_
    refine XS.aloadN X303.here hx rfl (hb hby d17_26) rfl rfl ?_
    refine XS.iloadN X303.here hx rfl (hb hby d17_27) rfl ?_
    refine XS.iload X303.here hx rfl (hb hby d17_28) rfl ?_
    refine XS.i2b X303.here hx rfl (hb hby d17_30) rfl ?_
    refine st307 _ ?_
    show Steps p.tables e below (T307.setTop (mkF m 32 #[.val (.ref ca), .val (.int (2 : Int32)), .val (.ref bb), .val (.int (2 : Int32)), .val (.int (4 : Int32)), .val (.int (2 : Int32)), .val (.int c2_)] [])) _
    refine XS.iinc X307.here hx rfl (hb hby d17_32) rfl (l' := #[.val (.ref ca), .val (.int (3 : Int32)), .val (.ref bb), .val (.int (2 : Int32)), .val (.int (4 : Int32)), .val (.int (2 : Int32)), .val (.int c2_)]) rfl ?_
    refine XS.iinc X307.here hx rfl (hb hby d17_35) rfl (l' := #[.val (.ref ca), .val (.int (3 : Int32)), .val (.ref bb), .val (.int (3 : Int32)), .val (.int (4 : Int32)), .val (.int (2 : Int32)), .val (.int c2_)]) rfl ?_
    refine XS.iinc X307.here hx rfl (hb hby d17_38) rfl (l' := #[.val (.ref ca), .val (.int (3 : Int32)), .val (.ref bb), .val (.int (3 : Int32)), .val (.int (4 : Int32)), .val (.int (3 : Int32)), .val (.int c2_)]) rfl ?_
    refine XS.goto X307.here hx rfl (pc0 := 41) (pc' := 3) rfl (hb hby d17_41) (by decide) (by decide) ?_
    refine XS.iload X307.here hx rfl (hb hby d17_3) rfl ?_
    refine XS.iload X307.here hx rfl (hb hby d17_5) rfl ?_
    refine XS.icmpNo X307.here hx rfl (hb hby d17_7) rfl (tlt (by decide : (3 : Int32) < (4 : Int32))).2.1 ?_
    refine XS.aloadN X307.here hx rfl (hb hby d17_10) rfl rfl ?_
    refine XS.iloadN X307.here hx rfl (hb hby d17_11) rfl ?_
    refine X307.caload hx (j := (3 : Int32)) (v := (.int c3_)) (by rw [e307]; exact Ar309.1) (State.isArrayOf_alike hZ.alike Ar309.2.1) Ar309.2.2 hin309 hat309 (g := (mkF m 12 #[.val (.ref ca), .val (.int (3 : Int32)), .val (.ref bb), .val (.int (3 : Int32)), .val (.int (4 : Int32)), .val (.int (3 : Int32)), .val (.int c2_)] [(.int (3 : Int32)), (.ref ca)])) rfl rfl (hb hby d17_12) _ ?_
    show Steps p.tables e below (T307.setTop (mkF m 13 #[.val (.ref ca), .val (.int (3 : Int32)), .val (.ref bb), .val (.int (3 : Int32)), .val (.int (4 : Int32)), .val (.int (3 : Int32)), .val (.int c2_)] [(.int c3_)])) _
    refine XS.istore X307.here hx rfl (hb hby d17_13) rfl (l' := #[.val (.ref ca), .val (.int (3 : Int32)), .val (.ref bb), .val (.int (3 : Int32)), .val (.int (4 : Int32)), .val (.int (3 : Int32)), .val (.int c3_)]) rfl ?_
    refine XS.iload X307.here hx rfl (hb hby d17_15) rfl ?_
    refine XS.sipush X307.here hx rfl (hb hby d17_17) ?_
    refine XS.icmpYes X307.here hx rfl (pc0 := 20) (pc' := 26) rfl (hb hby d17_20) rfl (flt ((by rw [Int32.lt_iff_toInt_lt]; have := own_255; omega) : ¬ ((255 : Int32) < c3_))).2.2.2 (by decide) (by decide) ?_
    refine XS.aloadN X307.here hx rfl (hb hby d17_26) rfl rfl ?_
    refine XS.iloadN X307.here hx rfl (hb hby d17_27) rfl ?_
    refine XS.iload X307.here hx rfl (hb hby d17_28) rfl ?_
    refine XS.i2b X307.here hx rfl (hb hby d17_30) rfl ?_
    refine st311 _ ?_
    show Steps p.tables e below (T311.setTop (mkF m 32 #[.val (.ref ca), .val (.int (3 : Int32)), .val (.ref bb), .val (.int (3 : Int32)), .val (.int (4 : Int32)), .val (.int (3 : Int32)), .val (.int c3_)] [])) _
    refine XS.iinc X311.here hx rfl (hb hby d17_32) rfl (l' := #[.val (.ref ca), .val (.int (4 : Int32)), .val (.ref bb), .val (.int (3 : Int32)), .val (.int (4 : Int32)), .val (.int (3 : Int32)), .val (.int c3_)]) rfl ?_
    refine XS.iinc X311.here hx rfl (hb hby d17_35) rfl (l' := #[.val (.ref ca), .val (.int (4 : Int32)), .val (.ref bb), .val (.int (4 : Int32)), .val (.int (4 : Int32)), .val (.int (3 : Int32)), .val (.int c3_)]) rfl ?_
    refine XS.iinc X311.here hx rfl (hb hby d17_38) rfl (l' := #[.val (.ref ca), .val (.int (4 : Int32)), .val (.ref bb), .val (.int (4 : Int32)), .val (.int (4 : Int32)), .val (.int (4 : Int32)), .val (.int c3_)]) rfl ?_
    refine XS.goto X311.here hx rfl (pc0 := 41) (pc' := 3) rfl (hb hby d17_41) (by decide) (by decide) ?_
    refine XS.iload X311.here hx rfl (hb hby d17_3) rfl ?_
    refine XS.iload X311.here hx rfl (hb hby d17_5) rfl ?_
    refine XS.icmpYes X311.here hx rfl (pc0 := 7) (pc' := 44) rfl (hb hby d17_7) rfl (flt (by decide : ¬ ((4 : Int32) < (4 : Int32)))).2.1 (by decide) (by decide) ?_
    refine XS.iload X311.here hx rfl (hb hby d17_44) rfl ?_
    exact retOut X311 hx Bd.returns rfl (Or.inl ⟨rfl, Or.inl rfl, _, rfl⟩) (hb hby d17_46) hr
  · show own_Cmp Z bb kb (4 : Int32) [c0_, c1_, c2_, c3_] h0 n0 _ T311.heap _
    rw [e311]
    exact ⟨rfl, N311, KP311, own_FB.congr V311 (fun i hi => own_pt4 c0_ c1_ c2_ c3_ i hi)⟩
theorem d16_0 : decode jdk_52_method_16_code 0 = .ok (.iload_n 2, 1) := by decide +kernel
theorem d16_1 : decode jdk_52_method_16_code 1 = .ok (.newarray .byte, 2) := by decide +kernel
theorem d16_3 : decode jdk_52_method_16_code 3 = .ok (.astore_n 3, 1) := by decide +kernel
theorem d16_4 : decode jdk_52_method_16_code 4 = .ok (.aload_n 0, 1) := by decide +kernel
theorem d16_5 : decode jdk_52_method_16_code 5 = .ok (.iload_n 1, 1) := by decide +kernel
theorem d16_6 : decode jdk_52_method_16_code 6 = .ok (.aload_n 3, 1) := by decide +kernel
theorem d16_7 : decode jdk_52_method_16_code 7 = .ok (.iconst 0, 1) := by decide +kernel
theorem d16_8 : decode jdk_52_method_16_code 8 = .ok (.iload_n 2, 1) := by decide +kernel
theorem pd_585 : parseMethodDescriptor "([CI[BII)I" = some ⟨[(.array .char), .int, (.array .byte), .int, .int], some .int⟩ := by decide +kernel
theorem d16_9 : decode jdk_52_method_16_code 9 = .ok (.invokestatic 115, 3) := by decide +kernel
theorem d16_12 : decode jdk_52_method_16_code 12 = .ok (.istore 4, 2) := by decide +kernel
theorem d16_14 : decode jdk_52_method_16_code 14 = .ok (.iload 4, 2) := by decide +kernel
theorem d16_16 : decode jdk_52_method_16_code 16 = .ok (.iload_n 2, 1) := by decide +kernel
theorem d16_17 : decode jdk_52_method_16_code 17 = .ok (.if_icmp .eq 40, 3) := by decide +kernel
theorem d16_57 : decode jdk_52_method_16_code 57 = .ok (.aload_n 3, 1) := by decide +kernel
theorem d16_58 : decode jdk_52_method_16_code 58 = .ok (.areturn, 1) := by decide +kernel
theorem ef_rm_cm1_1 (m : MethodId) (x0 : Addr) : entryFrame m #[(.ref x0), (.int (0 : Int32)), (.int (1 : Int32))] 6 = mkF m 0 #[.val (.ref x0), .val (.int (0 : Int32)), .val (.int (1 : Int32)), .unset, .unset, .unset] [] := by first | (simp [entryFrame, mkF, argsToLocals, Value.category]; done) | rfl
set_option maxRecDepth 65536 in
set_option maxHeartbeats 40000000 in
theorem rm_cm1_1 (l : Launch) (Z : State) (a0 : Array Value) (hw : ∀ d ∈ tables_1, d.before a0 Z = true) (ws : List Jvm.Cond) (ca : Addr) (h0 : Heap) (n0 : Nat) (Z0 : n0 ≤ h0.size) (kc : ClassId) (c0_ : Int32) (A_c : Arv Z h0 ca kc .char (1 : Int32) [(.int c0_)] (.int (0 : Int32))) (hc : (0 ≤ c0_.toInt ∧ c0_.toInt ≤ 255)) :
    MetFree l (⟨"java/lang/StringUTF16", "compress", "([CII)[B"⟩ : MethodName) (head1 (Jvm.Cond.code (⟨"java/lang/StringUTF16", "compress", "([CII)[B"⟩ : MethodName) jdk_52_method_16_code 6 (some (.array .byte)) :: ws) ({ frames := 1, cells := 1, slots := 1, locals := 18 } : Room)) (fun aQ UQ => aQ = #[(.ref ca), (.int (0 : Int32)), (.int (1 : Int32))] ∧ Z.Warmed39 UQ.vm ∧ UQ.heap = h0) (fun _ _ _ _ _ => True) (fun _ UQ oQ UR => ∃ vQ LQ, oQ = .returned vQ ∧ own_Cmp1 Z (1 : Int32) [c0_] h0 n0 vQ UR.heap LQ ∧ FrameEnd UQ oQ UR LQ ({ frames := 1, cells := 1, slots := 1, locals := 18 } : Room).cells ({ frames := 1, cells := 1, slots := 1, locals := 18 } : Room).slots) := by
  refine MetFree.of_bodySF (plainFor_of_name pn_576) hisR ?_
  intro p e s m args below meth c s₁ Bd hml0 hP hK
  obtain ⟨rfl, hZ, hh⟩ := hP
  have hx := Bd.exec
  have hby := Bd.bytes
  have hml : c.maxLocals = 6 := hml0
  have hown : s.vm.findClass "java/lang/StringUTF16" = some m.cls := findClass_of_methodNamed Bd.named
  have hnm := (name_of_methodNamed Bd.named Bd.method).1
  have X0 : Stand p l e ({ frames := 1, cells := 1, slots := 1, locals := 18 } : Room) s m #[(.ref ca), (.int (0 : Int32)), (.int (1 : Int32))] below meth c s₁ [] 0 0 := Stand.of_body Bd
  have e0 : s₁.heap = h0 := by rw [← hh, Bd.state]; rfl
  have N0 := Fr.nil n0
  have pre0 : ∀ t, Steps p.tables e below (s₁.setTop (mkF m 0 #[.val (.ref ca), .val (.int (0 : Int32)), .val (.int (1 : Int32)), .unset, .unset, .unset] [])) t → Steps p.tables e below (s₁.setTop (entryFrame m #[(.ref ca), (.int (0 : Int32)), (.int (1 : Int32))] 6)) t := fun t kq => castTop (ef_rm_cm1_1 m ca) kq
  obtain ⟨T312, h312, k312, X312, e312, E312, A312, Ea312, st312⟩ := newPE X0 hx hZ (own_q hw 16 rfl) e0 (g := (mkF m 1 #[.val (.ref ca), .val (.int (0 : Int32)), .val (.int (1 : Int32)), .unset, .unset, .unset] [(.int (1 : Int32))])) rfl (hb hby d16_1) rfl (by decide) (cap := 1) (by decide) (by decide) (by decide) (by decide) (ad := "[B") (by decide)
  obtain ⟨b312, g312⟩ : ∃ z, z = h0.size := ⟨_, rfl⟩
  rw [← g312] at A312 Ea312 st312
  have sz_b312 : h0.size ≤ b312 := Nat.le_trans (Keep.refl h0 []).1 (Nat.le_of_eq g312.symm)
  have gn_b312 : n0 ≤ b312 := Nat.le_trans Z0 sz_b312
  have ne_ca_b312 : ca ≠ b312 := Nat.ne_of_lt (Nat.lt_of_lt_of_le A_c.lt (Nat.le_of_eq g312.symm))
  have EX312 := own_ext_trans (own_ext_refl h0) E312
  have KP312 := Keep.ext (Keep.refl h0 []) E312
  have V312 : own_FB Z h312 b312 k312 (1 : Int32) (fun _ => (0 : Int32)) := own_FB.new A312 (by decide)
  have Fx313 := (A_c.ext E312)
  obtain ⟨_, _, ⟨T314, L314, k314, n314⟩, -, X314, ⟨Lc314, hQ314, l314, y314, z314⟩, st314⟩ := Jvm.LawKit.callS X312 hx (y := (⟨"java/lang/StringUTF16", "compress", "([CI[BII)I"⟩ : MethodName)) hown (mvT hZ (own_q hw 94 rfl)) (mvT hZ (own_q hw 95 rfl)) (mvT hZ (own_q hw 92 rfl)) (mvT hZ (own_q hw 96 rfl)) (by decide) (backOf (W := 0) (rm_cm2_1 l Z a0 hw [] ca b312 h312 n0 (Nat.le_trans Z0 EX312.1) kc c0_ Fx313 hc k312 V312 ne_ca_b312 gn_b312) hZ (own_q hw 96 rfl) (own_q hw 92 rfl) (by decide) (by decide)) (g := (mkF m 9 #[.val (.ref ca), .val (.int (0 : Int32)), .val (.int (1 : Int32)), .val (.ref b312), .unset, .unset] [(.int (1 : Int32)), (.int (0 : Int32)), (.ref b312), (.int (0 : Int32)), (.ref ca)])) rfl (by rw [hml]; rfl) (argsL := [(.ref ca), (.int (0 : Int32)), (.ref b312), (.int (0 : Int32)), (.int (1 : Int32))]) (rest := []) (lenOf pd_585 rfl) rfl (by show 2 * 0 + _ ≤ _; exact Nat.le_of_eq rfl) (hb hby d16_9) (fun _ _ => ⟨rfl, e312, (by decide : 1 + 0 ≤ _), (by decide : 1 + 0 ≤ _)⟩)
  dsimp only [Pt.U, Pt.locs, Pt.cells, Pt.slots] at X314 l314 y314 z314 st314 hQ314
  subst l314 y314 z314
  obtain ⟨rfl, N314q, K314, V314⟩ := hQ314
  have N314 := Fr.app N0 N314q
  have e314 : T314.heap = T314.heap := rfl
  have EX314 := own_ext_keep EX312 K314 (allS sz_b312 all0)
  have KP314 := Keep.trans KP312 K314 (allS (Or.inr sz_b312) all0)
  obtain ⟨fs, hr, hrun, hended, hW, hsame⟩ := X314.leave (v := some (.ref b312)) (fun h => by rw [Bd.returns] at h; cases h)
  refine ⟨_, _, pre0 _ ?_, hrun, hended, _, _, rfl, ?_, ⟨_, rfl⟩, hW, hsame.mono (by decide) (by decide)⟩
  · refine XS.iloadN X0.here hx rfl (hb hby d16_0) rfl ?_
    refine st312 _ ?_
    show Steps p.tables e below (T312.setTop (mkF m 3 #[.val (.ref ca), .val (.int (0 : Int32)), .val (.int (1 : Int32)), .unset, .unset, .unset] [(.ref b312)])) _
    refine XS.astoreN X312.here hx rfl (hb hby d16_3) rfl rfl (l' := #[.val (.ref ca), .val (.int (0 : Int32)), .val (.int (1 : Int32)), .val (.ref b312), .unset, .unset]) rfl ?_
    refine XS.aloadN X312.here hx rfl (hb hby d16_4) rfl rfl ?_
    refine XS.iloadN X312.here hx rfl (hb hby d16_5) rfl ?_
    refine XS.aloadN X312.here hx rfl (hb hby d16_6) rfl rfl ?_
    refine XS.iconst X312.here hx rfl (hb hby d16_7) ?_
    refine XS.iloadN X312.here hx rfl (hb hby d16_8) rfl ?_
    refine st314 _ ?_
    show Steps p.tables e below (T314.setTop (mkF m 12 #[.val (.ref ca), .val (.int (0 : Int32)), .val (.int (1 : Int32)), .val (.ref b312), .unset, .unset] [(.int (1 : Int32))])) _
    refine XS.istore X314.here hx rfl (hb hby d16_12) rfl (l' := #[.val (.ref ca), .val (.int (0 : Int32)), .val (.int (1 : Int32)), .val (.ref b312), .val (.int (1 : Int32)), .unset]) rfl ?_
    refine XS.iload X314.here hx rfl (hb hby d16_14) rfl ?_
    refine XS.iloadN X314.here hx rfl (hb hby d16_16) rfl ?_
    refine XS.icmpYes X314.here hx rfl (pc0 := 17) (pc' := 57) rfl (hb hby d16_17) rfl (teq (by decide : (1 : Int32) = (1 : Int32))).1 (by decide) (by decide) ?_
    refine XS.aloadN X314.here hx rfl (hb hby d16_57) rfl rfl ?_
    exact retOut X314 hx Bd.returns rfl (Or.inr (Or.inr (Or.inr (Or.inr ⟨rfl, rfl, rfl⟩)))) (hb hby d16_58) hr
  · show own_Cmp1 Z (1 : Int32) [c0_] h0 n0 _ T314.heap _
    exact ⟨b312, _, rfl, N314, EX314, sz_b312, V314⟩
theorem d18_0 : decode jdk_52_method_15_code 0 = .ok (.iload_n 1, 1) := by decide +kernel
theorem d18_1 : decode jdk_52_method_15_code 1 = .ok (.aload_n 0, 1) := by decide +kernel
theorem d18_2 : decode jdk_52_method_15_code 2 = .ok (.arraylength, 1) := by decide +kernel
theorem d18_3 : decode jdk_52_method_15_code 3 = .ok (.isub, 1) := by decide +kernel
theorem d18_4 : decode jdk_52_method_15_code 4 = .ok (.bipush 31, 2) := by decide +kernel
theorem d18_6 : decode jdk_52_method_15_code 6 = .ok (.iushr, 1) := by decide +kernel
theorem d18_7 : decode jdk_52_method_15_code 7 = .ok (.i2b, 1) := by decide +kernel
theorem d18_8 : decode jdk_52_method_15_code 8 = .ok (.ireturn, 1) := by decide +kernel
theorem ef_rm_cfl_1 (m : MethodId) (x0 : Addr) : entryFrame m #[(.ref x0), (.int (1 : Int32))] 2 = mkF m 0 #[.val (.ref x0), .val (.int (1 : Int32))] [] := by first | (simp [entryFrame, mkF, argsToLocals, Value.category]; done) | rfl
set_option maxRecDepth 65536 in
set_option maxHeartbeats 40000000 in
theorem rm_cfl_1 (l : Launch) (Z : State) (a0 : Array Value) (hw : ∀ d ∈ tables_1, d.before a0 Z = true) (ws : List Jvm.Cond) (bb : Addr) (h0 : Heap) (n0 : Nat) (Z0 : n0 ≤ h0.size) (kb : ClassId) (f : Nat → Int32) (B_b : own_FB Z h0 bb kb (1 : Int32) f) :
    MetFree l (⟨"java/lang/StringUTF16", "coderFromArrayLen", "([BI)B"⟩ : MethodName) (head1 (Jvm.Cond.code (⟨"java/lang/StringUTF16", "coderFromArrayLen", "([BI)B"⟩ : MethodName) jdk_52_method_15_code 2 (some .byte) :: ws) ({ frames := 0, cells := 0, slots := 0, locals := 0 } : Room)) (fun aQ UQ => aQ = #[(.ref bb), (.int (1 : Int32))] ∧ Z.Warmed39 UQ.vm ∧ UQ.heap = h0) (fun _ _ _ _ _ => True) (fun _ UQ oQ UR => ∃ vQ LQ, oQ = .returned vQ ∧ own_Pure (some (.int 0)) h0 n0 vQ UR.heap LQ ∧ FrameEnd UQ oQ UR LQ ({ frames := 0, cells := 0, slots := 0, locals := 0 } : Room).cells ({ frames := 0, cells := 0, slots := 0, locals := 0 } : Room).slots) := by
  refine MetFree.of_bodySF (plainFor_of_name pn_576) hisR ?_
  intro p e s m args below meth c s₁ Bd hml0 hP hK
  obtain ⟨rfl, hZ, hh⟩ := hP
  have hx := Bd.exec
  have hby := Bd.bytes
  have hml : c.maxLocals = 2 := hml0
  have hown : s.vm.findClass "java/lang/StringUTF16" = some m.cls := findClass_of_methodNamed Bd.named
  have hnm := (name_of_methodNamed Bd.named Bd.method).1
  have X0 : Stand p l e ({ frames := 0, cells := 0, slots := 0, locals := 0 } : Room) s m #[(.ref bb), (.int (1 : Int32))] below meth c s₁ [] 0 0 := Stand.of_body Bd
  have e0 : s₁.heap = h0 := by rw [← hh, Bd.state]; rfl
  have N0 := Fr.nil n0
  have pre0 : ∀ t, Steps p.tables e below (s₁.setTop (mkF m 0 #[.val (.ref bb), .val (.int (1 : Int32))] [])) t → Steps p.tables e below (s₁.setTop (entryFrame m #[(.ref bb), (.int (1 : Int32))] 2)) t := fun t kq => castTop (ef_rm_cfl_1 m bb) kq
  have Vc315 := B_b
  obtain ⟨cl315, Ar315, q315, S315, N315_, H315_, G315⟩ := Vc315
  obtain ⟨fs, hr, hrun, hended, hW, hsame⟩ := X0.leave (v := some (.int (0 : Int32))) (fun h => by rw [Bd.returns] at h; cases h)
  refine ⟨_, _, pre0 _ ?_, hrun, hended, _, _, rfl, ?_, ⟨_, rfl⟩, hW, hsame.mono (by decide) (by decide)⟩
  · refine XS.iloadN X0.here hx rfl (hb hby d18_0) rfl ?_
    refine XS.aloadN X0.here hx rfl (hb hby d18_1) rfl rfl ?_
    refine X0.arraylength hx (by rw [e0]; exact Ar315.1) (State.isArrayOf_alike hZ.alike Ar315.2.1) (g := (mkF m 2 #[.val (.ref bb), .val (.int (1 : Int32))] [(.ref bb), (.int (1 : Int32))])) rfl rfl (hb hby d18_2) _ ?_
    rw [len_of S315 N315_]
    show Steps p.tables e below (s₁.setTop (mkF m 3 #[.val (.ref bb), .val (.int (1 : Int32))] [(.int (1 : Int32)), (.int (1 : Int32))])) _
    refine XS.isub X0.here hx rfl (hb hby d18_3) rfl ?_
    refine XS.bipush X0.here hx rfl (hb hby d18_4) ?_
    refine XS.iushr X0.here hx rfl (hb hby d18_6) rfl ?_
    show Steps p.tables e below (s₁.setTop (mkF m 7 #[.val (.ref bb), .val (.int (1 : Int32))] [(.int (((0 : Int32).toUInt32 >>> ((31 : Int32) &&& 31).toUInt32).toInt32))])) _
    rw [(by decide : (((0 : Int32).toUInt32 >>> ((31 : Int32) &&& 31).toUInt32).toInt32) = (0 : Int32))]
    show Steps p.tables e below (s₁.setTop (mkF m 7 #[.val (.ref bb), .val (.int (1 : Int32))] [(.int (0 : Int32))])) _
    refine XS.i2b X0.here hx rfl (hb hby d18_7) rfl ?_
    exact retN X0 hx (t := .byte) Bd.returns (by simp) (hb hby d18_8) hr
  · show own_Pure (some (.int 0)) h0 n0 _ s₁.heap _
    rw [e0]
    exact ⟨rfl, N0, rfl⟩
theorem d2_0 : decode jdk_42_method_149_code 0 = .ok (.aload_n 0, 1) := by decide +kernel
theorem d2_1 : decode jdk_42_method_149_code 1 = .ok (.invokespecial 1, 3) := by decide +kernel
theorem d2_4 : decode jdk_42_method_149_code 4 = .ok (.iload_n 3, 1) := by decide +kernel
theorem d2_5 : decode jdk_42_method_149_code 5 = .ok (.ifCond .ne 22, 3) := by decide +kernel
theorem d2_27 : decode jdk_42_method_149_code 27 = .ok (.getstatic 38, 3) := by decide +kernel
theorem d2_30 : decode jdk_42_method_149_code 30 = .ok (.ifCond .eq 28, 3) := by decide +kernel
theorem d2_33 : decode jdk_42_method_149_code 33 = .ok (.aload_n 1, 1) := by decide +kernel
theorem d2_34 : decode jdk_42_method_149_code 34 = .ok (.iload_n 2, 1) := by decide +kernel
theorem d2_35 : decode jdk_42_method_149_code 35 = .ok (.iload_n 3, 1) := by decide +kernel
theorem pd_610 : parseMethodDescriptor "([CII)[B" = some ⟨[(.array .char), .int, .int], some (.array .byte)⟩ := by decide +kernel
theorem d2_36 : decode jdk_42_method_149_code 36 = .ok (.invokestatic 177, 3) := by decide +kernel
theorem d2_39 : decode jdk_42_method_149_code 39 = .ok (.astore 5, 2) := by decide +kernel
theorem d2_41 : decode jdk_42_method_149_code 41 = .ok (.aload_n 0, 1) := by decide +kernel
theorem d2_42 : decode jdk_42_method_149_code 42 = .ok (.aload 5, 2) := by decide +kernel
theorem d2_44 : decode jdk_42_method_149_code 44 = .ok (.iload_n 3, 1) := by decide +kernel
theorem pd_616 : parseMethodDescriptor "([BI)B" = some ⟨[(.array .byte), .int], some .byte⟩ := by decide +kernel
theorem d2_45 : decode jdk_42_method_149_code 45 = .ok (.invokestatic 47, 3) := by decide +kernel
theorem d2_48 : decode jdk_42_method_149_code 48 = .ok (.putfield 15, 3) := by decide +kernel
theorem d2_51 : decode jdk_42_method_149_code 51 = .ok (.aload_n 0, 1) := by decide +kernel
theorem d2_52 : decode jdk_42_method_149_code 52 = .ok (.aload 5, 2) := by decide +kernel
theorem d2_54 : decode jdk_42_method_149_code 54 = .ok (.putfield 9, 3) := by decide +kernel
theorem d2_57 : decode jdk_42_method_149_code 57 = .ok (.return_, 1) := by decide +kernel
theorem ef_rm_si4_1 (m : MethodId) (x0 : Addr) (x1 : Addr) : entryFrame m #[(.ref x0), (.ref x1), (.int (0 : Int32)), (.int (1 : Int32)), .null] 6 = mkF m 0 #[.val (.ref x0), .val (.ref x1), .val (.int (0 : Int32)), .val (.int (1 : Int32)), .val .null, .unset] [] := by first | (simp [entryFrame, mkF, argsToLocals, Value.category]; done) | rfl
set_option maxRecDepth 65536 in
set_option maxHeartbeats 40000000 in
theorem rm_si4_1 (l : Launch) (Z : State) (a0 : Array Value) (hw : ∀ d ∈ tables_1, d.before a0 Z = true) (ws : List Jvm.Cond) (a1 : Addr) (ca : Addr) (h0 : Heap) (n0 : Nat) (Z0 : n0 ≤ h0.size) (E_a : Exa Z h0 a1 "java/lang/String") (F_v : Fld Z h0 a1 "java/lang/String" "value" "[B" .null) (F_c : Fld Z h0 a1 "java/lang/String" "coder" "B" (.int (0 : Int32))) (gn_a : n0 ≤ a1) (cst : Int32) (fmt : Value) (hT : own_T Z h0 cst fmt) (kc : ClassId) (c0_ : Int32) (A_c : Arv Z h0 ca kc .char (1 : Int32) [(.int c0_)] (.int (0 : Int32))) (hc : (0 ≤ c0_.toInt ∧ c0_.toInt ≤ 255)) :
    MetFree l (⟨"java/lang/String", "<init>", "([CIILjava/lang/Void;)V"⟩ : MethodName) (head1 (Jvm.Cond.code (⟨"java/lang/String", "<init>", "([CIILjava/lang/Void;)V"⟩ : MethodName) jdk_42_method_149_code 6 none :: ws) ({ frames := 2, cells := 1, slots := 1, locals := 35 } : Room)) (fun aQ UQ => aQ = #[(.ref a1), (.ref ca), (.int (0 : Int32)), (.int (1 : Int32)), .null] ∧ Z.Warmed39 UQ.vm ∧ UQ.heap = h0) (fun _ _ _ _ _ => True) (fun _ UQ oQ UR => ∃ vQ LQ, oQ = .returned vQ ∧ own_SNew Z a1 (1 : Int32) [c0_] h0 n0 vQ UR.heap LQ ∧ FrameEnd UQ oQ UR LQ ({ frames := 2, cells := 1, slots := 1, locals := 35 } : Room).cells ({ frames := 2, cells := 1, slots := 1, locals := 35 } : Room).slots) := by
  refine MetFree.of_bodySF (plainFor_of_name pn_6) hisR ?_
  intro p e s m args below meth c s₁ Bd hml0 hP hK
  obtain ⟨rfl, hZ, hh⟩ := hP
  have hx := Bd.exec
  have hby := Bd.bytes
  have hml : c.maxLocals = 6 := hml0
  have hown : s.vm.findClass "java/lang/String" = some m.cls := findClass_of_methodNamed Bd.named
  have hnm := (name_of_methodNamed Bd.named Bd.method).1
  have X0 : Stand p l e ({ frames := 2, cells := 1, slots := 1, locals := 35 } : Room) s m #[(.ref a1), (.ref ca), (.int (0 : Int32)), (.int (1 : Int32)), .null] below meth c s₁ [] 0 0 := Stand.of_body Bd
  have e0 : s₁.heap = h0 := by rw [← hh, Bd.state]; rfl
  have N0 := Fr.nil n0
  have pre0 : ∀ t, Steps p.tables e below (s₁.setTop (mkF m 0 #[.val (.ref a1), .val (.ref ca), .val (.int (0 : Int32)), .val (.int (1 : Int32)), .val .null, .unset] [])) t → Steps p.tables e below (s₁.setTop (entryFrame m #[(.ref a1), (.ref ca), (.int (0 : Int32)), (.int (1 : Int32)), .null] 6)) t := fun t kq => castTop (ef_rm_si4_1 m a1 ca) kq
  obtain ⟨S_c, hcst, S_f, hfm⟩ := id hT
  obtain ⟨T316, X316, e316, st316⟩ := initO X0 hx hZ hown (own_q hw 12 rfl) (own_q hw 13 rfl) (own_q hw 14 rfl) e0 (g := (mkF m 1 #[.val (.ref a1), .val (.ref ca), .val (.int (0 : Int32)), .val (.int (1 : Int32)), .val .null, .unset] [(.ref a1)])) rfl (by rw [hml]; rfl) rfl (hb hby d2_1) (by decide) (W := 0) (by show 2 * 0 + _ ≤ _; exact Nat.le_of_eq rfl) (by decide)
  obtain ⟨T317, X317, e317, st317⟩ := getS2 X316 hx hZ hown (host := "") (Or.inl (own_q hw 37 rfl)) Via.refl e316 S_c (g := (mkF m 27 #[.val (.ref a1), .val (.ref ca), .val (.int (0 : Int32)), .val (.int (1 : Int32)), .val .null, .unset] [])) rfl (hb hby d2_27)
  obtain ⟨_, _, ⟨T318, L318, k318, n318⟩, -, X318, ⟨Lc318, hQ318, l318, y318, z318⟩, st318⟩ := Jvm.LawKit.callS X317 hx (y := (⟨"java/lang/StringUTF16", "compress", "([CII)[B"⟩ : MethodName)) hown (mvT hZ (own_q hw 90 rfl)) (mvT hZ (own_q hw 91 rfl)) (mvT hZ (own_q hw 92 rfl)) (mvT hZ (own_q hw 93 rfl)) (by decide) (backOf (W := 0) (rm_cm1_1 l Z a0 hw [] ca h0 n0 Z0 kc c0_ A_c hc) hZ (own_q hw 93 rfl) (own_q hw 92 rfl) (by decide) (by decide)) (g := (mkF m 36 #[.val (.ref a1), .val (.ref ca), .val (.int (0 : Int32)), .val (.int (1 : Int32)), .val .null, .unset] [(.int (1 : Int32)), (.int (0 : Int32)), (.ref ca)])) rfl (by rw [hml]; rfl) (argsL := [(.ref ca), (.int (0 : Int32)), (.int (1 : Int32))]) (rest := []) (lenOf pd_610 rfl) rfl (by show 2 * 0 + _ ≤ _; exact Nat.le_of_eq rfl) (hb hby d2_36) (fun _ _ => ⟨rfl, e317, (by decide : 0 + 1 ≤ _), (by decide : 0 + 1 ≤ _)⟩)
  dsimp only [Pt.U, Pt.locs, Pt.cells, Pt.slots] at X318 l318 y318 z318 st318 hQ318
  subst l318 y318 z318
  obtain ⟨vb, kb, rfl, N318q, E318, g318, V318⟩ := hQ318
  have N318 := Fr.app N0 N318q
  have sz_vb : h0.size ≤ vb := Nat.le_trans (Nat.le_refl _) g318
  have gn_vb : n0 ≤ vb := Nat.le_trans Z0 sz_vb
  have ne_a : a1 ≠ vb := Nat.ne_of_lt (Nat.lt_of_lt_of_le E_a.lt sz_vb)
  have e318 : T318.heap = T318.heap := rfl
  have EX318 := own_ext_trans (own_ext_refl h0) E318
  have KP318 := Keep.ext (Keep.refl h0 [a1]) E318
  obtain ⟨_, _, ⟨T319, L319, k319, n319⟩, -, X319, ⟨Lc319, hQ319, l319, y319, z319⟩, st319⟩ := Jvm.LawKit.callS X318 hx (y := (⟨"java/lang/StringUTF16", "coderFromArrayLen", "([BI)B"⟩ : MethodName)) hown (mvT hZ (own_q hw 97 rfl)) (mvT hZ (own_q hw 98 rfl)) (mvT hZ (own_q hw 92 rfl)) (mvT hZ (own_q hw 99 rfl)) (by decide) (backOf (W := 1) (rm_cfl_1 l Z a0 hw [] vb T318.heap n0 (Nat.le_trans Z0 EX318.1) kb _ V318) hZ (own_q hw 99 rfl) (own_q hw 92 rfl) (by decide) (by decide)) (g := (mkF m 45 #[.val (.ref a1), .val (.ref ca), .val (.int (0 : Int32)), .val (.int (1 : Int32)), .val .null, .val (.ref vb)] [(.int (1 : Int32)), (.ref vb), (.ref a1)])) rfl (by rw [hml]; rfl) (argsL := [(.ref vb), (.int (1 : Int32))]) (rest := [(.ref a1)]) (lenOf pd_616 rfl) rfl (by show 2 * 0 + _ ≤ _; exact Nat.le_of_eq rfl) (hb hby d2_45) (fun _ _ => ⟨rfl, e318, (by decide : 1 + 0 ≤ _), (by decide : 1 + 0 ≤ _)⟩)
  dsimp only [Pt.U, Pt.locs, Pt.cells, Pt.slots] at X319 l319 y319 z319 st319 hQ319
  subst l319 y319 z319
  obtain ⟨rfl, N319q, e319⟩ := hQ319
  have N319 := Fr.app N318 N319q
  have Fx320 := (E_a.ext E318)
  have Fx321 := (F_c.ext E318)
  obtain ⟨T322, h322, X322, e322, W322, st322⟩ := putFN X319 hx hZ hown (own_q hw 22 rfl) Via.refl e319 Fx321 Fx320 (Or.inr ⟨(own_q hw 18 rfl), rfl, hnm⟩) (own_q hw 3 rfl) (ty := .byte) (v' := (.int (0 : Int32))) (by decide) rfl rfl (g := (mkF m 48 #[.val (.ref a1), .val (.ref ca), .val (.int (0 : Int32)), .val (.int (1 : Int32)), .val .null, .val (.ref vb)] [(.int (0 : Int32)), (.ref a1)])) rfl rfl (hb hby d2_48)
  have KP322 := Keep.wr KP318 W322 (Or.inl (List.mem_of_getElem? (i := 0) rfl))
  have Fw322 := Fx321.same W322
  have N322 := Fr.snoc X322 N319 gn_a
  have Fx323 := (Fx320.wr W322)
  have Fx324 := ((F_v.ext E318).other W322 (Or.inr (slot_ne (Or.inr (own_q hw 17 rfl)) (Or.inr (own_q hw 18 rfl)) (by decide) (t := (.array .byte)) (t' := .byte) (by decide) (by decide))))
  obtain ⟨T325, h325, X325, e325, W325, st325⟩ := putF X322 hx hZ hown (host := "") (Or.inl (own_q hw 21 rfl)) Via.refl e322 Fx324 Fx323 (Or.inr ⟨(own_q hw 17 rfl), rfl, hnm⟩) (own_q hw 3 rfl) (ty := (.array .byte)) (by decide) rfl rfl (g := (mkF m 54 #[.val (.ref a1), .val (.ref ca), .val (.int (0 : Int32)), .val (.int (1 : Int32)), .val .null, .val (.ref vb)] [(.ref vb), (.ref a1)])) rfl rfl (hb hby d2_54)
  have KP325 := Keep.wr KP322 W325 (Or.inl (List.mem_of_getElem? (i := 0) rfl))
  have Fw325 := Fx324.same W325
  have N325 := Fr.snoc X325 N322 gn_a
  have Fx326 := (Fx323.wr W325)
  have Fx327 := (Fw322.other W325 (Or.inr (slot_ne (Or.inr (own_q hw 18 rfl)) (Or.inr (own_q hw 17 rfl)) (by decide) (t := .byte) (t' := (.array .byte)) (by decide) (by decide))))
  have Fx328 := ((V318.other W322 (Ne.symm ne_a)).other W325 (Ne.symm ne_a))
  obtain ⟨fs, hr, hrun, hended, hW, hsame⟩ := X325.leave (v := none) (fun _ => rfl)
  refine ⟨_, _, pre0 _ ?_, hrun, hended, _, _, rfl, ?_, ⟨_, rfl⟩, hW, hsame.mono (by decide) (by decide)⟩
  · refine XS.aloadN X0.here hx rfl (hb hby d2_0) rfl rfl ?_
    refine st316 _ ?_
    show Steps p.tables e below (T316.setTop (mkF m 4 #[.val (.ref a1), .val (.ref ca), .val (.int (0 : Int32)), .val (.int (1 : Int32)), .val .null, .unset] [])) _
    refine XS.iloadN X316.here hx rfl (hb hby d2_4) rfl ?_
    refine XS.ifYes X316.here hx rfl (pc0 := 5) (pc' := 27) rfl (hb hby d2_5) rfl ((if0 _ _).trans (feq (by decide : ¬ ((1 : Int32) = (0 : Int32)))).2) (by decide) (by decide) ?_
    refine st317 _ ?_
    show Steps p.tables e below (T317.setTop (mkF m 30 #[.val (.ref a1), .val (.ref ca), .val (.int (0 : Int32)), .val (.int (1 : Int32)), .val .null, .unset] [(.int cst)])) _
    refine XS.ifNo X317.here hx rfl (hb hby d2_30) rfl ((if0 _ _).trans (feq (hcst : ¬ (cst = (0 : Int32)))).1) ?_
    refine XS.aloadN X317.here hx rfl (hb hby d2_33) rfl rfl ?_
    refine XS.iloadN X317.here hx rfl (hb hby d2_34) rfl ?_
    refine XS.iloadN X317.here hx rfl (hb hby d2_35) rfl ?_
    refine st318 _ ?_
    show Steps p.tables e below (T318.setTop (mkF m 39 #[.val (.ref a1), .val (.ref ca), .val (.int (0 : Int32)), .val (.int (1 : Int32)), .val .null, .unset] [(.ref vb)])) _
    refine XS.astore X318.here hx rfl (hb hby d2_39) rfl rfl (l' := #[.val (.ref a1), .val (.ref ca), .val (.int (0 : Int32)), .val (.int (1 : Int32)), .val .null, .val (.ref vb)]) rfl ?_
    refine XS.aloadN X318.here hx rfl (hb hby d2_41) rfl rfl ?_
    refine XS.aload X318.here hx rfl (hb hby d2_42) rfl rfl ?_
    refine XS.iloadN X318.here hx rfl (hb hby d2_44) rfl ?_
    refine st319 _ ?_
    show Steps p.tables e below (T319.setTop (mkF m 48 #[.val (.ref a1), .val (.ref ca), .val (.int (0 : Int32)), .val (.int (1 : Int32)), .val .null, .val (.ref vb)] [(.int (0 : Int32)), (.ref a1)])) _
    refine st322 _ ?_
    show Steps p.tables e below (T322.setTop (mkF m 51 #[.val (.ref a1), .val (.ref ca), .val (.int (0 : Int32)), .val (.int (1 : Int32)), .val .null, .val (.ref vb)] [])) _
    refine XS.aloadN X322.here hx rfl (hb hby d2_51) rfl rfl ?_
    refine XS.aload X322.here hx rfl (hb hby d2_52) rfl rfl ?_
    refine st325 _ ?_
    show Steps p.tables e below (T325.setTop (mkF m 57 #[.val (.ref a1), .val (.ref ca), .val (.int (0 : Int32)), .val (.int (1 : Int32)), .val .null, .val (.ref vb)] [])) _
    exact X325.returnOut hx Bd.returns (hb hby d2_57) hr
  · show own_SNew Z a1 (1 : Int32) [c0_] h0 n0 _ T325.heap _
    rw [e325]
    exact ⟨rfl, N325, KP325, vb, kb, Fx326, Fw325, Fx327, Fx328, own_chb (by simp only [List.mem_cons, List.not_mem_nil, or_false]; rintro x rfl <;> omega)⟩
theorem d1_0 : decode jdk_42_method_3_code 0 = .ok (.aload_n 0, 1) := by decide +kernel
theorem d1_1 : decode jdk_42_method_3_code 1 = .ok (.aload_n 1, 1) := by decide +kernel
theorem d1_2 : decode jdk_42_method_3_code 2 = .ok (.iconst 0, 1) := by decide +kernel
theorem d1_3 : decode jdk_42_method_3_code 3 = .ok (.aload_n 1, 1) := by decide +kernel
theorem d1_4 : decode jdk_42_method_3_code 4 = .ok (.arraylength, 1) := by decide +kernel
theorem d1_5 : decode jdk_42_method_3_code 5 = .ok (.aconst_null, 1) := by decide +kernel
theorem pd_629 : parseMethodDescriptor "([CIILjava/lang/Void;)V" = some ⟨[(.array .char), .int, .int, (.object "java/lang/Void")], none⟩ := by decide +kernel
theorem d1_6 : decode jdk_42_method_3_code 6 = .ok (.invokespecial 27, 3) := by decide +kernel
theorem d1_9 : decode jdk_42_method_3_code 9 = .ok (.return_, 1) := by decide +kernel
theorem ef_rm_si1_1 (m : MethodId) (x0 : Addr) (x1 : Addr) : entryFrame m #[(.ref x0), (.ref x1)] 2 = mkF m 0 #[.val (.ref x0), .val (.ref x1)] [] := by first | (simp [entryFrame, mkF, argsToLocals, Value.category]; done) | rfl
set_option maxRecDepth 65536 in
set_option maxHeartbeats 40000000 in
theorem rm_si1_1 (l : Launch) (Z : State) (a0 : Array Value) (hw : ∀ d ∈ tables_1, d.before a0 Z = true) (ws : List Jvm.Cond) (a1 : Addr) (ca : Addr) (h0 : Heap) (n0 : Nat) (Z0 : n0 ≤ h0.size) (E_a : Exa Z h0 a1 "java/lang/String") (F_v : Fld Z h0 a1 "java/lang/String" "value" "[B" .null) (F_c : Fld Z h0 a1 "java/lang/String" "coder" "B" (.int (0 : Int32))) (gn_a : n0 ≤ a1) (cst : Int32) (fmt : Value) (hT : own_T Z h0 cst fmt) (kc : ClassId) (c0_ : Int32) (A_c : Arv Z h0 ca kc .char (1 : Int32) [(.int c0_)] (.int (0 : Int32))) (hc : (0 ≤ c0_.toInt ∧ c0_.toInt ≤ 255)) :
    MetFree l (⟨"java/lang/String", "<init>", "([C)V"⟩ : MethodName) (head1 (Jvm.Cond.code (⟨"java/lang/String", "<init>", "([C)V"⟩ : MethodName) jdk_42_method_3_code 2 none :: ws) ({ frames := 3, cells := 1, slots := 1, locals := 52 } : Room)) (fun aQ UQ => aQ = #[(.ref a1), (.ref ca)] ∧ Z.Warmed39 UQ.vm ∧ UQ.heap = h0) (fun _ _ _ _ _ => True) (fun _ UQ oQ UR => ∃ vQ LQ, oQ = .returned vQ ∧ own_SNew Z a1 (1 : Int32) [c0_] h0 n0 vQ UR.heap LQ ∧ FrameEnd UQ oQ UR LQ ({ frames := 3, cells := 1, slots := 1, locals := 52 } : Room).cells ({ frames := 3, cells := 1, slots := 1, locals := 52 } : Room).slots) := by
  refine MetFree.of_bodySF (plainFor_of_name pn_6) hisR ?_
  intro p e s m args below meth c s₁ Bd hml0 hP hK
  obtain ⟨rfl, hZ, hh⟩ := hP
  have hx := Bd.exec
  have hby := Bd.bytes
  have hml : c.maxLocals = 2 := hml0
  have hown : s.vm.findClass "java/lang/String" = some m.cls := findClass_of_methodNamed Bd.named
  have hnm := (name_of_methodNamed Bd.named Bd.method).1
  have X0 : Stand p l e ({ frames := 3, cells := 1, slots := 1, locals := 52 } : Room) s m #[(.ref a1), (.ref ca)] below meth c s₁ [] 0 0 := Stand.of_body Bd
  have e0 : s₁.heap = h0 := by rw [← hh, Bd.state]; rfl
  have N0 := Fr.nil n0
  have pre0 : ∀ t, Steps p.tables e below (s₁.setTop (mkF m 0 #[.val (.ref a1), .val (.ref ca)] [])) t → Steps p.tables e below (s₁.setTop (entryFrame m #[(.ref a1), (.ref ca)] 2)) t := fun t kq => castTop (ef_rm_si1_1 m a1 ca) kq
  have Vc329 := A_c
  obtain ⟨cl329, Ar329, q329, S329, N329_, H329_, G329⟩ := Vc329
  obtain ⟨_, _, ⟨T330, L330, k330, n330⟩, -, X330, ⟨Lc330, hQ330, l330, y330, z330⟩, st330⟩ := X0.specialBack hx (y := (⟨"java/lang/String", "<init>", "([CIILjava/lang/Void;)V"⟩ : MethodName)) rfl hown (mvT hZ (own_q hw 8 rfl)) (mvT hZ (own_q hw 9 rfl)) (mvT hZ (own_q hw 11 rfl)) (by decide) (backOf (W := 0) (rm_si4_1 l Z a0 hw [] a1 ca h0 n0 Z0 E_a F_v F_c gn_a cst fmt hT kc c0_ A_c hc) hZ (own_q hw 11 rfl) (own_q hw 4 rfl) (by decide) (by decide)) (g := (mkF m 6 #[.val (.ref a1), .val (.ref ca)] [.null, (.int (1 : Int32)), (.int (0 : Int32)), (.ref ca), (.ref a1)])) rfl (by rw [hml]; rfl) (Steps.refl _) (a := a1) (argsL := [(.ref ca), (.int (0 : Int32)), (.int (1 : Int32)), .null]) (rest := []) (lenOf pd_629 rfl) rfl (by show 2 * 0 + _ ≤ _; exact Nat.le_of_eq rfl) (hb hby d1_6) (fun _ _ => ⟨rfl, e0, (by decide : 0 + 1 ≤ _), (by decide : 0 + 1 ≤ _)⟩)
  dsimp only [Pt.U, Pt.locs, Pt.cells, Pt.slots] at X330 l330 y330 z330 st330 hQ330
  subst l330 y330 z330
  obtain ⟨rfl, N330q, K330, hSN⟩ := hQ330
  have N330 := Fr.app N0 N330q
  have e330 : T330.heap = T330.heap := rfl
  have KP330 := Keep.trans (Keep.refl h0 [a1]) K330 (allS (Or.inl (List.mem_of_getElem? (i := 0) rfl)) all0)
  obtain ⟨fs, hr, hrun, hended, hW, hsame⟩ := X330.leave (v := none) (fun _ => rfl)
  refine ⟨_, _, pre0 _ ?_, hrun, hended, _, _, rfl, ?_, ⟨_, rfl⟩, hW, hsame.mono (by decide) (by decide)⟩
  · refine XS.aloadN X0.here hx rfl (hb hby d1_0) rfl rfl ?_
    refine XS.aloadN X0.here hx rfl (hb hby d1_1) rfl rfl ?_
    refine XS.iconst X0.here hx rfl (hb hby d1_2) ?_
    refine XS.aloadN X0.here hx rfl (hb hby d1_3) rfl rfl ?_
    refine X0.arraylength hx (by rw [e0]; exact Ar329.1) (State.isArrayOf_alike hZ.alike Ar329.2.1) (g := (mkF m 4 #[.val (.ref a1), .val (.ref ca)] [(.ref ca), (.int (0 : Int32)), (.ref ca), (.ref a1)])) rfl rfl (hb hby d1_4) _ ?_
    rw [len_of S329 N329_]
    show Steps p.tables e below (s₁.setTop (mkF m 5 #[.val (.ref a1), .val (.ref ca)] [(.int (1 : Int32)), (.int (0 : Int32)), (.ref ca), (.ref a1)])) _
    refine XS.aconstNull X0.here hx rfl (hb hby d1_5) ?_
    refine st330.trans ?_
    show Steps p.tables e below (T330.setTop (mkF m 9 #[.val (.ref a1), .val (.ref ca)] [])) _
    exact X330.returnOut hx Bd.returns (hb hby d1_9) hr
  · show own_SNew Z a1 (1 : Int32) [c0_] h0 n0 _ T330.heap _
    exact ⟨rfl, N330, KP330, hSN⟩
theorem ef_rm_cm1_2 (m : MethodId) (x0 : Addr) : entryFrame m #[(.ref x0), (.int (0 : Int32)), (.int (2 : Int32))] 6 = mkF m 0 #[.val (.ref x0), .val (.int (0 : Int32)), .val (.int (2 : Int32)), .unset, .unset, .unset] [] := by first | (simp [entryFrame, mkF, argsToLocals, Value.category]; done) | rfl
set_option maxRecDepth 65536 in
set_option maxHeartbeats 40000000 in
theorem rm_cm1_2 (l : Launch) (Z : State) (a0 : Array Value) (hw : ∀ d ∈ tables_1, d.before a0 Z = true) (ws : List Jvm.Cond) (ca : Addr) (h0 : Heap) (n0 : Nat) (Z0 : n0 ≤ h0.size) (kc : ClassId) (c0_ c1_ : Int32) (A_c : Arv Z h0 ca kc .char (2 : Int32) [(.int c0_), (.int c1_)] (.int (0 : Int32))) (hc : (0 ≤ c0_.toInt ∧ c0_.toInt ≤ 255) ∧ (0 ≤ c1_.toInt ∧ c1_.toInt ≤ 255)) :
    MetFree l (⟨"java/lang/StringUTF16", "compress", "([CII)[B"⟩ : MethodName) (head1 (Jvm.Cond.code (⟨"java/lang/StringUTF16", "compress", "([CII)[B"⟩ : MethodName) jdk_52_method_16_code 6 (some (.array .byte)) :: ws) ({ frames := 1, cells := 1, slots := 2, locals := 18 } : Room)) (fun aQ UQ => aQ = #[(.ref ca), (.int (0 : Int32)), (.int (2 : Int32))] ∧ Z.Warmed39 UQ.vm ∧ UQ.heap = h0) (fun _ _ _ _ _ => True) (fun _ UQ oQ UR => ∃ vQ LQ, oQ = .returned vQ ∧ own_Cmp1 Z (2 : Int32) [c0_, c1_] h0 n0 vQ UR.heap LQ ∧ FrameEnd UQ oQ UR LQ ({ frames := 1, cells := 1, slots := 2, locals := 18 } : Room).cells ({ frames := 1, cells := 1, slots := 2, locals := 18 } : Room).slots) := by
  refine MetFree.of_bodySF (plainFor_of_name pn_576) hisR ?_
  intro p e s m args below meth c s₁ Bd hml0 hP hK
  obtain ⟨rfl, hZ, hh⟩ := hP
  have hx := Bd.exec
  have hby := Bd.bytes
  have hml : c.maxLocals = 6 := hml0
  have hown : s.vm.findClass "java/lang/StringUTF16" = some m.cls := findClass_of_methodNamed Bd.named
  have hnm := (name_of_methodNamed Bd.named Bd.method).1
  have X0 : Stand p l e ({ frames := 1, cells := 1, slots := 2, locals := 18 } : Room) s m #[(.ref ca), (.int (0 : Int32)), (.int (2 : Int32))] below meth c s₁ [] 0 0 := Stand.of_body Bd
  have e0 : s₁.heap = h0 := by rw [← hh, Bd.state]; rfl
  have N0 := Fr.nil n0
  have pre0 : ∀ t, Steps p.tables e below (s₁.setTop (mkF m 0 #[.val (.ref ca), .val (.int (0 : Int32)), .val (.int (2 : Int32)), .unset, .unset, .unset] [])) t → Steps p.tables e below (s₁.setTop (entryFrame m #[(.ref ca), (.int (0 : Int32)), (.int (2 : Int32))] 6)) t := fun t kq => castTop (ef_rm_cm1_2 m ca) kq
  obtain ⟨T331, h331, k331, X331, e331, E331, A331, Ea331, st331⟩ := newPE X0 hx hZ (own_q hw 16 rfl) e0 (g := (mkF m 1 #[.val (.ref ca), .val (.int (0 : Int32)), .val (.int (2 : Int32)), .unset, .unset, .unset] [(.int (2 : Int32))])) rfl (hb hby d16_1) rfl (by decide) (cap := 2) (by decide) (by decide) (by decide) (by decide) (ad := "[B") (by decide)
  obtain ⟨b331, g331⟩ : ∃ z, z = h0.size := ⟨_, rfl⟩
  rw [← g331] at A331 Ea331 st331
  have sz_b331 : h0.size ≤ b331 := Nat.le_trans (Keep.refl h0 []).1 (Nat.le_of_eq g331.symm)
  have gn_b331 : n0 ≤ b331 := Nat.le_trans Z0 sz_b331
  have ne_ca_b331 : ca ≠ b331 := Nat.ne_of_lt (Nat.lt_of_lt_of_le A_c.lt (Nat.le_of_eq g331.symm))
  have EX331 := own_ext_trans (own_ext_refl h0) E331
  have KP331 := Keep.ext (Keep.refl h0 []) E331
  have V331 : own_FB Z h331 b331 k331 (2 : Int32) (fun _ => (0 : Int32)) := own_FB.new A331 (by decide)
  have Fx332 := (A_c.ext E331)
  obtain ⟨_, _, ⟨T333, L333, k333, n333⟩, -, X333, ⟨Lc333, hQ333, l333, y333, z333⟩, st333⟩ := Jvm.LawKit.callS X331 hx (y := (⟨"java/lang/StringUTF16", "compress", "([CI[BII)I"⟩ : MethodName)) hown (mvT hZ (own_q hw 94 rfl)) (mvT hZ (own_q hw 95 rfl)) (mvT hZ (own_q hw 92 rfl)) (mvT hZ (own_q hw 96 rfl)) (by decide) (backOf (W := 0) (rm_cm2_2 l Z a0 hw [] ca b331 h331 n0 (Nat.le_trans Z0 EX331.1) kc c0_ c1_ Fx332 hc k331 V331 ne_ca_b331 gn_b331) hZ (own_q hw 96 rfl) (own_q hw 92 rfl) (by decide) (by decide)) (g := (mkF m 9 #[.val (.ref ca), .val (.int (0 : Int32)), .val (.int (2 : Int32)), .val (.ref b331), .unset, .unset] [(.int (2 : Int32)), (.int (0 : Int32)), (.ref b331), (.int (0 : Int32)), (.ref ca)])) rfl (by rw [hml]; rfl) (argsL := [(.ref ca), (.int (0 : Int32)), (.ref b331), (.int (0 : Int32)), (.int (2 : Int32))]) (rest := []) (lenOf pd_585 rfl) rfl (by show 2 * 0 + _ ≤ _; exact Nat.le_of_eq rfl) (hb hby d16_9) (fun _ _ => ⟨rfl, e331, (by decide : 1 + 0 ≤ _), (by decide : 2 + 0 ≤ _)⟩)
  dsimp only [Pt.U, Pt.locs, Pt.cells, Pt.slots] at X333 l333 y333 z333 st333 hQ333
  subst l333 y333 z333
  obtain ⟨rfl, N333q, K333, V333⟩ := hQ333
  have N333 := Fr.app N0 N333q
  have e333 : T333.heap = T333.heap := rfl
  have EX333 := own_ext_keep EX331 K333 (allS sz_b331 all0)
  have KP333 := Keep.trans KP331 K333 (allS (Or.inr sz_b331) all0)
  obtain ⟨fs, hr, hrun, hended, hW, hsame⟩ := X333.leave (v := some (.ref b331)) (fun h => by rw [Bd.returns] at h; cases h)
  refine ⟨_, _, pre0 _ ?_, hrun, hended, _, _, rfl, ?_, ⟨_, rfl⟩, hW, hsame.mono (by decide) (by decide)⟩
  · refine XS.iloadN X0.here hx rfl (hb hby d16_0) rfl ?_
    refine st331 _ ?_
    show Steps p.tables e below (T331.setTop (mkF m 3 #[.val (.ref ca), .val (.int (0 : Int32)), .val (.int (2 : Int32)), .unset, .unset, .unset] [(.ref b331)])) _
    refine XS.astoreN X331.here hx rfl (hb hby d16_3) rfl rfl (l' := #[.val (.ref ca), .val (.int (0 : Int32)), .val (.int (2 : Int32)), .val (.ref b331), .unset, .unset]) rfl ?_
    refine XS.aloadN X331.here hx rfl (hb hby d16_4) rfl rfl ?_
    refine XS.iloadN X331.here hx rfl (hb hby d16_5) rfl ?_
    refine XS.aloadN X331.here hx rfl (hb hby d16_6) rfl rfl ?_
    refine XS.iconst X331.here hx rfl (hb hby d16_7) ?_
    refine XS.iloadN X331.here hx rfl (hb hby d16_8) rfl ?_
    refine st333 _ ?_
    show Steps p.tables e below (T333.setTop (mkF m 12 #[.val (.ref ca), .val (.int (0 : Int32)), .val (.int (2 : Int32)), .val (.ref b331), .unset, .unset] [(.int (2 : Int32))])) _
    refine XS.istore X333.here hx rfl (hb hby d16_12) rfl (l' := #[.val (.ref ca), .val (.int (0 : Int32)), .val (.int (2 : Int32)), .val (.ref b331), .val (.int (2 : Int32)), .unset]) rfl ?_
    refine XS.iload X333.here hx rfl (hb hby d16_14) rfl ?_
    refine XS.iloadN X333.here hx rfl (hb hby d16_16) rfl ?_
    refine XS.icmpYes X333.here hx rfl (pc0 := 17) (pc' := 57) rfl (hb hby d16_17) rfl (teq (by decide : (2 : Int32) = (2 : Int32))).1 (by decide) (by decide) ?_
    refine XS.aloadN X333.here hx rfl (hb hby d16_57) rfl rfl ?_
    exact retOut X333 hx Bd.returns rfl (Or.inr (Or.inr (Or.inr (Or.inr ⟨rfl, rfl, rfl⟩)))) (hb hby d16_58) hr
  · show own_Cmp1 Z (2 : Int32) [c0_, c1_] h0 n0 _ T333.heap _
    exact ⟨b331, _, rfl, N333, EX333, sz_b331, V333⟩
theorem ef_rm_cfl_2 (m : MethodId) (x0 : Addr) : entryFrame m #[(.ref x0), (.int (2 : Int32))] 2 = mkF m 0 #[.val (.ref x0), .val (.int (2 : Int32))] [] := by first | (simp [entryFrame, mkF, argsToLocals, Value.category]; done) | rfl
set_option maxRecDepth 65536 in
set_option maxHeartbeats 40000000 in
theorem rm_cfl_2 (l : Launch) (Z : State) (a0 : Array Value) (hw : ∀ d ∈ tables_1, d.before a0 Z = true) (ws : List Jvm.Cond) (bb : Addr) (h0 : Heap) (n0 : Nat) (Z0 : n0 ≤ h0.size) (kb : ClassId) (f : Nat → Int32) (B_b : own_FB Z h0 bb kb (2 : Int32) f) :
    MetFree l (⟨"java/lang/StringUTF16", "coderFromArrayLen", "([BI)B"⟩ : MethodName) (head1 (Jvm.Cond.code (⟨"java/lang/StringUTF16", "coderFromArrayLen", "([BI)B"⟩ : MethodName) jdk_52_method_15_code 2 (some .byte) :: ws) ({ frames := 0, cells := 0, slots := 0, locals := 0 } : Room)) (fun aQ UQ => aQ = #[(.ref bb), (.int (2 : Int32))] ∧ Z.Warmed39 UQ.vm ∧ UQ.heap = h0) (fun _ _ _ _ _ => True) (fun _ UQ oQ UR => ∃ vQ LQ, oQ = .returned vQ ∧ own_Pure (some (.int 0)) h0 n0 vQ UR.heap LQ ∧ FrameEnd UQ oQ UR LQ ({ frames := 0, cells := 0, slots := 0, locals := 0 } : Room).cells ({ frames := 0, cells := 0, slots := 0, locals := 0 } : Room).slots) := by
  refine MetFree.of_bodySF (plainFor_of_name pn_576) hisR ?_
  intro p e s m args below meth c s₁ Bd hml0 hP hK
  obtain ⟨rfl, hZ, hh⟩ := hP
  have hx := Bd.exec
  have hby := Bd.bytes
  have hml : c.maxLocals = 2 := hml0
  have hown : s.vm.findClass "java/lang/StringUTF16" = some m.cls := findClass_of_methodNamed Bd.named
  have hnm := (name_of_methodNamed Bd.named Bd.method).1
  have X0 : Stand p l e ({ frames := 0, cells := 0, slots := 0, locals := 0 } : Room) s m #[(.ref bb), (.int (2 : Int32))] below meth c s₁ [] 0 0 := Stand.of_body Bd
  have e0 : s₁.heap = h0 := by rw [← hh, Bd.state]; rfl
  have N0 := Fr.nil n0
  have pre0 : ∀ t, Steps p.tables e below (s₁.setTop (mkF m 0 #[.val (.ref bb), .val (.int (2 : Int32))] [])) t → Steps p.tables e below (s₁.setTop (entryFrame m #[(.ref bb), (.int (2 : Int32))] 2)) t := fun t kq => castTop (ef_rm_cfl_2 m bb) kq
  have Vc334 := B_b
  obtain ⟨cl334, Ar334, q334, S334, N334_, H334_, G334⟩ := Vc334
  obtain ⟨fs, hr, hrun, hended, hW, hsame⟩ := X0.leave (v := some (.int (0 : Int32))) (fun h => by rw [Bd.returns] at h; cases h)
  refine ⟨_, _, pre0 _ ?_, hrun, hended, _, _, rfl, ?_, ⟨_, rfl⟩, hW, hsame.mono (by decide) (by decide)⟩
  · refine XS.iloadN X0.here hx rfl (hb hby d18_0) rfl ?_
    refine XS.aloadN X0.here hx rfl (hb hby d18_1) rfl rfl ?_
    refine X0.arraylength hx (by rw [e0]; exact Ar334.1) (State.isArrayOf_alike hZ.alike Ar334.2.1) (g := (mkF m 2 #[.val (.ref bb), .val (.int (2 : Int32))] [(.ref bb), (.int (2 : Int32))])) rfl rfl (hb hby d18_2) _ ?_
    rw [len_of S334 N334_]
    show Steps p.tables e below (s₁.setTop (mkF m 3 #[.val (.ref bb), .val (.int (2 : Int32))] [(.int (2 : Int32)), (.int (2 : Int32))])) _
    refine XS.isub X0.here hx rfl (hb hby d18_3) rfl ?_
    refine XS.bipush X0.here hx rfl (hb hby d18_4) ?_
    refine XS.iushr X0.here hx rfl (hb hby d18_6) rfl ?_
    show Steps p.tables e below (s₁.setTop (mkF m 7 #[.val (.ref bb), .val (.int (2 : Int32))] [(.int (((0 : Int32).toUInt32 >>> ((31 : Int32) &&& 31).toUInt32).toInt32))])) _
    rw [(by decide : (((0 : Int32).toUInt32 >>> ((31 : Int32) &&& 31).toUInt32).toInt32) = (0 : Int32))]
    show Steps p.tables e below (s₁.setTop (mkF m 7 #[.val (.ref bb), .val (.int (2 : Int32))] [(.int (0 : Int32))])) _
    refine XS.i2b X0.here hx rfl (hb hby d18_7) rfl ?_
    exact retN X0 hx (t := .byte) Bd.returns (by simp) (hb hby d18_8) hr
  · show own_Pure (some (.int 0)) h0 n0 _ s₁.heap _
    rw [e0]
    exact ⟨rfl, N0, rfl⟩
theorem ef_rm_si4_2 (m : MethodId) (x0 : Addr) (x1 : Addr) : entryFrame m #[(.ref x0), (.ref x1), (.int (0 : Int32)), (.int (2 : Int32)), .null] 6 = mkF m 0 #[.val (.ref x0), .val (.ref x1), .val (.int (0 : Int32)), .val (.int (2 : Int32)), .val .null, .unset] [] := by first | (simp [entryFrame, mkF, argsToLocals, Value.category]; done) | rfl
set_option maxRecDepth 65536 in
set_option maxHeartbeats 40000000 in
theorem rm_si4_2 (l : Launch) (Z : State) (a0 : Array Value) (hw : ∀ d ∈ tables_1, d.before a0 Z = true) (ws : List Jvm.Cond) (a1 : Addr) (ca : Addr) (h0 : Heap) (n0 : Nat) (Z0 : n0 ≤ h0.size) (E_a : Exa Z h0 a1 "java/lang/String") (F_v : Fld Z h0 a1 "java/lang/String" "value" "[B" .null) (F_c : Fld Z h0 a1 "java/lang/String" "coder" "B" (.int (0 : Int32))) (gn_a : n0 ≤ a1) (cst : Int32) (fmt : Value) (hT : own_T Z h0 cst fmt) (kc : ClassId) (c0_ c1_ : Int32) (A_c : Arv Z h0 ca kc .char (2 : Int32) [(.int c0_), (.int c1_)] (.int (0 : Int32))) (hc : (0 ≤ c0_.toInt ∧ c0_.toInt ≤ 255) ∧ (0 ≤ c1_.toInt ∧ c1_.toInt ≤ 255)) :
    MetFree l (⟨"java/lang/String", "<init>", "([CIILjava/lang/Void;)V"⟩ : MethodName) (head1 (Jvm.Cond.code (⟨"java/lang/String", "<init>", "([CIILjava/lang/Void;)V"⟩ : MethodName) jdk_42_method_149_code 6 none :: ws) ({ frames := 2, cells := 1, slots := 2, locals := 35 } : Room)) (fun aQ UQ => aQ = #[(.ref a1), (.ref ca), (.int (0 : Int32)), (.int (2 : Int32)), .null] ∧ Z.Warmed39 UQ.vm ∧ UQ.heap = h0) (fun _ _ _ _ _ => True) (fun _ UQ oQ UR => ∃ vQ LQ, oQ = .returned vQ ∧ own_SNew Z a1 (2 : Int32) [c0_, c1_] h0 n0 vQ UR.heap LQ ∧ FrameEnd UQ oQ UR LQ ({ frames := 2, cells := 1, slots := 2, locals := 35 } : Room).cells ({ frames := 2, cells := 1, slots := 2, locals := 35 } : Room).slots) := by
  refine MetFree.of_bodySF (plainFor_of_name pn_6) hisR ?_
  intro p e s m args below meth c s₁ Bd hml0 hP hK
  obtain ⟨rfl, hZ, hh⟩ := hP
  have hx := Bd.exec
  have hby := Bd.bytes
  have hml : c.maxLocals = 6 := hml0
  have hown : s.vm.findClass "java/lang/String" = some m.cls := findClass_of_methodNamed Bd.named
  have hnm := (name_of_methodNamed Bd.named Bd.method).1
  have X0 : Stand p l e ({ frames := 2, cells := 1, slots := 2, locals := 35 } : Room) s m #[(.ref a1), (.ref ca), (.int (0 : Int32)), (.int (2 : Int32)), .null] below meth c s₁ [] 0 0 := Stand.of_body Bd
  have e0 : s₁.heap = h0 := by rw [← hh, Bd.state]; rfl
  have N0 := Fr.nil n0
  have pre0 : ∀ t, Steps p.tables e below (s₁.setTop (mkF m 0 #[.val (.ref a1), .val (.ref ca), .val (.int (0 : Int32)), .val (.int (2 : Int32)), .val .null, .unset] [])) t → Steps p.tables e below (s₁.setTop (entryFrame m #[(.ref a1), (.ref ca), (.int (0 : Int32)), (.int (2 : Int32)), .null] 6)) t := fun t kq => castTop (ef_rm_si4_2 m a1 ca) kq
  obtain ⟨S_c, hcst, S_f, hfm⟩ := id hT
  obtain ⟨T335, X335, e335, st335⟩ := initO X0 hx hZ hown (own_q hw 12 rfl) (own_q hw 13 rfl) (own_q hw 14 rfl) e0 (g := (mkF m 1 #[.val (.ref a1), .val (.ref ca), .val (.int (0 : Int32)), .val (.int (2 : Int32)), .val .null, .unset] [(.ref a1)])) rfl (by rw [hml]; rfl) rfl (hb hby d2_1) (by decide) (W := 0) (by show 2 * 0 + _ ≤ _; exact Nat.le_of_eq rfl) (by decide)
  obtain ⟨T336, X336, e336, st336⟩ := getS2 X335 hx hZ hown (host := "") (Or.inl (own_q hw 37 rfl)) Via.refl e335 S_c (g := (mkF m 27 #[.val (.ref a1), .val (.ref ca), .val (.int (0 : Int32)), .val (.int (2 : Int32)), .val .null, .unset] [])) rfl (hb hby d2_27)
  obtain ⟨_, _, ⟨T337, L337, k337, n337⟩, -, X337, ⟨Lc337, hQ337, l337, y337, z337⟩, st337⟩ := Jvm.LawKit.callS X336 hx (y := (⟨"java/lang/StringUTF16", "compress", "([CII)[B"⟩ : MethodName)) hown (mvT hZ (own_q hw 90 rfl)) (mvT hZ (own_q hw 91 rfl)) (mvT hZ (own_q hw 92 rfl)) (mvT hZ (own_q hw 93 rfl)) (by decide) (backOf (W := 0) (rm_cm1_2 l Z a0 hw [] ca h0 n0 Z0 kc c0_ c1_ A_c hc) hZ (own_q hw 93 rfl) (own_q hw 92 rfl) (by decide) (by decide)) (g := (mkF m 36 #[.val (.ref a1), .val (.ref ca), .val (.int (0 : Int32)), .val (.int (2 : Int32)), .val .null, .unset] [(.int (2 : Int32)), (.int (0 : Int32)), (.ref ca)])) rfl (by rw [hml]; rfl) (argsL := [(.ref ca), (.int (0 : Int32)), (.int (2 : Int32))]) (rest := []) (lenOf pd_610 rfl) rfl (by show 2 * 0 + _ ≤ _; exact Nat.le_of_eq rfl) (hb hby d2_36) (fun _ _ => ⟨rfl, e336, (by decide : 0 + 1 ≤ _), (by decide : 0 + 2 ≤ _)⟩)
  dsimp only [Pt.U, Pt.locs, Pt.cells, Pt.slots] at X337 l337 y337 z337 st337 hQ337
  subst l337 y337 z337
  obtain ⟨vb, kb, rfl, N337q, E337, g337, V337⟩ := hQ337
  have N337 := Fr.app N0 N337q
  have sz_vb : h0.size ≤ vb := Nat.le_trans (Nat.le_refl _) g337
  have gn_vb : n0 ≤ vb := Nat.le_trans Z0 sz_vb
  have ne_a : a1 ≠ vb := Nat.ne_of_lt (Nat.lt_of_lt_of_le E_a.lt sz_vb)
  have e337 : T337.heap = T337.heap := rfl
  have EX337 := own_ext_trans (own_ext_refl h0) E337
  have KP337 := Keep.ext (Keep.refl h0 [a1]) E337
  obtain ⟨_, _, ⟨T338, L338, k338, n338⟩, -, X338, ⟨Lc338, hQ338, l338, y338, z338⟩, st338⟩ := Jvm.LawKit.callS X337 hx (y := (⟨"java/lang/StringUTF16", "coderFromArrayLen", "([BI)B"⟩ : MethodName)) hown (mvT hZ (own_q hw 97 rfl)) (mvT hZ (own_q hw 98 rfl)) (mvT hZ (own_q hw 92 rfl)) (mvT hZ (own_q hw 99 rfl)) (by decide) (backOf (W := 1) (rm_cfl_2 l Z a0 hw [] vb T337.heap n0 (Nat.le_trans Z0 EX337.1) kb _ V337) hZ (own_q hw 99 rfl) (own_q hw 92 rfl) (by decide) (by decide)) (g := (mkF m 45 #[.val (.ref a1), .val (.ref ca), .val (.int (0 : Int32)), .val (.int (2 : Int32)), .val .null, .val (.ref vb)] [(.int (2 : Int32)), (.ref vb), (.ref a1)])) rfl (by rw [hml]; rfl) (argsL := [(.ref vb), (.int (2 : Int32))]) (rest := [(.ref a1)]) (lenOf pd_616 rfl) rfl (by show 2 * 0 + _ ≤ _; exact Nat.le_of_eq rfl) (hb hby d2_45) (fun _ _ => ⟨rfl, e337, (by decide : 1 + 0 ≤ _), (by decide : 2 + 0 ≤ _)⟩)
  dsimp only [Pt.U, Pt.locs, Pt.cells, Pt.slots] at X338 l338 y338 z338 st338 hQ338
  subst l338 y338 z338
  obtain ⟨rfl, N338q, e338⟩ := hQ338
  have N338 := Fr.app N337 N338q
  have Fx339 := (E_a.ext E337)
  have Fx340 := (F_c.ext E337)
  obtain ⟨T341, h341, X341, e341, W341, st341⟩ := putFN X338 hx hZ hown (own_q hw 22 rfl) Via.refl e338 Fx340 Fx339 (Or.inr ⟨(own_q hw 18 rfl), rfl, hnm⟩) (own_q hw 3 rfl) (ty := .byte) (v' := (.int (0 : Int32))) (by decide) rfl rfl (g := (mkF m 48 #[.val (.ref a1), .val (.ref ca), .val (.int (0 : Int32)), .val (.int (2 : Int32)), .val .null, .val (.ref vb)] [(.int (0 : Int32)), (.ref a1)])) rfl rfl (hb hby d2_48)
  have KP341 := Keep.wr KP337 W341 (Or.inl (List.mem_of_getElem? (i := 0) rfl))
  have Fw341 := Fx340.same W341
  have N341 := Fr.snoc X341 N338 gn_a
  have Fx342 := (Fx339.wr W341)
  have Fx343 := ((F_v.ext E337).other W341 (Or.inr (slot_ne (Or.inr (own_q hw 17 rfl)) (Or.inr (own_q hw 18 rfl)) (by decide) (t := (.array .byte)) (t' := .byte) (by decide) (by decide))))
  obtain ⟨T344, h344, X344, e344, W344, st344⟩ := putF X341 hx hZ hown (host := "") (Or.inl (own_q hw 21 rfl)) Via.refl e341 Fx343 Fx342 (Or.inr ⟨(own_q hw 17 rfl), rfl, hnm⟩) (own_q hw 3 rfl) (ty := (.array .byte)) (by decide) rfl rfl (g := (mkF m 54 #[.val (.ref a1), .val (.ref ca), .val (.int (0 : Int32)), .val (.int (2 : Int32)), .val .null, .val (.ref vb)] [(.ref vb), (.ref a1)])) rfl rfl (hb hby d2_54)
  have KP344 := Keep.wr KP341 W344 (Or.inl (List.mem_of_getElem? (i := 0) rfl))
  have Fw344 := Fx343.same W344
  have N344 := Fr.snoc X344 N341 gn_a
  have Fx345 := (Fx342.wr W344)
  have Fx346 := (Fw341.other W344 (Or.inr (slot_ne (Or.inr (own_q hw 18 rfl)) (Or.inr (own_q hw 17 rfl)) (by decide) (t := .byte) (t' := (.array .byte)) (by decide) (by decide))))
  have Fx347 := ((V337.other W341 (Ne.symm ne_a)).other W344 (Ne.symm ne_a))
  obtain ⟨fs, hr, hrun, hended, hW, hsame⟩ := X344.leave (v := none) (fun _ => rfl)
  refine ⟨_, _, pre0 _ ?_, hrun, hended, _, _, rfl, ?_, ⟨_, rfl⟩, hW, hsame.mono (by decide) (by decide)⟩
  · refine XS.aloadN X0.here hx rfl (hb hby d2_0) rfl rfl ?_
    refine st335 _ ?_
    show Steps p.tables e below (T335.setTop (mkF m 4 #[.val (.ref a1), .val (.ref ca), .val (.int (0 : Int32)), .val (.int (2 : Int32)), .val .null, .unset] [])) _
    refine XS.iloadN X335.here hx rfl (hb hby d2_4) rfl ?_
    refine XS.ifYes X335.here hx rfl (pc0 := 5) (pc' := 27) rfl (hb hby d2_5) rfl ((if0 _ _).trans (feq (by decide : ¬ ((2 : Int32) = (0 : Int32)))).2) (by decide) (by decide) ?_
    refine st336 _ ?_
    show Steps p.tables e below (T336.setTop (mkF m 30 #[.val (.ref a1), .val (.ref ca), .val (.int (0 : Int32)), .val (.int (2 : Int32)), .val .null, .unset] [(.int cst)])) _
    refine XS.ifNo X336.here hx rfl (hb hby d2_30) rfl ((if0 _ _).trans (feq (hcst : ¬ (cst = (0 : Int32)))).1) ?_
    refine XS.aloadN X336.here hx rfl (hb hby d2_33) rfl rfl ?_
    refine XS.iloadN X336.here hx rfl (hb hby d2_34) rfl ?_
    refine XS.iloadN X336.here hx rfl (hb hby d2_35) rfl ?_
    refine st337 _ ?_
    show Steps p.tables e below (T337.setTop (mkF m 39 #[.val (.ref a1), .val (.ref ca), .val (.int (0 : Int32)), .val (.int (2 : Int32)), .val .null, .unset] [(.ref vb)])) _
    refine XS.astore X337.here hx rfl (hb hby d2_39) rfl rfl (l' := #[.val (.ref a1), .val (.ref ca), .val (.int (0 : Int32)), .val (.int (2 : Int32)), .val .null, .val (.ref vb)]) rfl ?_
    refine XS.aloadN X337.here hx rfl (hb hby d2_41) rfl rfl ?_
    refine XS.aload X337.here hx rfl (hb hby d2_42) rfl rfl ?_
    refine XS.iloadN X337.here hx rfl (hb hby d2_44) rfl ?_
    refine st338 _ ?_
    show Steps p.tables e below (T338.setTop (mkF m 48 #[.val (.ref a1), .val (.ref ca), .val (.int (0 : Int32)), .val (.int (2 : Int32)), .val .null, .val (.ref vb)] [(.int (0 : Int32)), (.ref a1)])) _
    refine st341 _ ?_
    show Steps p.tables e below (T341.setTop (mkF m 51 #[.val (.ref a1), .val (.ref ca), .val (.int (0 : Int32)), .val (.int (2 : Int32)), .val .null, .val (.ref vb)] [])) _
    refine XS.aloadN X341.here hx rfl (hb hby d2_51) rfl rfl ?_
    refine XS.aload X341.here hx rfl (hb hby d2_52) rfl rfl ?_
    refine st344 _ ?_
    show Steps p.tables e below (T344.setTop (mkF m 57 #[.val (.ref a1), .val (.ref ca), .val (.int (0 : Int32)), .val (.int (2 : Int32)), .val .null, .val (.ref vb)] [])) _
    exact X344.returnOut hx Bd.returns (hb hby d2_57) hr
  · show own_SNew Z a1 (2 : Int32) [c0_, c1_] h0 n0 _ T344.heap _
    rw [e344]
    exact ⟨rfl, N344, KP344, vb, kb, Fx345, Fw344, Fx346, Fx347, own_chb (by simp only [List.mem_cons, List.not_mem_nil, or_false]; rintro x (rfl | rfl) <;> omega)⟩
theorem ef_rm_si1_2 (m : MethodId) (x0 : Addr) (x1 : Addr) : entryFrame m #[(.ref x0), (.ref x1)] 2 = mkF m 0 #[.val (.ref x0), .val (.ref x1)] [] := by first | (simp [entryFrame, mkF, argsToLocals, Value.category]; done) | rfl
set_option maxRecDepth 65536 in
set_option maxHeartbeats 40000000 in
theorem rm_si1_2 (l : Launch) (Z : State) (a0 : Array Value) (hw : ∀ d ∈ tables_1, d.before a0 Z = true) (ws : List Jvm.Cond) (a1 : Addr) (ca : Addr) (h0 : Heap) (n0 : Nat) (Z0 : n0 ≤ h0.size) (E_a : Exa Z h0 a1 "java/lang/String") (F_v : Fld Z h0 a1 "java/lang/String" "value" "[B" .null) (F_c : Fld Z h0 a1 "java/lang/String" "coder" "B" (.int (0 : Int32))) (gn_a : n0 ≤ a1) (cst : Int32) (fmt : Value) (hT : own_T Z h0 cst fmt) (kc : ClassId) (c0_ c1_ : Int32) (A_c : Arv Z h0 ca kc .char (2 : Int32) [(.int c0_), (.int c1_)] (.int (0 : Int32))) (hc : (0 ≤ c0_.toInt ∧ c0_.toInt ≤ 255) ∧ (0 ≤ c1_.toInt ∧ c1_.toInt ≤ 255)) :
    MetFree l (⟨"java/lang/String", "<init>", "([C)V"⟩ : MethodName) (head1 (Jvm.Cond.code (⟨"java/lang/String", "<init>", "([C)V"⟩ : MethodName) jdk_42_method_3_code 2 none :: ws) ({ frames := 3, cells := 1, slots := 2, locals := 52 } : Room)) (fun aQ UQ => aQ = #[(.ref a1), (.ref ca)] ∧ Z.Warmed39 UQ.vm ∧ UQ.heap = h0) (fun _ _ _ _ _ => True) (fun _ UQ oQ UR => ∃ vQ LQ, oQ = .returned vQ ∧ own_SNew Z a1 (2 : Int32) [c0_, c1_] h0 n0 vQ UR.heap LQ ∧ FrameEnd UQ oQ UR LQ ({ frames := 3, cells := 1, slots := 2, locals := 52 } : Room).cells ({ frames := 3, cells := 1, slots := 2, locals := 52 } : Room).slots) := by
  refine MetFree.of_bodySF (plainFor_of_name pn_6) hisR ?_
  intro p e s m args below meth c s₁ Bd hml0 hP hK
  obtain ⟨rfl, hZ, hh⟩ := hP
  have hx := Bd.exec
  have hby := Bd.bytes
  have hml : c.maxLocals = 2 := hml0
  have hown : s.vm.findClass "java/lang/String" = some m.cls := findClass_of_methodNamed Bd.named
  have hnm := (name_of_methodNamed Bd.named Bd.method).1
  have X0 : Stand p l e ({ frames := 3, cells := 1, slots := 2, locals := 52 } : Room) s m #[(.ref a1), (.ref ca)] below meth c s₁ [] 0 0 := Stand.of_body Bd
  have e0 : s₁.heap = h0 := by rw [← hh, Bd.state]; rfl
  have N0 := Fr.nil n0
  have pre0 : ∀ t, Steps p.tables e below (s₁.setTop (mkF m 0 #[.val (.ref a1), .val (.ref ca)] [])) t → Steps p.tables e below (s₁.setTop (entryFrame m #[(.ref a1), (.ref ca)] 2)) t := fun t kq => castTop (ef_rm_si1_2 m a1 ca) kq
  have Vc348 := A_c
  obtain ⟨cl348, Ar348, q348, S348, N348_, H348_, G348⟩ := Vc348
  obtain ⟨_, _, ⟨T349, L349, k349, n349⟩, -, X349, ⟨Lc349, hQ349, l349, y349, z349⟩, st349⟩ := X0.specialBack hx (y := (⟨"java/lang/String", "<init>", "([CIILjava/lang/Void;)V"⟩ : MethodName)) rfl hown (mvT hZ (own_q hw 8 rfl)) (mvT hZ (own_q hw 9 rfl)) (mvT hZ (own_q hw 11 rfl)) (by decide) (backOf (W := 0) (rm_si4_2 l Z a0 hw [] a1 ca h0 n0 Z0 E_a F_v F_c gn_a cst fmt hT kc c0_ c1_ A_c hc) hZ (own_q hw 11 rfl) (own_q hw 4 rfl) (by decide) (by decide)) (g := (mkF m 6 #[.val (.ref a1), .val (.ref ca)] [.null, (.int (2 : Int32)), (.int (0 : Int32)), (.ref ca), (.ref a1)])) rfl (by rw [hml]; rfl) (Steps.refl _) (a := a1) (argsL := [(.ref ca), (.int (0 : Int32)), (.int (2 : Int32)), .null]) (rest := []) (lenOf pd_629 rfl) rfl (by show 2 * 0 + _ ≤ _; exact Nat.le_of_eq rfl) (hb hby d1_6) (fun _ _ => ⟨rfl, e0, (by decide : 0 + 1 ≤ _), (by decide : 0 + 2 ≤ _)⟩)
  dsimp only [Pt.U, Pt.locs, Pt.cells, Pt.slots] at X349 l349 y349 z349 st349 hQ349
  subst l349 y349 z349
  obtain ⟨rfl, N349q, K349, hSN⟩ := hQ349
  have N349 := Fr.app N0 N349q
  have e349 : T349.heap = T349.heap := rfl
  have KP349 := Keep.trans (Keep.refl h0 [a1]) K349 (allS (Or.inl (List.mem_of_getElem? (i := 0) rfl)) all0)
  obtain ⟨fs, hr, hrun, hended, hW, hsame⟩ := X349.leave (v := none) (fun _ => rfl)
  refine ⟨_, _, pre0 _ ?_, hrun, hended, _, _, rfl, ?_, ⟨_, rfl⟩, hW, hsame.mono (by decide) (by decide)⟩
  · refine XS.aloadN X0.here hx rfl (hb hby d1_0) rfl rfl ?_
    refine XS.aloadN X0.here hx rfl (hb hby d1_1) rfl rfl ?_
    refine XS.iconst X0.here hx rfl (hb hby d1_2) ?_
    refine XS.aloadN X0.here hx rfl (hb hby d1_3) rfl rfl ?_
    refine X0.arraylength hx (by rw [e0]; exact Ar348.1) (State.isArrayOf_alike hZ.alike Ar348.2.1) (g := (mkF m 4 #[.val (.ref a1), .val (.ref ca)] [(.ref ca), (.int (0 : Int32)), (.ref ca), (.ref a1)])) rfl rfl (hb hby d1_4) _ ?_
    rw [len_of S348 N348_]
    show Steps p.tables e below (s₁.setTop (mkF m 5 #[.val (.ref a1), .val (.ref ca)] [(.int (2 : Int32)), (.int (0 : Int32)), (.ref ca), (.ref a1)])) _
    refine XS.aconstNull X0.here hx rfl (hb hby d1_5) ?_
    refine st349.trans ?_
    show Steps p.tables e below (T349.setTop (mkF m 9 #[.val (.ref a1), .val (.ref ca)] [])) _
    exact X349.returnOut hx Bd.returns (hb hby d1_9) hr
  · show own_SNew Z a1 (2 : Int32) [c0_, c1_] h0 n0 _ T349.heap _
    exact ⟨rfl, N349, KP349, hSN⟩
theorem ef_rm_cm1_3 (m : MethodId) (x0 : Addr) : entryFrame m #[(.ref x0), (.int (0 : Int32)), (.int (3 : Int32))] 6 = mkF m 0 #[.val (.ref x0), .val (.int (0 : Int32)), .val (.int (3 : Int32)), .unset, .unset, .unset] [] := by first | (simp [entryFrame, mkF, argsToLocals, Value.category]; done) | rfl
set_option maxRecDepth 65536 in
set_option maxHeartbeats 40000000 in
theorem rm_cm1_3 (l : Launch) (Z : State) (a0 : Array Value) (hw : ∀ d ∈ tables_1, d.before a0 Z = true) (ws : List Jvm.Cond) (ca : Addr) (h0 : Heap) (n0 : Nat) (Z0 : n0 ≤ h0.size) (kc : ClassId) (c0_ c1_ c2_ : Int32) (A_c : Arv Z h0 ca kc .char (3 : Int32) [(.int c0_), (.int c1_), (.int c2_)] (.int (0 : Int32))) (hc : (0 ≤ c0_.toInt ∧ c0_.toInt ≤ 255) ∧ (0 ≤ c1_.toInt ∧ c1_.toInt ≤ 255) ∧ (0 ≤ c2_.toInt ∧ c2_.toInt ≤ 255)) :
    MetFree l (⟨"java/lang/StringUTF16", "compress", "([CII)[B"⟩ : MethodName) (head1 (Jvm.Cond.code (⟨"java/lang/StringUTF16", "compress", "([CII)[B"⟩ : MethodName) jdk_52_method_16_code 6 (some (.array .byte)) :: ws) ({ frames := 1, cells := 1, slots := 3, locals := 18 } : Room)) (fun aQ UQ => aQ = #[(.ref ca), (.int (0 : Int32)), (.int (3 : Int32))] ∧ Z.Warmed39 UQ.vm ∧ UQ.heap = h0) (fun _ _ _ _ _ => True) (fun _ UQ oQ UR => ∃ vQ LQ, oQ = .returned vQ ∧ own_Cmp1 Z (3 : Int32) [c0_, c1_, c2_] h0 n0 vQ UR.heap LQ ∧ FrameEnd UQ oQ UR LQ ({ frames := 1, cells := 1, slots := 3, locals := 18 } : Room).cells ({ frames := 1, cells := 1, slots := 3, locals := 18 } : Room).slots) := by
  refine MetFree.of_bodySF (plainFor_of_name pn_576) hisR ?_
  intro p e s m args below meth c s₁ Bd hml0 hP hK
  obtain ⟨rfl, hZ, hh⟩ := hP
  have hx := Bd.exec
  have hby := Bd.bytes
  have hml : c.maxLocals = 6 := hml0
  have hown : s.vm.findClass "java/lang/StringUTF16" = some m.cls := findClass_of_methodNamed Bd.named
  have hnm := (name_of_methodNamed Bd.named Bd.method).1
  have X0 : Stand p l e ({ frames := 1, cells := 1, slots := 3, locals := 18 } : Room) s m #[(.ref ca), (.int (0 : Int32)), (.int (3 : Int32))] below meth c s₁ [] 0 0 := Stand.of_body Bd
  have e0 : s₁.heap = h0 := by rw [← hh, Bd.state]; rfl
  have N0 := Fr.nil n0
  have pre0 : ∀ t, Steps p.tables e below (s₁.setTop (mkF m 0 #[.val (.ref ca), .val (.int (0 : Int32)), .val (.int (3 : Int32)), .unset, .unset, .unset] [])) t → Steps p.tables e below (s₁.setTop (entryFrame m #[(.ref ca), (.int (0 : Int32)), (.int (3 : Int32))] 6)) t := fun t kq => castTop (ef_rm_cm1_3 m ca) kq
  obtain ⟨T350, h350, k350, X350, e350, E350, A350, Ea350, st350⟩ := newPE X0 hx hZ (own_q hw 16 rfl) e0 (g := (mkF m 1 #[.val (.ref ca), .val (.int (0 : Int32)), .val (.int (3 : Int32)), .unset, .unset, .unset] [(.int (3 : Int32))])) rfl (hb hby d16_1) rfl (by decide) (cap := 3) (by decide) (by decide) (by decide) (by decide) (ad := "[B") (by decide)
  obtain ⟨b350, g350⟩ : ∃ z, z = h0.size := ⟨_, rfl⟩
  rw [← g350] at A350 Ea350 st350
  have sz_b350 : h0.size ≤ b350 := Nat.le_trans (Keep.refl h0 []).1 (Nat.le_of_eq g350.symm)
  have gn_b350 : n0 ≤ b350 := Nat.le_trans Z0 sz_b350
  have ne_ca_b350 : ca ≠ b350 := Nat.ne_of_lt (Nat.lt_of_lt_of_le A_c.lt (Nat.le_of_eq g350.symm))
  have EX350 := own_ext_trans (own_ext_refl h0) E350
  have KP350 := Keep.ext (Keep.refl h0 []) E350
  have V350 : own_FB Z h350 b350 k350 (3 : Int32) (fun _ => (0 : Int32)) := own_FB.new A350 (by decide)
  have Fx351 := (A_c.ext E350)
  obtain ⟨_, _, ⟨T352, L352, k352, n352⟩, -, X352, ⟨Lc352, hQ352, l352, y352, z352⟩, st352⟩ := Jvm.LawKit.callS X350 hx (y := (⟨"java/lang/StringUTF16", "compress", "([CI[BII)I"⟩ : MethodName)) hown (mvT hZ (own_q hw 94 rfl)) (mvT hZ (own_q hw 95 rfl)) (mvT hZ (own_q hw 92 rfl)) (mvT hZ (own_q hw 96 rfl)) (by decide) (backOf (W := 0) (rm_cm2_3 l Z a0 hw [] ca b350 h350 n0 (Nat.le_trans Z0 EX350.1) kc c0_ c1_ c2_ Fx351 hc k350 V350 ne_ca_b350 gn_b350) hZ (own_q hw 96 rfl) (own_q hw 92 rfl) (by decide) (by decide)) (g := (mkF m 9 #[.val (.ref ca), .val (.int (0 : Int32)), .val (.int (3 : Int32)), .val (.ref b350), .unset, .unset] [(.int (3 : Int32)), (.int (0 : Int32)), (.ref b350), (.int (0 : Int32)), (.ref ca)])) rfl (by rw [hml]; rfl) (argsL := [(.ref ca), (.int (0 : Int32)), (.ref b350), (.int (0 : Int32)), (.int (3 : Int32))]) (rest := []) (lenOf pd_585 rfl) rfl (by show 2 * 0 + _ ≤ _; exact Nat.le_of_eq rfl) (hb hby d16_9) (fun _ _ => ⟨rfl, e350, (by decide : 1 + 0 ≤ _), (by decide : 3 + 0 ≤ _)⟩)
  dsimp only [Pt.U, Pt.locs, Pt.cells, Pt.slots] at X352 l352 y352 z352 st352 hQ352
  subst l352 y352 z352
  obtain ⟨rfl, N352q, K352, V352⟩ := hQ352
  have N352 := Fr.app N0 N352q
  have e352 : T352.heap = T352.heap := rfl
  have EX352 := own_ext_keep EX350 K352 (allS sz_b350 all0)
  have KP352 := Keep.trans KP350 K352 (allS (Or.inr sz_b350) all0)
  obtain ⟨fs, hr, hrun, hended, hW, hsame⟩ := X352.leave (v := some (.ref b350)) (fun h => by rw [Bd.returns] at h; cases h)
  refine ⟨_, _, pre0 _ ?_, hrun, hended, _, _, rfl, ?_, ⟨_, rfl⟩, hW, hsame.mono (by decide) (by decide)⟩
  · refine XS.iloadN X0.here hx rfl (hb hby d16_0) rfl ?_
    refine st350 _ ?_
    show Steps p.tables e below (T350.setTop (mkF m 3 #[.val (.ref ca), .val (.int (0 : Int32)), .val (.int (3 : Int32)), .unset, .unset, .unset] [(.ref b350)])) _
    refine XS.astoreN X350.here hx rfl (hb hby d16_3) rfl rfl (l' := #[.val (.ref ca), .val (.int (0 : Int32)), .val (.int (3 : Int32)), .val (.ref b350), .unset, .unset]) rfl ?_
    refine XS.aloadN X350.here hx rfl (hb hby d16_4) rfl rfl ?_
    refine XS.iloadN X350.here hx rfl (hb hby d16_5) rfl ?_
    refine XS.aloadN X350.here hx rfl (hb hby d16_6) rfl rfl ?_
    refine XS.iconst X350.here hx rfl (hb hby d16_7) ?_
    refine XS.iloadN X350.here hx rfl (hb hby d16_8) rfl ?_
    refine st352 _ ?_
    show Steps p.tables e below (T352.setTop (mkF m 12 #[.val (.ref ca), .val (.int (0 : Int32)), .val (.int (3 : Int32)), .val (.ref b350), .unset, .unset] [(.int (3 : Int32))])) _
    refine XS.istore X352.here hx rfl (hb hby d16_12) rfl (l' := #[.val (.ref ca), .val (.int (0 : Int32)), .val (.int (3 : Int32)), .val (.ref b350), .val (.int (3 : Int32)), .unset]) rfl ?_
    refine XS.iload X352.here hx rfl (hb hby d16_14) rfl ?_
    refine XS.iloadN X352.here hx rfl (hb hby d16_16) rfl ?_
    refine XS.icmpYes X352.here hx rfl (pc0 := 17) (pc' := 57) rfl (hb hby d16_17) rfl (teq (by decide : (3 : Int32) = (3 : Int32))).1 (by decide) (by decide) ?_
    refine XS.aloadN X352.here hx rfl (hb hby d16_57) rfl rfl ?_
    exact retOut X352 hx Bd.returns rfl (Or.inr (Or.inr (Or.inr (Or.inr ⟨rfl, rfl, rfl⟩)))) (hb hby d16_58) hr
  · show own_Cmp1 Z (3 : Int32) [c0_, c1_, c2_] h0 n0 _ T352.heap _
    exact ⟨b350, _, rfl, N352, EX352, sz_b350, V352⟩
theorem ef_rm_cfl_3 (m : MethodId) (x0 : Addr) : entryFrame m #[(.ref x0), (.int (3 : Int32))] 2 = mkF m 0 #[.val (.ref x0), .val (.int (3 : Int32))] [] := by first | (simp [entryFrame, mkF, argsToLocals, Value.category]; done) | rfl
set_option maxRecDepth 65536 in
set_option maxHeartbeats 40000000 in
theorem rm_cfl_3 (l : Launch) (Z : State) (a0 : Array Value) (hw : ∀ d ∈ tables_1, d.before a0 Z = true) (ws : List Jvm.Cond) (bb : Addr) (h0 : Heap) (n0 : Nat) (Z0 : n0 ≤ h0.size) (kb : ClassId) (f : Nat → Int32) (B_b : own_FB Z h0 bb kb (3 : Int32) f) :
    MetFree l (⟨"java/lang/StringUTF16", "coderFromArrayLen", "([BI)B"⟩ : MethodName) (head1 (Jvm.Cond.code (⟨"java/lang/StringUTF16", "coderFromArrayLen", "([BI)B"⟩ : MethodName) jdk_52_method_15_code 2 (some .byte) :: ws) ({ frames := 0, cells := 0, slots := 0, locals := 0 } : Room)) (fun aQ UQ => aQ = #[(.ref bb), (.int (3 : Int32))] ∧ Z.Warmed39 UQ.vm ∧ UQ.heap = h0) (fun _ _ _ _ _ => True) (fun _ UQ oQ UR => ∃ vQ LQ, oQ = .returned vQ ∧ own_Pure (some (.int 0)) h0 n0 vQ UR.heap LQ ∧ FrameEnd UQ oQ UR LQ ({ frames := 0, cells := 0, slots := 0, locals := 0 } : Room).cells ({ frames := 0, cells := 0, slots := 0, locals := 0 } : Room).slots) := by
  refine MetFree.of_bodySF (plainFor_of_name pn_576) hisR ?_
  intro p e s m args below meth c s₁ Bd hml0 hP hK
  obtain ⟨rfl, hZ, hh⟩ := hP
  have hx := Bd.exec
  have hby := Bd.bytes
  have hml : c.maxLocals = 2 := hml0
  have hown : s.vm.findClass "java/lang/StringUTF16" = some m.cls := findClass_of_methodNamed Bd.named
  have hnm := (name_of_methodNamed Bd.named Bd.method).1
  have X0 : Stand p l e ({ frames := 0, cells := 0, slots := 0, locals := 0 } : Room) s m #[(.ref bb), (.int (3 : Int32))] below meth c s₁ [] 0 0 := Stand.of_body Bd
  have e0 : s₁.heap = h0 := by rw [← hh, Bd.state]; rfl
  have N0 := Fr.nil n0
  have pre0 : ∀ t, Steps p.tables e below (s₁.setTop (mkF m 0 #[.val (.ref bb), .val (.int (3 : Int32))] [])) t → Steps p.tables e below (s₁.setTop (entryFrame m #[(.ref bb), (.int (3 : Int32))] 2)) t := fun t kq => castTop (ef_rm_cfl_3 m bb) kq
  have Vc353 := B_b
  obtain ⟨cl353, Ar353, q353, S353, N353_, H353_, G353⟩ := Vc353
  obtain ⟨fs, hr, hrun, hended, hW, hsame⟩ := X0.leave (v := some (.int (0 : Int32))) (fun h => by rw [Bd.returns] at h; cases h)
  refine ⟨_, _, pre0 _ ?_, hrun, hended, _, _, rfl, ?_, ⟨_, rfl⟩, hW, hsame.mono (by decide) (by decide)⟩
  · refine XS.iloadN X0.here hx rfl (hb hby d18_0) rfl ?_
    refine XS.aloadN X0.here hx rfl (hb hby d18_1) rfl rfl ?_
    refine X0.arraylength hx (by rw [e0]; exact Ar353.1) (State.isArrayOf_alike hZ.alike Ar353.2.1) (g := (mkF m 2 #[.val (.ref bb), .val (.int (3 : Int32))] [(.ref bb), (.int (3 : Int32))])) rfl rfl (hb hby d18_2) _ ?_
    rw [len_of S353 N353_]
    show Steps p.tables e below (s₁.setTop (mkF m 3 #[.val (.ref bb), .val (.int (3 : Int32))] [(.int (3 : Int32)), (.int (3 : Int32))])) _
    refine XS.isub X0.here hx rfl (hb hby d18_3) rfl ?_
    refine XS.bipush X0.here hx rfl (hb hby d18_4) ?_
    refine XS.iushr X0.here hx rfl (hb hby d18_6) rfl ?_
    show Steps p.tables e below (s₁.setTop (mkF m 7 #[.val (.ref bb), .val (.int (3 : Int32))] [(.int (((0 : Int32).toUInt32 >>> ((31 : Int32) &&& 31).toUInt32).toInt32))])) _
    rw [(by decide : (((0 : Int32).toUInt32 >>> ((31 : Int32) &&& 31).toUInt32).toInt32) = (0 : Int32))]
    show Steps p.tables e below (s₁.setTop (mkF m 7 #[.val (.ref bb), .val (.int (3 : Int32))] [(.int (0 : Int32))])) _
    refine XS.i2b X0.here hx rfl (hb hby d18_7) rfl ?_
    exact retN X0 hx (t := .byte) Bd.returns (by simp) (hb hby d18_8) hr
  · show own_Pure (some (.int 0)) h0 n0 _ s₁.heap _
    rw [e0]
    exact ⟨rfl, N0, rfl⟩
theorem ef_rm_si4_3 (m : MethodId) (x0 : Addr) (x1 : Addr) : entryFrame m #[(.ref x0), (.ref x1), (.int (0 : Int32)), (.int (3 : Int32)), .null] 6 = mkF m 0 #[.val (.ref x0), .val (.ref x1), .val (.int (0 : Int32)), .val (.int (3 : Int32)), .val .null, .unset] [] := by first | (simp [entryFrame, mkF, argsToLocals, Value.category]; done) | rfl
set_option maxRecDepth 65536 in
set_option maxHeartbeats 40000000 in
theorem rm_si4_3 (l : Launch) (Z : State) (a0 : Array Value) (hw : ∀ d ∈ tables_1, d.before a0 Z = true) (ws : List Jvm.Cond) (a1 : Addr) (ca : Addr) (h0 : Heap) (n0 : Nat) (Z0 : n0 ≤ h0.size) (E_a : Exa Z h0 a1 "java/lang/String") (F_v : Fld Z h0 a1 "java/lang/String" "value" "[B" .null) (F_c : Fld Z h0 a1 "java/lang/String" "coder" "B" (.int (0 : Int32))) (gn_a : n0 ≤ a1) (cst : Int32) (fmt : Value) (hT : own_T Z h0 cst fmt) (kc : ClassId) (c0_ c1_ c2_ : Int32) (A_c : Arv Z h0 ca kc .char (3 : Int32) [(.int c0_), (.int c1_), (.int c2_)] (.int (0 : Int32))) (hc : (0 ≤ c0_.toInt ∧ c0_.toInt ≤ 255) ∧ (0 ≤ c1_.toInt ∧ c1_.toInt ≤ 255) ∧ (0 ≤ c2_.toInt ∧ c2_.toInt ≤ 255)) :
    MetFree l (⟨"java/lang/String", "<init>", "([CIILjava/lang/Void;)V"⟩ : MethodName) (head1 (Jvm.Cond.code (⟨"java/lang/String", "<init>", "([CIILjava/lang/Void;)V"⟩ : MethodName) jdk_42_method_149_code 6 none :: ws) ({ frames := 2, cells := 1, slots := 3, locals := 35 } : Room)) (fun aQ UQ => aQ = #[(.ref a1), (.ref ca), (.int (0 : Int32)), (.int (3 : Int32)), .null] ∧ Z.Warmed39 UQ.vm ∧ UQ.heap = h0) (fun _ _ _ _ _ => True) (fun _ UQ oQ UR => ∃ vQ LQ, oQ = .returned vQ ∧ own_SNew Z a1 (3 : Int32) [c0_, c1_, c2_] h0 n0 vQ UR.heap LQ ∧ FrameEnd UQ oQ UR LQ ({ frames := 2, cells := 1, slots := 3, locals := 35 } : Room).cells ({ frames := 2, cells := 1, slots := 3, locals := 35 } : Room).slots) := by
  refine MetFree.of_bodySF (plainFor_of_name pn_6) hisR ?_
  intro p e s m args below meth c s₁ Bd hml0 hP hK
  obtain ⟨rfl, hZ, hh⟩ := hP
  have hx := Bd.exec
  have hby := Bd.bytes
  have hml : c.maxLocals = 6 := hml0
  have hown : s.vm.findClass "java/lang/String" = some m.cls := findClass_of_methodNamed Bd.named
  have hnm := (name_of_methodNamed Bd.named Bd.method).1
  have X0 : Stand p l e ({ frames := 2, cells := 1, slots := 3, locals := 35 } : Room) s m #[(.ref a1), (.ref ca), (.int (0 : Int32)), (.int (3 : Int32)), .null] below meth c s₁ [] 0 0 := Stand.of_body Bd
  have e0 : s₁.heap = h0 := by rw [← hh, Bd.state]; rfl
  have N0 := Fr.nil n0
  have pre0 : ∀ t, Steps p.tables e below (s₁.setTop (mkF m 0 #[.val (.ref a1), .val (.ref ca), .val (.int (0 : Int32)), .val (.int (3 : Int32)), .val .null, .unset] [])) t → Steps p.tables e below (s₁.setTop (entryFrame m #[(.ref a1), (.ref ca), (.int (0 : Int32)), (.int (3 : Int32)), .null] 6)) t := fun t kq => castTop (ef_rm_si4_3 m a1 ca) kq
  obtain ⟨S_c, hcst, S_f, hfm⟩ := id hT
  obtain ⟨T354, X354, e354, st354⟩ := initO X0 hx hZ hown (own_q hw 12 rfl) (own_q hw 13 rfl) (own_q hw 14 rfl) e0 (g := (mkF m 1 #[.val (.ref a1), .val (.ref ca), .val (.int (0 : Int32)), .val (.int (3 : Int32)), .val .null, .unset] [(.ref a1)])) rfl (by rw [hml]; rfl) rfl (hb hby d2_1) (by decide) (W := 0) (by show 2 * 0 + _ ≤ _; exact Nat.le_of_eq rfl) (by decide)
  obtain ⟨T355, X355, e355, st355⟩ := getS2 X354 hx hZ hown (host := "") (Or.inl (own_q hw 37 rfl)) Via.refl e354 S_c (g := (mkF m 27 #[.val (.ref a1), .val (.ref ca), .val (.int (0 : Int32)), .val (.int (3 : Int32)), .val .null, .unset] [])) rfl (hb hby d2_27)
  obtain ⟨_, _, ⟨T356, L356, k356, n356⟩, -, X356, ⟨Lc356, hQ356, l356, y356, z356⟩, st356⟩ := Jvm.LawKit.callS X355 hx (y := (⟨"java/lang/StringUTF16", "compress", "([CII)[B"⟩ : MethodName)) hown (mvT hZ (own_q hw 90 rfl)) (mvT hZ (own_q hw 91 rfl)) (mvT hZ (own_q hw 92 rfl)) (mvT hZ (own_q hw 93 rfl)) (by decide) (backOf (W := 0) (rm_cm1_3 l Z a0 hw [] ca h0 n0 Z0 kc c0_ c1_ c2_ A_c hc) hZ (own_q hw 93 rfl) (own_q hw 92 rfl) (by decide) (by decide)) (g := (mkF m 36 #[.val (.ref a1), .val (.ref ca), .val (.int (0 : Int32)), .val (.int (3 : Int32)), .val .null, .unset] [(.int (3 : Int32)), (.int (0 : Int32)), (.ref ca)])) rfl (by rw [hml]; rfl) (argsL := [(.ref ca), (.int (0 : Int32)), (.int (3 : Int32))]) (rest := []) (lenOf pd_610 rfl) rfl (by show 2 * 0 + _ ≤ _; exact Nat.le_of_eq rfl) (hb hby d2_36) (fun _ _ => ⟨rfl, e355, (by decide : 0 + 1 ≤ _), (by decide : 0 + 3 ≤ _)⟩)
  dsimp only [Pt.U, Pt.locs, Pt.cells, Pt.slots] at X356 l356 y356 z356 st356 hQ356
  subst l356 y356 z356
  obtain ⟨vb, kb, rfl, N356q, E356, g356, V356⟩ := hQ356
  have N356 := Fr.app N0 N356q
  have sz_vb : h0.size ≤ vb := Nat.le_trans (Nat.le_refl _) g356
  have gn_vb : n0 ≤ vb := Nat.le_trans Z0 sz_vb
  have ne_a : a1 ≠ vb := Nat.ne_of_lt (Nat.lt_of_lt_of_le E_a.lt sz_vb)
  have e356 : T356.heap = T356.heap := rfl
  have EX356 := own_ext_trans (own_ext_refl h0) E356
  have KP356 := Keep.ext (Keep.refl h0 [a1]) E356
  obtain ⟨_, _, ⟨T357, L357, k357, n357⟩, -, X357, ⟨Lc357, hQ357, l357, y357, z357⟩, st357⟩ := Jvm.LawKit.callS X356 hx (y := (⟨"java/lang/StringUTF16", "coderFromArrayLen", "([BI)B"⟩ : MethodName)) hown (mvT hZ (own_q hw 97 rfl)) (mvT hZ (own_q hw 98 rfl)) (mvT hZ (own_q hw 92 rfl)) (mvT hZ (own_q hw 99 rfl)) (by decide) (backOf (W := 1) (rm_cfl_3 l Z a0 hw [] vb T356.heap n0 (Nat.le_trans Z0 EX356.1) kb _ V356) hZ (own_q hw 99 rfl) (own_q hw 92 rfl) (by decide) (by decide)) (g := (mkF m 45 #[.val (.ref a1), .val (.ref ca), .val (.int (0 : Int32)), .val (.int (3 : Int32)), .val .null, .val (.ref vb)] [(.int (3 : Int32)), (.ref vb), (.ref a1)])) rfl (by rw [hml]; rfl) (argsL := [(.ref vb), (.int (3 : Int32))]) (rest := [(.ref a1)]) (lenOf pd_616 rfl) rfl (by show 2 * 0 + _ ≤ _; exact Nat.le_of_eq rfl) (hb hby d2_45) (fun _ _ => ⟨rfl, e356, (by decide : 1 + 0 ≤ _), (by decide : 3 + 0 ≤ _)⟩)
  dsimp only [Pt.U, Pt.locs, Pt.cells, Pt.slots] at X357 l357 y357 z357 st357 hQ357
  subst l357 y357 z357
  obtain ⟨rfl, N357q, e357⟩ := hQ357
  have N357 := Fr.app N356 N357q
  have Fx358 := (E_a.ext E356)
  have Fx359 := (F_c.ext E356)
  obtain ⟨T360, h360, X360, e360, W360, st360⟩ := putFN X357 hx hZ hown (own_q hw 22 rfl) Via.refl e357 Fx359 Fx358 (Or.inr ⟨(own_q hw 18 rfl), rfl, hnm⟩) (own_q hw 3 rfl) (ty := .byte) (v' := (.int (0 : Int32))) (by decide) rfl rfl (g := (mkF m 48 #[.val (.ref a1), .val (.ref ca), .val (.int (0 : Int32)), .val (.int (3 : Int32)), .val .null, .val (.ref vb)] [(.int (0 : Int32)), (.ref a1)])) rfl rfl (hb hby d2_48)
  have KP360 := Keep.wr KP356 W360 (Or.inl (List.mem_of_getElem? (i := 0) rfl))
  have Fw360 := Fx359.same W360
  have N360 := Fr.snoc X360 N357 gn_a
  have Fx361 := (Fx358.wr W360)
  have Fx362 := ((F_v.ext E356).other W360 (Or.inr (slot_ne (Or.inr (own_q hw 17 rfl)) (Or.inr (own_q hw 18 rfl)) (by decide) (t := (.array .byte)) (t' := .byte) (by decide) (by decide))))
  obtain ⟨T363, h363, X363, e363, W363, st363⟩ := putF X360 hx hZ hown (host := "") (Or.inl (own_q hw 21 rfl)) Via.refl e360 Fx362 Fx361 (Or.inr ⟨(own_q hw 17 rfl), rfl, hnm⟩) (own_q hw 3 rfl) (ty := (.array .byte)) (by decide) rfl rfl (g := (mkF m 54 #[.val (.ref a1), .val (.ref ca), .val (.int (0 : Int32)), .val (.int (3 : Int32)), .val .null, .val (.ref vb)] [(.ref vb), (.ref a1)])) rfl rfl (hb hby d2_54)
  have KP363 := Keep.wr KP360 W363 (Or.inl (List.mem_of_getElem? (i := 0) rfl))
  have Fw363 := Fx362.same W363
  have N363 := Fr.snoc X363 N360 gn_a
  have Fx364 := (Fx361.wr W363)
  have Fx365 := (Fw360.other W363 (Or.inr (slot_ne (Or.inr (own_q hw 18 rfl)) (Or.inr (own_q hw 17 rfl)) (by decide) (t := .byte) (t' := (.array .byte)) (by decide) (by decide))))
  have Fx366 := ((V356.other W360 (Ne.symm ne_a)).other W363 (Ne.symm ne_a))
  obtain ⟨fs, hr, hrun, hended, hW, hsame⟩ := X363.leave (v := none) (fun _ => rfl)
  refine ⟨_, _, pre0 _ ?_, hrun, hended, _, _, rfl, ?_, ⟨_, rfl⟩, hW, hsame.mono (by decide) (by decide)⟩
  · refine XS.aloadN X0.here hx rfl (hb hby d2_0) rfl rfl ?_
    refine st354 _ ?_
    show Steps p.tables e below (T354.setTop (mkF m 4 #[.val (.ref a1), .val (.ref ca), .val (.int (0 : Int32)), .val (.int (3 : Int32)), .val .null, .unset] [])) _
    refine XS.iloadN X354.here hx rfl (hb hby d2_4) rfl ?_
    refine XS.ifYes X354.here hx rfl (pc0 := 5) (pc' := 27) rfl (hb hby d2_5) rfl ((if0 _ _).trans (feq (by decide : ¬ ((3 : Int32) = (0 : Int32)))).2) (by decide) (by decide) ?_
    refine st355 _ ?_
    show Steps p.tables e below (T355.setTop (mkF m 30 #[.val (.ref a1), .val (.ref ca), .val (.int (0 : Int32)), .val (.int (3 : Int32)), .val .null, .unset] [(.int cst)])) _
    refine XS.ifNo X355.here hx rfl (hb hby d2_30) rfl ((if0 _ _).trans (feq (hcst : ¬ (cst = (0 : Int32)))).1) ?_
    refine XS.aloadN X355.here hx rfl (hb hby d2_33) rfl rfl ?_
    refine XS.iloadN X355.here hx rfl (hb hby d2_34) rfl ?_
    refine XS.iloadN X355.here hx rfl (hb hby d2_35) rfl ?_
    refine st356 _ ?_
    show Steps p.tables e below (T356.setTop (mkF m 39 #[.val (.ref a1), .val (.ref ca), .val (.int (0 : Int32)), .val (.int (3 : Int32)), .val .null, .unset] [(.ref vb)])) _
    refine XS.astore X356.here hx rfl (hb hby d2_39) rfl rfl (l' := #[.val (.ref a1), .val (.ref ca), .val (.int (0 : Int32)), .val (.int (3 : Int32)), .val .null, .val (.ref vb)]) rfl ?_
    refine XS.aloadN X356.here hx rfl (hb hby d2_41) rfl rfl ?_
    refine XS.aload X356.here hx rfl (hb hby d2_42) rfl rfl ?_
    refine XS.iloadN X356.here hx rfl (hb hby d2_44) rfl ?_
    refine st357 _ ?_
    show Steps p.tables e below (T357.setTop (mkF m 48 #[.val (.ref a1), .val (.ref ca), .val (.int (0 : Int32)), .val (.int (3 : Int32)), .val .null, .val (.ref vb)] [(.int (0 : Int32)), (.ref a1)])) _
    refine st360 _ ?_
    show Steps p.tables e below (T360.setTop (mkF m 51 #[.val (.ref a1), .val (.ref ca), .val (.int (0 : Int32)), .val (.int (3 : Int32)), .val .null, .val (.ref vb)] [])) _
    refine XS.aloadN X360.here hx rfl (hb hby d2_51) rfl rfl ?_
    refine XS.aload X360.here hx rfl (hb hby d2_52) rfl rfl ?_
    refine st363 _ ?_
    show Steps p.tables e below (T363.setTop (mkF m 57 #[.val (.ref a1), .val (.ref ca), .val (.int (0 : Int32)), .val (.int (3 : Int32)), .val .null, .val (.ref vb)] [])) _
    exact X363.returnOut hx Bd.returns (hb hby d2_57) hr
  · show own_SNew Z a1 (3 : Int32) [c0_, c1_, c2_] h0 n0 _ T363.heap _
    rw [e363]
    exact ⟨rfl, N363, KP363, vb, kb, Fx364, Fw363, Fx365, Fx366, own_chb (by simp only [List.mem_cons, List.not_mem_nil, or_false]; rintro x (rfl | rfl | rfl) <;> omega)⟩
theorem ef_rm_si1_3 (m : MethodId) (x0 : Addr) (x1 : Addr) : entryFrame m #[(.ref x0), (.ref x1)] 2 = mkF m 0 #[.val (.ref x0), .val (.ref x1)] [] := by first | (simp [entryFrame, mkF, argsToLocals, Value.category]; done) | rfl
set_option maxRecDepth 65536 in
set_option maxHeartbeats 40000000 in
theorem rm_si1_3 (l : Launch) (Z : State) (a0 : Array Value) (hw : ∀ d ∈ tables_1, d.before a0 Z = true) (ws : List Jvm.Cond) (a1 : Addr) (ca : Addr) (h0 : Heap) (n0 : Nat) (Z0 : n0 ≤ h0.size) (E_a : Exa Z h0 a1 "java/lang/String") (F_v : Fld Z h0 a1 "java/lang/String" "value" "[B" .null) (F_c : Fld Z h0 a1 "java/lang/String" "coder" "B" (.int (0 : Int32))) (gn_a : n0 ≤ a1) (cst : Int32) (fmt : Value) (hT : own_T Z h0 cst fmt) (kc : ClassId) (c0_ c1_ c2_ : Int32) (A_c : Arv Z h0 ca kc .char (3 : Int32) [(.int c0_), (.int c1_), (.int c2_)] (.int (0 : Int32))) (hc : (0 ≤ c0_.toInt ∧ c0_.toInt ≤ 255) ∧ (0 ≤ c1_.toInt ∧ c1_.toInt ≤ 255) ∧ (0 ≤ c2_.toInt ∧ c2_.toInt ≤ 255)) :
    MetFree l (⟨"java/lang/String", "<init>", "([C)V"⟩ : MethodName) (head1 (Jvm.Cond.code (⟨"java/lang/String", "<init>", "([C)V"⟩ : MethodName) jdk_42_method_3_code 2 none :: ws) ({ frames := 3, cells := 1, slots := 3, locals := 52 } : Room)) (fun aQ UQ => aQ = #[(.ref a1), (.ref ca)] ∧ Z.Warmed39 UQ.vm ∧ UQ.heap = h0) (fun _ _ _ _ _ => True) (fun _ UQ oQ UR => ∃ vQ LQ, oQ = .returned vQ ∧ own_SNew Z a1 (3 : Int32) [c0_, c1_, c2_] h0 n0 vQ UR.heap LQ ∧ FrameEnd UQ oQ UR LQ ({ frames := 3, cells := 1, slots := 3, locals := 52 } : Room).cells ({ frames := 3, cells := 1, slots := 3, locals := 52 } : Room).slots) := by
  refine MetFree.of_bodySF (plainFor_of_name pn_6) hisR ?_
  intro p e s m args below meth c s₁ Bd hml0 hP hK
  obtain ⟨rfl, hZ, hh⟩ := hP
  have hx := Bd.exec
  have hby := Bd.bytes
  have hml : c.maxLocals = 2 := hml0
  have hown : s.vm.findClass "java/lang/String" = some m.cls := findClass_of_methodNamed Bd.named
  have hnm := (name_of_methodNamed Bd.named Bd.method).1
  have X0 : Stand p l e ({ frames := 3, cells := 1, slots := 3, locals := 52 } : Room) s m #[(.ref a1), (.ref ca)] below meth c s₁ [] 0 0 := Stand.of_body Bd
  have e0 : s₁.heap = h0 := by rw [← hh, Bd.state]; rfl
  have N0 := Fr.nil n0
  have pre0 : ∀ t, Steps p.tables e below (s₁.setTop (mkF m 0 #[.val (.ref a1), .val (.ref ca)] [])) t → Steps p.tables e below (s₁.setTop (entryFrame m #[(.ref a1), (.ref ca)] 2)) t := fun t kq => castTop (ef_rm_si1_3 m a1 ca) kq
  have Vc367 := A_c
  obtain ⟨cl367, Ar367, q367, S367, N367_, H367_, G367⟩ := Vc367
  obtain ⟨_, _, ⟨T368, L368, k368, n368⟩, -, X368, ⟨Lc368, hQ368, l368, y368, z368⟩, st368⟩ := X0.specialBack hx (y := (⟨"java/lang/String", "<init>", "([CIILjava/lang/Void;)V"⟩ : MethodName)) rfl hown (mvT hZ (own_q hw 8 rfl)) (mvT hZ (own_q hw 9 rfl)) (mvT hZ (own_q hw 11 rfl)) (by decide) (backOf (W := 0) (rm_si4_3 l Z a0 hw [] a1 ca h0 n0 Z0 E_a F_v F_c gn_a cst fmt hT kc c0_ c1_ c2_ A_c hc) hZ (own_q hw 11 rfl) (own_q hw 4 rfl) (by decide) (by decide)) (g := (mkF m 6 #[.val (.ref a1), .val (.ref ca)] [.null, (.int (3 : Int32)), (.int (0 : Int32)), (.ref ca), (.ref a1)])) rfl (by rw [hml]; rfl) (Steps.refl _) (a := a1) (argsL := [(.ref ca), (.int (0 : Int32)), (.int (3 : Int32)), .null]) (rest := []) (lenOf pd_629 rfl) rfl (by show 2 * 0 + _ ≤ _; exact Nat.le_of_eq rfl) (hb hby d1_6) (fun _ _ => ⟨rfl, e0, (by decide : 0 + 1 ≤ _), (by decide : 0 + 3 ≤ _)⟩)
  dsimp only [Pt.U, Pt.locs, Pt.cells, Pt.slots] at X368 l368 y368 z368 st368 hQ368
  subst l368 y368 z368
  obtain ⟨rfl, N368q, K368, hSN⟩ := hQ368
  have N368 := Fr.app N0 N368q
  have e368 : T368.heap = T368.heap := rfl
  have KP368 := Keep.trans (Keep.refl h0 [a1]) K368 (allS (Or.inl (List.mem_of_getElem? (i := 0) rfl)) all0)
  obtain ⟨fs, hr, hrun, hended, hW, hsame⟩ := X368.leave (v := none) (fun _ => rfl)
  refine ⟨_, _, pre0 _ ?_, hrun, hended, _, _, rfl, ?_, ⟨_, rfl⟩, hW, hsame.mono (by decide) (by decide)⟩
  · refine XS.aloadN X0.here hx rfl (hb hby d1_0) rfl rfl ?_
    refine XS.aloadN X0.here hx rfl (hb hby d1_1) rfl rfl ?_
    refine XS.iconst X0.here hx rfl (hb hby d1_2) ?_
    refine XS.aloadN X0.here hx rfl (hb hby d1_3) rfl rfl ?_
    refine X0.arraylength hx (by rw [e0]; exact Ar367.1) (State.isArrayOf_alike hZ.alike Ar367.2.1) (g := (mkF m 4 #[.val (.ref a1), .val (.ref ca)] [(.ref ca), (.int (0 : Int32)), (.ref ca), (.ref a1)])) rfl rfl (hb hby d1_4) _ ?_
    rw [len_of S367 N367_]
    show Steps p.tables e below (s₁.setTop (mkF m 5 #[.val (.ref a1), .val (.ref ca)] [(.int (3 : Int32)), (.int (0 : Int32)), (.ref ca), (.ref a1)])) _
    refine XS.aconstNull X0.here hx rfl (hb hby d1_5) ?_
    refine st368.trans ?_
    show Steps p.tables e below (T368.setTop (mkF m 9 #[.val (.ref a1), .val (.ref ca)] [])) _
    exact X368.returnOut hx Bd.returns (hb hby d1_9) hr
  · show own_SNew Z a1 (3 : Int32) [c0_, c1_, c2_] h0 n0 _ T368.heap _
    exact ⟨rfl, N368, KP368, hSN⟩
theorem ef_rm_cm1_4 (m : MethodId) (x0 : Addr) : entryFrame m #[(.ref x0), (.int (0 : Int32)), (.int (4 : Int32))] 6 = mkF m 0 #[.val (.ref x0), .val (.int (0 : Int32)), .val (.int (4 : Int32)), .unset, .unset, .unset] [] := by first | (simp [entryFrame, mkF, argsToLocals, Value.category]; done) | rfl
set_option maxRecDepth 65536 in
set_option maxHeartbeats 40000000 in
theorem rm_cm1_4 (l : Launch) (Z : State) (a0 : Array Value) (hw : ∀ d ∈ tables_1, d.before a0 Z = true) (ws : List Jvm.Cond) (ca : Addr) (h0 : Heap) (n0 : Nat) (Z0 : n0 ≤ h0.size) (kc : ClassId) (c0_ c1_ c2_ c3_ : Int32) (A_c : Arv Z h0 ca kc .char (4 : Int32) [(.int c0_), (.int c1_), (.int c2_), (.int c3_)] (.int (0 : Int32))) (hc : (0 ≤ c0_.toInt ∧ c0_.toInt ≤ 255) ∧ (0 ≤ c1_.toInt ∧ c1_.toInt ≤ 255) ∧ (0 ≤ c2_.toInt ∧ c2_.toInt ≤ 255) ∧ (0 ≤ c3_.toInt ∧ c3_.toInt ≤ 255)) :
    MetFree l (⟨"java/lang/StringUTF16", "compress", "([CII)[B"⟩ : MethodName) (head1 (Jvm.Cond.code (⟨"java/lang/StringUTF16", "compress", "([CII)[B"⟩ : MethodName) jdk_52_method_16_code 6 (some (.array .byte)) :: ws) ({ frames := 1, cells := 1, slots := 4, locals := 18 } : Room)) (fun aQ UQ => aQ = #[(.ref ca), (.int (0 : Int32)), (.int (4 : Int32))] ∧ Z.Warmed39 UQ.vm ∧ UQ.heap = h0) (fun _ _ _ _ _ => True) (fun _ UQ oQ UR => ∃ vQ LQ, oQ = .returned vQ ∧ own_Cmp1 Z (4 : Int32) [c0_, c1_, c2_, c3_] h0 n0 vQ UR.heap LQ ∧ FrameEnd UQ oQ UR LQ ({ frames := 1, cells := 1, slots := 4, locals := 18 } : Room).cells ({ frames := 1, cells := 1, slots := 4, locals := 18 } : Room).slots) := by
  refine MetFree.of_bodySF (plainFor_of_name pn_576) hisR ?_
  intro p e s m args below meth c s₁ Bd hml0 hP hK
  obtain ⟨rfl, hZ, hh⟩ := hP
  have hx := Bd.exec
  have hby := Bd.bytes
  have hml : c.maxLocals = 6 := hml0
  have hown : s.vm.findClass "java/lang/StringUTF16" = some m.cls := findClass_of_methodNamed Bd.named
  have hnm := (name_of_methodNamed Bd.named Bd.method).1
  have X0 : Stand p l e ({ frames := 1, cells := 1, slots := 4, locals := 18 } : Room) s m #[(.ref ca), (.int (0 : Int32)), (.int (4 : Int32))] below meth c s₁ [] 0 0 := Stand.of_body Bd
  have e0 : s₁.heap = h0 := by rw [← hh, Bd.state]; rfl
  have N0 := Fr.nil n0
  have pre0 : ∀ t, Steps p.tables e below (s₁.setTop (mkF m 0 #[.val (.ref ca), .val (.int (0 : Int32)), .val (.int (4 : Int32)), .unset, .unset, .unset] [])) t → Steps p.tables e below (s₁.setTop (entryFrame m #[(.ref ca), (.int (0 : Int32)), (.int (4 : Int32))] 6)) t := fun t kq => castTop (ef_rm_cm1_4 m ca) kq
  obtain ⟨T369, h369, k369, X369, e369, E369, A369, Ea369, st369⟩ := newPE X0 hx hZ (own_q hw 16 rfl) e0 (g := (mkF m 1 #[.val (.ref ca), .val (.int (0 : Int32)), .val (.int (4 : Int32)), .unset, .unset, .unset] [(.int (4 : Int32))])) rfl (hb hby d16_1) rfl (by decide) (cap := 4) (by decide) (by decide) (by decide) (by decide) (ad := "[B") (by decide)
  obtain ⟨b369, g369⟩ : ∃ z, z = h0.size := ⟨_, rfl⟩
  rw [← g369] at A369 Ea369 st369
  have sz_b369 : h0.size ≤ b369 := Nat.le_trans (Keep.refl h0 []).1 (Nat.le_of_eq g369.symm)
  have gn_b369 : n0 ≤ b369 := Nat.le_trans Z0 sz_b369
  have ne_ca_b369 : ca ≠ b369 := Nat.ne_of_lt (Nat.lt_of_lt_of_le A_c.lt (Nat.le_of_eq g369.symm))
  have EX369 := own_ext_trans (own_ext_refl h0) E369
  have KP369 := Keep.ext (Keep.refl h0 []) E369
  have V369 : own_FB Z h369 b369 k369 (4 : Int32) (fun _ => (0 : Int32)) := own_FB.new A369 (by decide)
  have Fx370 := (A_c.ext E369)
  obtain ⟨_, _, ⟨T371, L371, k371, n371⟩, -, X371, ⟨Lc371, hQ371, l371, y371, z371⟩, st371⟩ := Jvm.LawKit.callS X369 hx (y := (⟨"java/lang/StringUTF16", "compress", "([CI[BII)I"⟩ : MethodName)) hown (mvT hZ (own_q hw 94 rfl)) (mvT hZ (own_q hw 95 rfl)) (mvT hZ (own_q hw 92 rfl)) (mvT hZ (own_q hw 96 rfl)) (by decide) (backOf (W := 0) (rm_cm2_4 l Z a0 hw [] ca b369 h369 n0 (Nat.le_trans Z0 EX369.1) kc c0_ c1_ c2_ c3_ Fx370 hc k369 V369 ne_ca_b369 gn_b369) hZ (own_q hw 96 rfl) (own_q hw 92 rfl) (by decide) (by decide)) (g := (mkF m 9 #[.val (.ref ca), .val (.int (0 : Int32)), .val (.int (4 : Int32)), .val (.ref b369), .unset, .unset] [(.int (4 : Int32)), (.int (0 : Int32)), (.ref b369), (.int (0 : Int32)), (.ref ca)])) rfl (by rw [hml]; rfl) (argsL := [(.ref ca), (.int (0 : Int32)), (.ref b369), (.int (0 : Int32)), (.int (4 : Int32))]) (rest := []) (lenOf pd_585 rfl) rfl (by show 2 * 0 + _ ≤ _; exact Nat.le_of_eq rfl) (hb hby d16_9) (fun _ _ => ⟨rfl, e369, (by decide : 1 + 0 ≤ _), (by decide : 4 + 0 ≤ _)⟩)
  dsimp only [Pt.U, Pt.locs, Pt.cells, Pt.slots] at X371 l371 y371 z371 st371 hQ371
  subst l371 y371 z371
  obtain ⟨rfl, N371q, K371, V371⟩ := hQ371
  have N371 := Fr.app N0 N371q
  have e371 : T371.heap = T371.heap := rfl
  have EX371 := own_ext_keep EX369 K371 (allS sz_b369 all0)
  have KP371 := Keep.trans KP369 K371 (allS (Or.inr sz_b369) all0)
  obtain ⟨fs, hr, hrun, hended, hW, hsame⟩ := X371.leave (v := some (.ref b369)) (fun h => by rw [Bd.returns] at h; cases h)
  refine ⟨_, _, pre0 _ ?_, hrun, hended, _, _, rfl, ?_, ⟨_, rfl⟩, hW, hsame.mono (by decide) (by decide)⟩
  · refine XS.iloadN X0.here hx rfl (hb hby d16_0) rfl ?_
    refine st369 _ ?_
    show Steps p.tables e below (T369.setTop (mkF m 3 #[.val (.ref ca), .val (.int (0 : Int32)), .val (.int (4 : Int32)), .unset, .unset, .unset] [(.ref b369)])) _
    refine XS.astoreN X369.here hx rfl (hb hby d16_3) rfl rfl (l' := #[.val (.ref ca), .val (.int (0 : Int32)), .val (.int (4 : Int32)), .val (.ref b369), .unset, .unset]) rfl ?_
    refine XS.aloadN X369.here hx rfl (hb hby d16_4) rfl rfl ?_
    refine XS.iloadN X369.here hx rfl (hb hby d16_5) rfl ?_
    refine XS.aloadN X369.here hx rfl (hb hby d16_6) rfl rfl ?_
    refine XS.iconst X369.here hx rfl (hb hby d16_7) ?_
    refine XS.iloadN X369.here hx rfl (hb hby d16_8) rfl ?_
    refine st371 _ ?_
    show Steps p.tables e below (T371.setTop (mkF m 12 #[.val (.ref ca), .val (.int (0 : Int32)), .val (.int (4 : Int32)), .val (.ref b369), .unset, .unset] [(.int (4 : Int32))])) _
    refine XS.istore X371.here hx rfl (hb hby d16_12) rfl (l' := #[.val (.ref ca), .val (.int (0 : Int32)), .val (.int (4 : Int32)), .val (.ref b369), .val (.int (4 : Int32)), .unset]) rfl ?_
    refine XS.iload X371.here hx rfl (hb hby d16_14) rfl ?_
    refine XS.iloadN X371.here hx rfl (hb hby d16_16) rfl ?_
    refine XS.icmpYes X371.here hx rfl (pc0 := 17) (pc' := 57) rfl (hb hby d16_17) rfl (teq (by decide : (4 : Int32) = (4 : Int32))).1 (by decide) (by decide) ?_
    refine XS.aloadN X371.here hx rfl (hb hby d16_57) rfl rfl ?_
    exact retOut X371 hx Bd.returns rfl (Or.inr (Or.inr (Or.inr (Or.inr ⟨rfl, rfl, rfl⟩)))) (hb hby d16_58) hr
  · show own_Cmp1 Z (4 : Int32) [c0_, c1_, c2_, c3_] h0 n0 _ T371.heap _
    exact ⟨b369, _, rfl, N371, EX371, sz_b369, V371⟩
theorem ef_rm_cfl_4 (m : MethodId) (x0 : Addr) : entryFrame m #[(.ref x0), (.int (4 : Int32))] 2 = mkF m 0 #[.val (.ref x0), .val (.int (4 : Int32))] [] := by first | (simp [entryFrame, mkF, argsToLocals, Value.category]; done) | rfl
set_option maxRecDepth 65536 in
set_option maxHeartbeats 40000000 in
theorem rm_cfl_4 (l : Launch) (Z : State) (a0 : Array Value) (hw : ∀ d ∈ tables_1, d.before a0 Z = true) (ws : List Jvm.Cond) (bb : Addr) (h0 : Heap) (n0 : Nat) (Z0 : n0 ≤ h0.size) (kb : ClassId) (f : Nat → Int32) (B_b : own_FB Z h0 bb kb (4 : Int32) f) :
    MetFree l (⟨"java/lang/StringUTF16", "coderFromArrayLen", "([BI)B"⟩ : MethodName) (head1 (Jvm.Cond.code (⟨"java/lang/StringUTF16", "coderFromArrayLen", "([BI)B"⟩ : MethodName) jdk_52_method_15_code 2 (some .byte) :: ws) ({ frames := 0, cells := 0, slots := 0, locals := 0 } : Room)) (fun aQ UQ => aQ = #[(.ref bb), (.int (4 : Int32))] ∧ Z.Warmed39 UQ.vm ∧ UQ.heap = h0) (fun _ _ _ _ _ => True) (fun _ UQ oQ UR => ∃ vQ LQ, oQ = .returned vQ ∧ own_Pure (some (.int 0)) h0 n0 vQ UR.heap LQ ∧ FrameEnd UQ oQ UR LQ ({ frames := 0, cells := 0, slots := 0, locals := 0 } : Room).cells ({ frames := 0, cells := 0, slots := 0, locals := 0 } : Room).slots) := by
  refine MetFree.of_bodySF (plainFor_of_name pn_576) hisR ?_
  intro p e s m args below meth c s₁ Bd hml0 hP hK
  obtain ⟨rfl, hZ, hh⟩ := hP
  have hx := Bd.exec
  have hby := Bd.bytes
  have hml : c.maxLocals = 2 := hml0
  have hown : s.vm.findClass "java/lang/StringUTF16" = some m.cls := findClass_of_methodNamed Bd.named
  have hnm := (name_of_methodNamed Bd.named Bd.method).1
  have X0 : Stand p l e ({ frames := 0, cells := 0, slots := 0, locals := 0 } : Room) s m #[(.ref bb), (.int (4 : Int32))] below meth c s₁ [] 0 0 := Stand.of_body Bd
  have e0 : s₁.heap = h0 := by rw [← hh, Bd.state]; rfl
  have N0 := Fr.nil n0
  have pre0 : ∀ t, Steps p.tables e below (s₁.setTop (mkF m 0 #[.val (.ref bb), .val (.int (4 : Int32))] [])) t → Steps p.tables e below (s₁.setTop (entryFrame m #[(.ref bb), (.int (4 : Int32))] 2)) t := fun t kq => castTop (ef_rm_cfl_4 m bb) kq
  have Vc372 := B_b
  obtain ⟨cl372, Ar372, q372, S372, N372_, H372_, G372⟩ := Vc372
  obtain ⟨fs, hr, hrun, hended, hW, hsame⟩ := X0.leave (v := some (.int (0 : Int32))) (fun h => by rw [Bd.returns] at h; cases h)
  refine ⟨_, _, pre0 _ ?_, hrun, hended, _, _, rfl, ?_, ⟨_, rfl⟩, hW, hsame.mono (by decide) (by decide)⟩
  · refine XS.iloadN X0.here hx rfl (hb hby d18_0) rfl ?_
    refine XS.aloadN X0.here hx rfl (hb hby d18_1) rfl rfl ?_
    refine X0.arraylength hx (by rw [e0]; exact Ar372.1) (State.isArrayOf_alike hZ.alike Ar372.2.1) (g := (mkF m 2 #[.val (.ref bb), .val (.int (4 : Int32))] [(.ref bb), (.int (4 : Int32))])) rfl rfl (hb hby d18_2) _ ?_
    rw [len_of S372 N372_]
    show Steps p.tables e below (s₁.setTop (mkF m 3 #[.val (.ref bb), .val (.int (4 : Int32))] [(.int (4 : Int32)), (.int (4 : Int32))])) _
    refine XS.isub X0.here hx rfl (hb hby d18_3) rfl ?_
    refine XS.bipush X0.here hx rfl (hb hby d18_4) ?_
    refine XS.iushr X0.here hx rfl (hb hby d18_6) rfl ?_
    show Steps p.tables e below (s₁.setTop (mkF m 7 #[.val (.ref bb), .val (.int (4 : Int32))] [(.int (((0 : Int32).toUInt32 >>> ((31 : Int32) &&& 31).toUInt32).toInt32))])) _
    rw [(by decide : (((0 : Int32).toUInt32 >>> ((31 : Int32) &&& 31).toUInt32).toInt32) = (0 : Int32))]
    show Steps p.tables e below (s₁.setTop (mkF m 7 #[.val (.ref bb), .val (.int (4 : Int32))] [(.int (0 : Int32))])) _
    refine XS.i2b X0.here hx rfl (hb hby d18_7) rfl ?_
    exact retN X0 hx (t := .byte) Bd.returns (by simp) (hb hby d18_8) hr
  · show own_Pure (some (.int 0)) h0 n0 _ s₁.heap _
    rw [e0]
    exact ⟨rfl, N0, rfl⟩
theorem ef_rm_si4_4 (m : MethodId) (x0 : Addr) (x1 : Addr) : entryFrame m #[(.ref x0), (.ref x1), (.int (0 : Int32)), (.int (4 : Int32)), .null] 6 = mkF m 0 #[.val (.ref x0), .val (.ref x1), .val (.int (0 : Int32)), .val (.int (4 : Int32)), .val .null, .unset] [] := by first | (simp [entryFrame, mkF, argsToLocals, Value.category]; done) | rfl
set_option maxRecDepth 65536 in
set_option maxHeartbeats 40000000 in
theorem rm_si4_4 (l : Launch) (Z : State) (a0 : Array Value) (hw : ∀ d ∈ tables_1, d.before a0 Z = true) (ws : List Jvm.Cond) (a1 : Addr) (ca : Addr) (h0 : Heap) (n0 : Nat) (Z0 : n0 ≤ h0.size) (E_a : Exa Z h0 a1 "java/lang/String") (F_v : Fld Z h0 a1 "java/lang/String" "value" "[B" .null) (F_c : Fld Z h0 a1 "java/lang/String" "coder" "B" (.int (0 : Int32))) (gn_a : n0 ≤ a1) (cst : Int32) (fmt : Value) (hT : own_T Z h0 cst fmt) (kc : ClassId) (c0_ c1_ c2_ c3_ : Int32) (A_c : Arv Z h0 ca kc .char (4 : Int32) [(.int c0_), (.int c1_), (.int c2_), (.int c3_)] (.int (0 : Int32))) (hc : (0 ≤ c0_.toInt ∧ c0_.toInt ≤ 255) ∧ (0 ≤ c1_.toInt ∧ c1_.toInt ≤ 255) ∧ (0 ≤ c2_.toInt ∧ c2_.toInt ≤ 255) ∧ (0 ≤ c3_.toInt ∧ c3_.toInt ≤ 255)) :
    MetFree l (⟨"java/lang/String", "<init>", "([CIILjava/lang/Void;)V"⟩ : MethodName) (head1 (Jvm.Cond.code (⟨"java/lang/String", "<init>", "([CIILjava/lang/Void;)V"⟩ : MethodName) jdk_42_method_149_code 6 none :: ws) ({ frames := 2, cells := 1, slots := 4, locals := 35 } : Room)) (fun aQ UQ => aQ = #[(.ref a1), (.ref ca), (.int (0 : Int32)), (.int (4 : Int32)), .null] ∧ Z.Warmed39 UQ.vm ∧ UQ.heap = h0) (fun _ _ _ _ _ => True) (fun _ UQ oQ UR => ∃ vQ LQ, oQ = .returned vQ ∧ own_SNew Z a1 (4 : Int32) [c0_, c1_, c2_, c3_] h0 n0 vQ UR.heap LQ ∧ FrameEnd UQ oQ UR LQ ({ frames := 2, cells := 1, slots := 4, locals := 35 } : Room).cells ({ frames := 2, cells := 1, slots := 4, locals := 35 } : Room).slots) := by
  refine MetFree.of_bodySF (plainFor_of_name pn_6) hisR ?_
  intro p e s m args below meth c s₁ Bd hml0 hP hK
  obtain ⟨rfl, hZ, hh⟩ := hP
  have hx := Bd.exec
  have hby := Bd.bytes
  have hml : c.maxLocals = 6 := hml0
  have hown : s.vm.findClass "java/lang/String" = some m.cls := findClass_of_methodNamed Bd.named
  have hnm := (name_of_methodNamed Bd.named Bd.method).1
  have X0 : Stand p l e ({ frames := 2, cells := 1, slots := 4, locals := 35 } : Room) s m #[(.ref a1), (.ref ca), (.int (0 : Int32)), (.int (4 : Int32)), .null] below meth c s₁ [] 0 0 := Stand.of_body Bd
  have e0 : s₁.heap = h0 := by rw [← hh, Bd.state]; rfl
  have N0 := Fr.nil n0
  have pre0 : ∀ t, Steps p.tables e below (s₁.setTop (mkF m 0 #[.val (.ref a1), .val (.ref ca), .val (.int (0 : Int32)), .val (.int (4 : Int32)), .val .null, .unset] [])) t → Steps p.tables e below (s₁.setTop (entryFrame m #[(.ref a1), (.ref ca), (.int (0 : Int32)), (.int (4 : Int32)), .null] 6)) t := fun t kq => castTop (ef_rm_si4_4 m a1 ca) kq
  obtain ⟨S_c, hcst, S_f, hfm⟩ := id hT
  obtain ⟨T373, X373, e373, st373⟩ := initO X0 hx hZ hown (own_q hw 12 rfl) (own_q hw 13 rfl) (own_q hw 14 rfl) e0 (g := (mkF m 1 #[.val (.ref a1), .val (.ref ca), .val (.int (0 : Int32)), .val (.int (4 : Int32)), .val .null, .unset] [(.ref a1)])) rfl (by rw [hml]; rfl) rfl (hb hby d2_1) (by decide) (W := 0) (by show 2 * 0 + _ ≤ _; exact Nat.le_of_eq rfl) (by decide)
  obtain ⟨T374, X374, e374, st374⟩ := getS2 X373 hx hZ hown (host := "") (Or.inl (own_q hw 37 rfl)) Via.refl e373 S_c (g := (mkF m 27 #[.val (.ref a1), .val (.ref ca), .val (.int (0 : Int32)), .val (.int (4 : Int32)), .val .null, .unset] [])) rfl (hb hby d2_27)
  obtain ⟨_, _, ⟨T375, L375, k375, n375⟩, -, X375, ⟨Lc375, hQ375, l375, y375, z375⟩, st375⟩ := Jvm.LawKit.callS X374 hx (y := (⟨"java/lang/StringUTF16", "compress", "([CII)[B"⟩ : MethodName)) hown (mvT hZ (own_q hw 90 rfl)) (mvT hZ (own_q hw 91 rfl)) (mvT hZ (own_q hw 92 rfl)) (mvT hZ (own_q hw 93 rfl)) (by decide) (backOf (W := 0) (rm_cm1_4 l Z a0 hw [] ca h0 n0 Z0 kc c0_ c1_ c2_ c3_ A_c hc) hZ (own_q hw 93 rfl) (own_q hw 92 rfl) (by decide) (by decide)) (g := (mkF m 36 #[.val (.ref a1), .val (.ref ca), .val (.int (0 : Int32)), .val (.int (4 : Int32)), .val .null, .unset] [(.int (4 : Int32)), (.int (0 : Int32)), (.ref ca)])) rfl (by rw [hml]; rfl) (argsL := [(.ref ca), (.int (0 : Int32)), (.int (4 : Int32))]) (rest := []) (lenOf pd_610 rfl) rfl (by show 2 * 0 + _ ≤ _; exact Nat.le_of_eq rfl) (hb hby d2_36) (fun _ _ => ⟨rfl, e374, (by decide : 0 + 1 ≤ _), (by decide : 0 + 4 ≤ _)⟩)
  dsimp only [Pt.U, Pt.locs, Pt.cells, Pt.slots] at X375 l375 y375 z375 st375 hQ375
  subst l375 y375 z375
  obtain ⟨vb, kb, rfl, N375q, E375, g375, V375⟩ := hQ375
  have N375 := Fr.app N0 N375q
  have sz_vb : h0.size ≤ vb := Nat.le_trans (Nat.le_refl _) g375
  have gn_vb : n0 ≤ vb := Nat.le_trans Z0 sz_vb
  have ne_a : a1 ≠ vb := Nat.ne_of_lt (Nat.lt_of_lt_of_le E_a.lt sz_vb)
  have e375 : T375.heap = T375.heap := rfl
  have EX375 := own_ext_trans (own_ext_refl h0) E375
  have KP375 := Keep.ext (Keep.refl h0 [a1]) E375
  obtain ⟨_, _, ⟨T376, L376, k376, n376⟩, -, X376, ⟨Lc376, hQ376, l376, y376, z376⟩, st376⟩ := Jvm.LawKit.callS X375 hx (y := (⟨"java/lang/StringUTF16", "coderFromArrayLen", "([BI)B"⟩ : MethodName)) hown (mvT hZ (own_q hw 97 rfl)) (mvT hZ (own_q hw 98 rfl)) (mvT hZ (own_q hw 92 rfl)) (mvT hZ (own_q hw 99 rfl)) (by decide) (backOf (W := 1) (rm_cfl_4 l Z a0 hw [] vb T375.heap n0 (Nat.le_trans Z0 EX375.1) kb _ V375) hZ (own_q hw 99 rfl) (own_q hw 92 rfl) (by decide) (by decide)) (g := (mkF m 45 #[.val (.ref a1), .val (.ref ca), .val (.int (0 : Int32)), .val (.int (4 : Int32)), .val .null, .val (.ref vb)] [(.int (4 : Int32)), (.ref vb), (.ref a1)])) rfl (by rw [hml]; rfl) (argsL := [(.ref vb), (.int (4 : Int32))]) (rest := [(.ref a1)]) (lenOf pd_616 rfl) rfl (by show 2 * 0 + _ ≤ _; exact Nat.le_of_eq rfl) (hb hby d2_45) (fun _ _ => ⟨rfl, e375, (by decide : 1 + 0 ≤ _), (by decide : 4 + 0 ≤ _)⟩)
  dsimp only [Pt.U, Pt.locs, Pt.cells, Pt.slots] at X376 l376 y376 z376 st376 hQ376
  subst l376 y376 z376
  obtain ⟨rfl, N376q, e376⟩ := hQ376
  have N376 := Fr.app N375 N376q
  have Fx377 := (E_a.ext E375)
  have Fx378 := (F_c.ext E375)
  obtain ⟨T379, h379, X379, e379, W379, st379⟩ := putFN X376 hx hZ hown (own_q hw 22 rfl) Via.refl e376 Fx378 Fx377 (Or.inr ⟨(own_q hw 18 rfl), rfl, hnm⟩) (own_q hw 3 rfl) (ty := .byte) (v' := (.int (0 : Int32))) (by decide) rfl rfl (g := (mkF m 48 #[.val (.ref a1), .val (.ref ca), .val (.int (0 : Int32)), .val (.int (4 : Int32)), .val .null, .val (.ref vb)] [(.int (0 : Int32)), (.ref a1)])) rfl rfl (hb hby d2_48)
  have KP379 := Keep.wr KP375 W379 (Or.inl (List.mem_of_getElem? (i := 0) rfl))
  have Fw379 := Fx378.same W379
  have N379 := Fr.snoc X379 N376 gn_a
  have Fx380 := (Fx377.wr W379)
  have Fx381 := ((F_v.ext E375).other W379 (Or.inr (slot_ne (Or.inr (own_q hw 17 rfl)) (Or.inr (own_q hw 18 rfl)) (by decide) (t := (.array .byte)) (t' := .byte) (by decide) (by decide))))
  obtain ⟨T382, h382, X382, e382, W382, st382⟩ := putF X379 hx hZ hown (host := "") (Or.inl (own_q hw 21 rfl)) Via.refl e379 Fx381 Fx380 (Or.inr ⟨(own_q hw 17 rfl), rfl, hnm⟩) (own_q hw 3 rfl) (ty := (.array .byte)) (by decide) rfl rfl (g := (mkF m 54 #[.val (.ref a1), .val (.ref ca), .val (.int (0 : Int32)), .val (.int (4 : Int32)), .val .null, .val (.ref vb)] [(.ref vb), (.ref a1)])) rfl rfl (hb hby d2_54)
  have KP382 := Keep.wr KP379 W382 (Or.inl (List.mem_of_getElem? (i := 0) rfl))
  have Fw382 := Fx381.same W382
  have N382 := Fr.snoc X382 N379 gn_a
  have Fx383 := (Fx380.wr W382)
  have Fx384 := (Fw379.other W382 (Or.inr (slot_ne (Or.inr (own_q hw 18 rfl)) (Or.inr (own_q hw 17 rfl)) (by decide) (t := .byte) (t' := (.array .byte)) (by decide) (by decide))))
  have Fx385 := ((V375.other W379 (Ne.symm ne_a)).other W382 (Ne.symm ne_a))
  obtain ⟨fs, hr, hrun, hended, hW, hsame⟩ := X382.leave (v := none) (fun _ => rfl)
  refine ⟨_, _, pre0 _ ?_, hrun, hended, _, _, rfl, ?_, ⟨_, rfl⟩, hW, hsame.mono (by decide) (by decide)⟩
  · refine XS.aloadN X0.here hx rfl (hb hby d2_0) rfl rfl ?_
    refine st373 _ ?_
    show Steps p.tables e below (T373.setTop (mkF m 4 #[.val (.ref a1), .val (.ref ca), .val (.int (0 : Int32)), .val (.int (4 : Int32)), .val .null, .unset] [])) _
    refine XS.iloadN X373.here hx rfl (hb hby d2_4) rfl ?_
    refine XS.ifYes X373.here hx rfl (pc0 := 5) (pc' := 27) rfl (hb hby d2_5) rfl ((if0 _ _).trans (feq (by decide : ¬ ((4 : Int32) = (0 : Int32)))).2) (by decide) (by decide) ?_
    refine st374 _ ?_
    show Steps p.tables e below (T374.setTop (mkF m 30 #[.val (.ref a1), .val (.ref ca), .val (.int (0 : Int32)), .val (.int (4 : Int32)), .val .null, .unset] [(.int cst)])) _
    refine XS.ifNo X374.here hx rfl (hb hby d2_30) rfl ((if0 _ _).trans (feq (hcst : ¬ (cst = (0 : Int32)))).1) ?_
    refine XS.aloadN X374.here hx rfl (hb hby d2_33) rfl rfl ?_
    refine XS.iloadN X374.here hx rfl (hb hby d2_34) rfl ?_
    refine XS.iloadN X374.here hx rfl (hb hby d2_35) rfl ?_
    refine st375 _ ?_
    show Steps p.tables e below (T375.setTop (mkF m 39 #[.val (.ref a1), .val (.ref ca), .val (.int (0 : Int32)), .val (.int (4 : Int32)), .val .null, .unset] [(.ref vb)])) _
    refine XS.astore X375.here hx rfl (hb hby d2_39) rfl rfl (l' := #[.val (.ref a1), .val (.ref ca), .val (.int (0 : Int32)), .val (.int (4 : Int32)), .val .null, .val (.ref vb)]) rfl ?_
    refine XS.aloadN X375.here hx rfl (hb hby d2_41) rfl rfl ?_
    refine XS.aload X375.here hx rfl (hb hby d2_42) rfl rfl ?_
    refine XS.iloadN X375.here hx rfl (hb hby d2_44) rfl ?_
    refine st376 _ ?_
    show Steps p.tables e below (T376.setTop (mkF m 48 #[.val (.ref a1), .val (.ref ca), .val (.int (0 : Int32)), .val (.int (4 : Int32)), .val .null, .val (.ref vb)] [(.int (0 : Int32)), (.ref a1)])) _
    refine st379 _ ?_
    show Steps p.tables e below (T379.setTop (mkF m 51 #[.val (.ref a1), .val (.ref ca), .val (.int (0 : Int32)), .val (.int (4 : Int32)), .val .null, .val (.ref vb)] [])) _
    refine XS.aloadN X379.here hx rfl (hb hby d2_51) rfl rfl ?_
    refine XS.aload X379.here hx rfl (hb hby d2_52) rfl rfl ?_
    refine st382 _ ?_
    show Steps p.tables e below (T382.setTop (mkF m 57 #[.val (.ref a1), .val (.ref ca), .val (.int (0 : Int32)), .val (.int (4 : Int32)), .val .null, .val (.ref vb)] [])) _
    exact X382.returnOut hx Bd.returns (hb hby d2_57) hr
  · show own_SNew Z a1 (4 : Int32) [c0_, c1_, c2_, c3_] h0 n0 _ T382.heap _
    rw [e382]
    exact ⟨rfl, N382, KP382, vb, kb, Fx383, Fw382, Fx384, Fx385, own_chb (by simp only [List.mem_cons, List.not_mem_nil, or_false]; rintro x (rfl | rfl | rfl | rfl) <;> omega)⟩
theorem ef_rm_si1_4 (m : MethodId) (x0 : Addr) (x1 : Addr) : entryFrame m #[(.ref x0), (.ref x1)] 2 = mkF m 0 #[.val (.ref x0), .val (.ref x1)] [] := by first | (simp [entryFrame, mkF, argsToLocals, Value.category]; done) | rfl
set_option maxRecDepth 65536 in
set_option maxHeartbeats 40000000 in
theorem rm_si1_4 (l : Launch) (Z : State) (a0 : Array Value) (hw : ∀ d ∈ tables_1, d.before a0 Z = true) (ws : List Jvm.Cond) (a1 : Addr) (ca : Addr) (h0 : Heap) (n0 : Nat) (Z0 : n0 ≤ h0.size) (E_a : Exa Z h0 a1 "java/lang/String") (F_v : Fld Z h0 a1 "java/lang/String" "value" "[B" .null) (F_c : Fld Z h0 a1 "java/lang/String" "coder" "B" (.int (0 : Int32))) (gn_a : n0 ≤ a1) (cst : Int32) (fmt : Value) (hT : own_T Z h0 cst fmt) (kc : ClassId) (c0_ c1_ c2_ c3_ : Int32) (A_c : Arv Z h0 ca kc .char (4 : Int32) [(.int c0_), (.int c1_), (.int c2_), (.int c3_)] (.int (0 : Int32))) (hc : (0 ≤ c0_.toInt ∧ c0_.toInt ≤ 255) ∧ (0 ≤ c1_.toInt ∧ c1_.toInt ≤ 255) ∧ (0 ≤ c2_.toInt ∧ c2_.toInt ≤ 255) ∧ (0 ≤ c3_.toInt ∧ c3_.toInt ≤ 255)) :
    MetFree l (⟨"java/lang/String", "<init>", "([C)V"⟩ : MethodName) (head1 (Jvm.Cond.code (⟨"java/lang/String", "<init>", "([C)V"⟩ : MethodName) jdk_42_method_3_code 2 none :: ws) ({ frames := 3, cells := 1, slots := 4, locals := 52 } : Room)) (fun aQ UQ => aQ = #[(.ref a1), (.ref ca)] ∧ Z.Warmed39 UQ.vm ∧ UQ.heap = h0) (fun _ _ _ _ _ => True) (fun _ UQ oQ UR => ∃ vQ LQ, oQ = .returned vQ ∧ own_SNew Z a1 (4 : Int32) [c0_, c1_, c2_, c3_] h0 n0 vQ UR.heap LQ ∧ FrameEnd UQ oQ UR LQ ({ frames := 3, cells := 1, slots := 4, locals := 52 } : Room).cells ({ frames := 3, cells := 1, slots := 4, locals := 52 } : Room).slots) := by
  refine MetFree.of_bodySF (plainFor_of_name pn_6) hisR ?_
  intro p e s m args below meth c s₁ Bd hml0 hP hK
  obtain ⟨rfl, hZ, hh⟩ := hP
  have hx := Bd.exec
  have hby := Bd.bytes
  have hml : c.maxLocals = 2 := hml0
  have hown : s.vm.findClass "java/lang/String" = some m.cls := findClass_of_methodNamed Bd.named
  have hnm := (name_of_methodNamed Bd.named Bd.method).1
  have X0 : Stand p l e ({ frames := 3, cells := 1, slots := 4, locals := 52 } : Room) s m #[(.ref a1), (.ref ca)] below meth c s₁ [] 0 0 := Stand.of_body Bd
  have e0 : s₁.heap = h0 := by rw [← hh, Bd.state]; rfl
  have N0 := Fr.nil n0
  have pre0 : ∀ t, Steps p.tables e below (s₁.setTop (mkF m 0 #[.val (.ref a1), .val (.ref ca)] [])) t → Steps p.tables e below (s₁.setTop (entryFrame m #[(.ref a1), (.ref ca)] 2)) t := fun t kq => castTop (ef_rm_si1_4 m a1 ca) kq
  have Vc386 := A_c
  obtain ⟨cl386, Ar386, q386, S386, N386_, H386_, G386⟩ := Vc386
  obtain ⟨_, _, ⟨T387, L387, k387, n387⟩, -, X387, ⟨Lc387, hQ387, l387, y387, z387⟩, st387⟩ := X0.specialBack hx (y := (⟨"java/lang/String", "<init>", "([CIILjava/lang/Void;)V"⟩ : MethodName)) rfl hown (mvT hZ (own_q hw 8 rfl)) (mvT hZ (own_q hw 9 rfl)) (mvT hZ (own_q hw 11 rfl)) (by decide) (backOf (W := 0) (rm_si4_4 l Z a0 hw [] a1 ca h0 n0 Z0 E_a F_v F_c gn_a cst fmt hT kc c0_ c1_ c2_ c3_ A_c hc) hZ (own_q hw 11 rfl) (own_q hw 4 rfl) (by decide) (by decide)) (g := (mkF m 6 #[.val (.ref a1), .val (.ref ca)] [.null, (.int (4 : Int32)), (.int (0 : Int32)), (.ref ca), (.ref a1)])) rfl (by rw [hml]; rfl) (Steps.refl _) (a := a1) (argsL := [(.ref ca), (.int (0 : Int32)), (.int (4 : Int32)), .null]) (rest := []) (lenOf pd_629 rfl) rfl (by show 2 * 0 + _ ≤ _; exact Nat.le_of_eq rfl) (hb hby d1_6) (fun _ _ => ⟨rfl, e0, (by decide : 0 + 1 ≤ _), (by decide : 0 + 4 ≤ _)⟩)
  dsimp only [Pt.U, Pt.locs, Pt.cells, Pt.slots] at X387 l387 y387 z387 st387 hQ387
  subst l387 y387 z387
  obtain ⟨rfl, N387q, K387, hSN⟩ := hQ387
  have N387 := Fr.app N0 N387q
  have e387 : T387.heap = T387.heap := rfl
  have KP387 := Keep.trans (Keep.refl h0 [a1]) K387 (allS (Or.inl (List.mem_of_getElem? (i := 0) rfl)) all0)
  obtain ⟨fs, hr, hrun, hended, hW, hsame⟩ := X387.leave (v := none) (fun _ => rfl)
  refine ⟨_, _, pre0 _ ?_, hrun, hended, _, _, rfl, ?_, ⟨_, rfl⟩, hW, hsame.mono (by decide) (by decide)⟩
  · refine XS.aloadN X0.here hx rfl (hb hby d1_0) rfl rfl ?_
    refine XS.aloadN X0.here hx rfl (hb hby d1_1) rfl rfl ?_
    refine XS.iconst X0.here hx rfl (hb hby d1_2) ?_
    refine XS.aloadN X0.here hx rfl (hb hby d1_3) rfl rfl ?_
    refine X0.arraylength hx (by rw [e0]; exact Ar386.1) (State.isArrayOf_alike hZ.alike Ar386.2.1) (g := (mkF m 4 #[.val (.ref a1), .val (.ref ca)] [(.ref ca), (.int (0 : Int32)), (.ref ca), (.ref a1)])) rfl rfl (hb hby d1_4) _ ?_
    rw [len_of S386 N386_]
    show Steps p.tables e below (s₁.setTop (mkF m 5 #[.val (.ref a1), .val (.ref ca)] [(.int (4 : Int32)), (.int (0 : Int32)), (.ref ca), (.ref a1)])) _
    refine XS.aconstNull X0.here hx rfl (hb hby d1_5) ?_
    refine st387.trans ?_
    show Steps p.tables e below (T387.setTop (mkF m 9 #[.val (.ref a1), .val (.ref ca)] [])) _
    exact X387.returnOut hx Bd.returns (hb hby d1_9) hr
  · show own_SNew Z a1 (4 : Int32) [c0_, c1_, c2_, c3_] h0 n0 _ T387.heap _
    exact ⟨rfl, N387, KP387, hSN⟩
theorem d2_8 : decode jdk_42_method_149_code 8 = .ok (.aload_n 0, 1) := by decide +kernel
theorem d2_9 : decode jdk_42_method_149_code 9 = .ok (.ldc 7, 2) := by decide +kernel
theorem d2_11 : decode jdk_42_method_149_code 11 = .ok (.getfield 9, 3) := by decide +kernel
theorem d2_14 : decode jdk_42_method_149_code 14 = .ok (.putfield 9, 3) := by decide +kernel
theorem d2_17 : decode jdk_42_method_149_code 17 = .ok (.aload_n 0, 1) := by decide +kernel
theorem d2_18 : decode jdk_42_method_149_code 18 = .ok (.ldc 7, 2) := by decide +kernel
theorem d2_20 : decode jdk_42_method_149_code 20 = .ok (.getfield 15, 3) := by decide +kernel
theorem d2_23 : decode jdk_42_method_149_code 23 = .ok (.putfield 15, 3) := by decide +kernel
theorem d2_26 : decode jdk_42_method_149_code 26 = .ok (.return_, 1) := by decide +kernel
theorem ef_rm_si4_0 (m : MethodId) (x0 : Addr) (x1 : Addr) : entryFrame m #[(.ref x0), (.ref x1), (.int (0 : Int32)), (.int (0 : Int32)), .null] 6 = mkF m 0 #[.val (.ref x0), .val (.ref x1), .val (.int (0 : Int32)), .val (.int (0 : Int32)), .val .null, .unset] [] := by first | (simp [entryFrame, mkF, argsToLocals, Value.category]; done) | rfl
set_option maxRecDepth 65536 in
set_option maxHeartbeats 40000000 in
theorem rm_si4_0 (l : Launch) (Z : State) (a0 : Array Value) (hw : ∀ d ∈ tables_1, d.before a0 Z = true) (ws : List Jvm.Cond) (a1 : Addr) (ca : Addr) (h0 : Heap) (n0 : Nat) (Z0 : n0 ≤ h0.size) (E_a : Exa Z h0 a1 "java/lang/String") (F_v : Fld Z h0 a1 "java/lang/String" "value" "[B" .null) (F_c : Fld Z h0 a1 "java/lang/String" "coder" "B" (.int (0 : Int32))) (gn_a : n0 ≤ a1) (cst : Int32) (fmt : Value) (hT : own_T Z h0 cst fmt) (hEx : Ext Z.heap h0) (hCH : Jvm.Lit.constHeld Z "java/lang/String" 7) (hCW : Jvm.Lit.compactW.before a0 Z = true) :
    MetFree l (⟨"java/lang/String", "<init>", "([CIILjava/lang/Void;)V"⟩ : MethodName) (head1 (Jvm.Cond.code (⟨"java/lang/String", "<init>", "([CIILjava/lang/Void;)V"⟩ : MethodName) jdk_42_method_149_code 6 none :: ws) ({ frames := 1, cells := 2, slots := 4, locals := 12 } : Room)) (fun aQ UQ => aQ = #[(.ref a1), (.ref ca), (.int (0 : Int32)), (.int (0 : Int32)), .null] ∧ Z.Warmed39 UQ.vm ∧ UQ.heap = h0 ∧ UQ.vm.interned = Z.vm.interned) (fun _ _ _ _ _ => True) (fun _ UQ oQ UR => ∃ vQ LQ, oQ = .returned vQ ∧ own_SNew Z a1 (0 : Int32) [] h0 n0 vQ UR.heap LQ ∧ ReturnedEndW UQ oQ UR LQ ({ frames := 1, cells := 2, slots := 4, locals := 12 } : Room).cells ({ frames := 1, cells := 2, slots := 4, locals := 12 } : Room).slots) := by
  refine MetFree.of_bodySF (plainFor_of_name pn_6) hisR ?_
  intro p e s m args below meth c s₁ Bd hml0 hP hK
  obtain ⟨rfl, hZ, hh, hIn⟩ := hP
  have hx := Bd.exec
  have hby := Bd.bytes
  have hml : c.maxLocals = 6 := hml0
  have hown : s.vm.findClass "java/lang/String" = some m.cls := findClass_of_methodNamed Bd.named
  have hnm := (name_of_methodNamed Bd.named Bd.method).1
  have X0 : Stand p l e ({ frames := 1, cells := 2, slots := 4, locals := 12 } : Room) (s.setVm s.vm) m #[(.ref a1), (.ref ca), (.int (0 : Int32)), (.int (0 : Int32)), .null] below meth c s₁ [] 0 0 := Stand.of_body Bd
  have e0 : s₁.heap = h0 := by rw [← hh, Bd.state]; rfl
  have N0 := Fr.nil n0
  have pre0 : ∀ t, Steps p.tables e below (s₁.setTop (mkF m 0 #[.val (.ref a1), .val (.ref ca), .val (.int (0 : Int32)), .val (.int (0 : Int32)), .val .null, .unset] [])) t → Steps p.tables e below (s₁.setTop (entryFrame m #[(.ref a1), (.ref ca), (.int (0 : Int32)), (.int (0 : Int32)), .null] 6)) t := fun t kq => castTop (ef_rm_si4_0 m a1 ca) kq
  have hSi0 : s.Since s.vm h0.size := (State.WarmedH.refl s).since _
  have hSk0 : h0.size ≤ h0.size := Nat.le_refl _
  obtain ⟨T388, X388, e388, st388⟩ := initO X0 hx hZ hown (own_q hw 12 rfl) (own_q hw 13 rfl) (own_q hw 14 rfl) e0 (g := (mkF m 1 #[.val (.ref a1), .val (.ref ca), .val (.int (0 : Int32)), .val (.int (0 : Int32)), .val .null, .unset] [(.ref a1)])) rfl (by rw [hml]; rfl) rfl (hb hby d2_1) (by decide) (W := 0) (by show 2 * 0 + _ ≤ _; exact Nat.le_of_eq rfl) (by decide)
  have ck389 : ∀ t, Steps p.tables e below (T388.setTop (mkF m 9 #[.val (.ref a1), .val (.ref ca), .val (.int (0 : Int32)), .val (.int (0 : Int32)), .val .null, .unset] [(.ref a1)])) t → Steps p.tables e below (s₁.setTop (entryFrame m #[(.ref a1), (.ref ca), (.int (0 : Int32)), (.int (0 : Int32)), .null] 6)) t := by
    intro t kt
    refine pre0 _ ?_
    refine XS.aloadN X0.here hx rfl (hb hby d2_0) rfl rfl ?_
    refine st388 _ ?_
    show Steps p.tables e below (T388.setTop (mkF m 4 #[.val (.ref a1), .val (.ref ca), .val (.int (0 : Int32)), .val (.int (0 : Int32)), .val .null, .unset] [])) _
    refine XS.iloadN X388.here hx rfl (hb hby d2_4) rfl ?_
    refine XS.ifNo X388.here hx rfl (hb hby d2_5) rfl ((if0 _ _).trans (teq (by decide : (0 : Int32) = (0 : Int32))).2) ?_
    refine XS.aloadN X388.here hx rfl (hb hby d2_8) rfl rfl ?_
    exact kt
  (try clear st388)
  obtain ⟨b390, T390, h390, kk390, vL, kL, X390, e390, E390, hSi390, hSj390, hZ, hown, EL, FcL, FvL, AL, -, -, -, LL, st390⟩ := ldcSVL X388 hx hZ hown (own_q hw 15 rfl) (own_atoms hw) e388 hSi0 hSk0 (Fr.nil _) (fun b cl q => by rw [hh]; exact hEx.2 b cl q) (Ts := []) ⟨#[], by rw [hIn]; simp, fun q hq => by simp at hq⟩ (by simp) hCH hCW (vs := []) (z := (0 : Int32)) ⟨by simp, rfl⟩ (by decide) (by decide) (g := (mkF m 9 #[.val (.ref a1), .val (.ref ca), .val (.int (0 : Int32)), .val (.int (0 : Int32)), .val .null, .unset] [(.ref a1)])) rfl (hb hby d2_9) (n := 0) (by decide) (by decide) (by decide) (by decide)
  have hSk390 := Nat.le_trans hSk0 E390.1
  have EX390 := own_ext_trans (own_ext_refl h0) E390
  have KP390 := Keep.ext (Keep.refl h0 [a1]) E390
  have Fx391 := (F_v.ext E390)
  have Fx392 := (E_a.ext E390)
  have ne_L : a1 ≠ b390 := Fx391.ne FvL (by nofun)
  have ne_V : a1 ≠ vL := Fx392.neArv AL (own_q hw 3 rfl)
  obtain ⟨T393, X393, e393, st393⟩ := getF X390 hx hZ hown (host := "") (Or.inl (own_q hw 21 rfl)) Via.refl e390 FvL (g := (mkF m 11 #[.val (.ref a1), .val (.ref ca), .val (.int (0 : Int32)), .val (.int (0 : Int32)), .val .null, .unset] [(.ref b390), (.ref a1)])) rfl rfl (hb hby d2_11)
  obtain ⟨T394, h394, X394, e394, W394, st394⟩ := putF X393 hx hZ hown (host := "") (Or.inl (own_q hw 21 rfl)) Via.refl e393 Fx391 Fx392 (Or.inr ⟨(own_q hw 17 rfl), rfl, hnm⟩) (own_q hw 3 rfl) (ty := (.array .byte)) (by decide) rfl rfl (g := (mkF m 14 #[.val (.ref a1), .val (.ref ca), .val (.int (0 : Int32)), .val (.int (0 : Int32)), .val .null, .unset] [(.ref vL), (.ref a1)])) rfl rfl (hb hby d2_14)
  have hSk394 := Nat.le_trans hSj390 (Keep.of_wr W394).1
  have KP394 := Keep.wr KP390 W394 (Or.inl (List.mem_of_getElem? (i := 0) rfl))
  have Fw394 := Fx391.same W394
  have N394 := Fr.snoc X394 N0 gn_a
  have ck395 : ∀ t, Steps p.tables e below (T394.setTop (mkF m 18 #[.val (.ref a1), .val (.ref ca), .val (.int (0 : Int32)), .val (.int (0 : Int32)), .val .null, .unset] [(.ref a1)])) t → Steps p.tables e below (s₁.setTop (entryFrame m #[(.ref a1), (.ref ca), (.int (0 : Int32)), (.int (0 : Int32)), .null] 6)) t := by
    intro t kt
    refine ck389 _ ?_
    refine st390 _ ?_
    show Steps p.tables e below (T390.setTop (mkF m 11 #[.val (.ref a1), .val (.ref ca), .val (.int (0 : Int32)), .val (.int (0 : Int32)), .val .null, .unset] [(.ref b390), (.ref a1)])) _
    refine st393 _ ?_
    show Steps p.tables e below (T393.setTop (mkF m 14 #[.val (.ref a1), .val (.ref ca), .val (.int (0 : Int32)), .val (.int (0 : Int32)), .val .null, .unset] [(.ref vL), (.ref a1)])) _
    refine st394 _ ?_
    show Steps p.tables e below (T394.setTop (mkF m 17 #[.val (.ref a1), .val (.ref ca), .val (.int (0 : Int32)), .val (.int (0 : Int32)), .val .null, .unset] [])) _
    refine XS.aloadN X394.here hx rfl (hb hby d2_17) rfl rfl ?_
    exact kt
  (try clear st394); (try clear st393); (try clear e393); (try clear X393); (try clear T393); (try clear Fx391); (try clear KP390); (try clear EX390); (try clear st390); (try clear e390); (try clear X390); (try clear h390); (try clear T390)
  have Fx396 := (FcL.other W394 (Or.inl (Ne.symm ne_L)))
  obtain ⟨T397, X397, e397, st397⟩ := getF X394 hx hZ hown (host := "") (Or.inl (own_q hw 22 rfl)) Via.refl e394 Fx396 (g := (mkF m 20 #[.val (.ref a1), .val (.ref ca), .val (.int (0 : Int32)), .val (.int (0 : Int32)), .val .null, .unset] [(.ref b390), (.ref a1)])) rfl rfl (hb hby d2_20)
  have Fx398 := (Fx392.wr W394)
  have Fx399 := ((F_c.ext E390).other W394 (Or.inr (slot_ne (Or.inr (own_q hw 18 rfl)) (Or.inr (own_q hw 17 rfl)) (by decide) (t := .byte) (t' := (.array .byte)) (by decide) (by decide))))
  obtain ⟨T400, h400, X400, e400, W400, st400⟩ := putFN X397 hx hZ hown (own_q hw 22 rfl) Via.refl e397 Fx399 Fx398 (Or.inr ⟨(own_q hw 18 rfl), rfl, hnm⟩) (own_q hw 3 rfl) (ty := .byte) (v' := (.int (0 : Int32))) (by decide) rfl rfl (g := (mkF m 23 #[.val (.ref a1), .val (.ref ca), .val (.int (0 : Int32)), .val (.int (0 : Int32)), .val .null, .unset] [(.int (0 : Int32)), (.ref a1)])) rfl rfl (hb hby d2_23)
  have hSk400 := Nat.le_trans hSk394 (Keep.of_wr W400).1
  have KP400 := Keep.wr KP394 W400 (Or.inl (List.mem_of_getElem? (i := 0) rfl))
  have Fw400 := Fx399.same W400
  have N400 := Fr.snoc X400 N394 gn_a
  have Fx401 := (Fx398.wr W400)
  have Fx402 := (Fw394.other W400 (Or.inr (slot_ne (Or.inr (own_q hw 17 rfl)) (Or.inr (own_q hw 18 rfl)) (by decide) (t := (.array .byte)) (t' := .byte) (by decide) (by decide))))
  have Fx403 := ((AL.other W394 (Ne.symm ne_V)).other W400 (Ne.symm ne_V))
  obtain ⟨fs, hr, hrun, hended, hW⟩ := X400.leaveW hSi390 (show _ ≤ T400.heap.size by rw [e400]; exact hSk400) (v := none) (fun _ => rfl)
  refine ⟨_, _, ck395 _ ?_, hrun, hended, _, _, rfl, ?_, own_retW (k := 2) (n := 4) hW (by decide) (by decide)⟩
  · refine ldcAgain X394 hx hZ hown (own_q hw 15 rfl) LL (g := (mkF m 18 #[.val (.ref a1), .val (.ref ca), .val (.int (0 : Int32)), .val (.int (0 : Int32)), .val .null, .unset] [(.ref a1)])) rfl (hb hby d2_18) _ ?_
    show Steps p.tables e below (T394.setTop (mkF m 20 #[.val (.ref a1), .val (.ref ca), .val (.int (0 : Int32)), .val (.int (0 : Int32)), .val .null, .unset] [(.ref b390), (.ref a1)])) _
    refine st397 _ ?_
    show Steps p.tables e below (T397.setTop (mkF m 23 #[.val (.ref a1), .val (.ref ca), .val (.int (0 : Int32)), .val (.int (0 : Int32)), .val .null, .unset] [(.int (0 : Int32)), (.ref a1)])) _
    refine st400 _ ?_
    show Steps p.tables e below (T400.setTop (mkF m 26 #[.val (.ref a1), .val (.ref ca), .val (.int (0 : Int32)), .val (.int (0 : Int32)), .val .null, .unset] [])) _
    exact X400.returnOut hx Bd.returns (hb hby d2_26) hr
  · show own_SNew Z a1 (0 : Int32) [] h0 n0 _ T400.heap _
    rw [e400]
    exact ⟨rfl, N400, KP400, vL, kL, Fx401, Fx402, Fw400, own_FA.congr (own_FA.ofArv Fx403) (fun i hi => absurd (show i < 0 from hi) (Nat.not_lt_zero i)), own_chb (by simp)⟩
theorem ef_rm_si1_0 (m : MethodId) (x0 : Addr) (x1 : Addr) : entryFrame m #[(.ref x0), (.ref x1)] 2 = mkF m 0 #[.val (.ref x0), .val (.ref x1)] [] := by first | (simp [entryFrame, mkF, argsToLocals, Value.category]; done) | rfl
set_option maxRecDepth 65536 in
set_option maxHeartbeats 40000000 in
theorem rm_si1_0 (l : Launch) (Z : State) (a0 : Array Value) (hw : ∀ d ∈ tables_1, d.before a0 Z = true) (ws : List Jvm.Cond) (a1 : Addr) (ca : Addr) (h0 : Heap) (n0 : Nat) (Z0 : n0 ≤ h0.size) (E_a : Exa Z h0 a1 "java/lang/String") (F_v : Fld Z h0 a1 "java/lang/String" "value" "[B" .null) (F_c : Fld Z h0 a1 "java/lang/String" "coder" "B" (.int (0 : Int32))) (gn_a : n0 ≤ a1) (cst : Int32) (fmt : Value) (hT : own_T Z h0 cst fmt) (hEx : Ext Z.heap h0) (hCH : Jvm.Lit.constHeld Z "java/lang/String" 7) (hCW : Jvm.Lit.compactW.before a0 Z = true) (kc : ClassId) (A_c : Arv Z h0 ca kc .char (0 : Int32) [] (.int (0 : Int32))) :
    MetFree l (⟨"java/lang/String", "<init>", "([C)V"⟩ : MethodName) (head1 (Jvm.Cond.code (⟨"java/lang/String", "<init>", "([C)V"⟩ : MethodName) jdk_42_method_3_code 2 none :: ws) ({ frames := 2, cells := 2, slots := 4, locals := 29 } : Room)) (fun aQ UQ => aQ = #[(.ref a1), (.ref ca)] ∧ Z.Warmed39 UQ.vm ∧ UQ.heap = h0 ∧ UQ.vm.interned = Z.vm.interned) (fun _ _ _ _ _ => True) (fun _ UQ oQ UR => ∃ vQ LQ, oQ = .returned vQ ∧ own_SNew Z a1 (0 : Int32) [] h0 n0 vQ UR.heap LQ ∧ ReturnedEndW UQ oQ UR LQ ({ frames := 2, cells := 2, slots := 4, locals := 29 } : Room).cells ({ frames := 2, cells := 2, slots := 4, locals := 29 } : Room).slots) := by
  refine MetFree.of_bodySF (plainFor_of_name pn_6) hisR ?_
  intro p e s m args below meth c s₁ Bd hml0 hP hK
  obtain ⟨rfl, hZ, hh, hIn⟩ := hP
  have hx := Bd.exec
  have hby := Bd.bytes
  have hml : c.maxLocals = 2 := hml0
  have hown : s.vm.findClass "java/lang/String" = some m.cls := findClass_of_methodNamed Bd.named
  have hnm := (name_of_methodNamed Bd.named Bd.method).1
  have X0 : Stand p l e ({ frames := 2, cells := 2, slots := 4, locals := 29 } : Room) (s.setVm s.vm) m #[(.ref a1), (.ref ca)] below meth c s₁ [] 0 0 := Stand.of_body Bd
  have e0 : s₁.heap = h0 := by rw [← hh, Bd.state]; rfl
  have N0 := Fr.nil n0
  have pre0 : ∀ t, Steps p.tables e below (s₁.setTop (mkF m 0 #[.val (.ref a1), .val (.ref ca)] [])) t → Steps p.tables e below (s₁.setTop (entryFrame m #[(.ref a1), (.ref ca)] 2)) t := fun t kq => castTop (ef_rm_si1_0 m a1 ca) kq
  have hSi0 : s.Since s.vm h0.size := (State.WarmedH.refl s).since _
  have hSk0 : h0.size ≤ h0.size := Nat.le_refl _
  have Vc404 := A_c
  obtain ⟨cl404, Ar404, q404, S404, N404_, H404_, G404⟩ := Vc404
  have ck405 : ∀ t, Steps p.tables e below (s₁.setTop (mkF m 6 #[.val (.ref a1), .val (.ref ca)] [.null, (.int (0 : Int32)), (.int (0 : Int32)), (.ref ca), (.ref a1)])) t → Steps p.tables e below (s₁.setTop (entryFrame m #[(.ref a1), (.ref ca)] 2)) t := by
    intro t kt
    refine pre0 _ ?_
    refine XS.aloadN X0.here hx rfl (hb hby d1_0) rfl rfl ?_
    refine XS.aloadN X0.here hx rfl (hb hby d1_1) rfl rfl ?_
    refine XS.iconst X0.here hx rfl (hb hby d1_2) ?_
    refine XS.aloadN X0.here hx rfl (hb hby d1_3) rfl rfl ?_
    refine X0.arraylength hx (by rw [e0]; exact Ar404.1) (State.isArrayOf_alike hZ.alike Ar404.2.1) (g := (mkF m 4 #[.val (.ref a1), .val (.ref ca)] [(.ref ca), (.int (0 : Int32)), (.ref ca), (.ref a1)])) rfl rfl (hb hby d1_4) _ ?_
    rw [len_of S404 N404_]
    show Steps p.tables e below (s₁.setTop (mkF m 5 #[.val (.ref a1), .val (.ref ca)] [(.int (0 : Int32)), (.int (0 : Int32)), (.ref ca), (.ref a1)])) _
    refine XS.aconstNull X0.here hx rfl (hb hby d1_5) ?_
    exact kt
  (try clear G404); (try clear H404_); (try clear N404_); (try clear S404); (try clear q404); (try clear Ar404); (try clear cl404)
  obtain ⟨_, _, ⟨T406, L406, k406, n406⟩, -, X406r, S406r, g406r, ⟨Lc406, hQ406, l406, y406, z406⟩, st406⟩ := X0.specialBackS hx (y := (⟨"java/lang/String", "<init>", "([CIILjava/lang/Void;)V"⟩ : MethodName)) rfl hown (mvT hZ (own_q hw 8 rfl)) (mvT hZ (own_q hw 9 rfl)) (mvT hZ (own_q hw 11 rfl)) (by decide) (own_backI (W := 0) (rm_si4_0 l Z a0 hw [] a1 ca h0 n0 Z0 E_a F_v F_c gn_a cst fmt hT hEx hCH hCW) hIn hZ (own_q hw 11 rfl) (own_q hw 4 rfl) (by decide) (by decide)) (g := (mkF m 6 #[.val (.ref a1), .val (.ref ca)] [.null, (.int (0 : Int32)), (.int (0 : Int32)), (.ref ca), (.ref a1)])) rfl (by rw [hml]; rfl) (Steps.refl _) (a := a1) (argsL := [(.ref ca), (.int (0 : Int32)), (.int (0 : Int32)), .null]) (rest := []) (lenOf pd_629 rfl) rfl (by show 2 * 0 + _ ≤ _; exact Nat.le_of_eq rfl) (hb hby d1_6) (fun _ _ => ⟨rfl, e0, (by decide : 0 + 2 ≤ _), (by decide : 0 + 4 ≤ _)⟩)
  dsimp only [Pt.U, Pt.locs, Pt.cells, Pt.slots] at X406r S406r g406r l406 y406 z406 st406 hQ406
  subst l406 y406 z406
  obtain ⟨X406, hSi406, hZ, hown⟩ := rebS hSi0 (show _ ≤ s₁.heap.size by rw [e0]; exact hSk0) X406r S406r g406r hZ hown
  obtain ⟨rfl, N406q, K406, hSN⟩ := hQ406
  have N406 := Fr.app N0 N406q
  have e406 : T406.heap = T406.heap := rfl
  have hSk406 := Nat.le_trans hSk0 K406.1
  have KP406 := Keep.trans (Keep.refl h0 [a1]) K406 (allS (Or.inl (List.mem_of_getElem? (i := 0) rfl)) all0)
  obtain ⟨fs, hr, hrun, hended, hW⟩ := X406.leaveW hSi406 (show _ ≤ T406.heap.size by rw [e406]; exact (Nat.le_refl T406.heap.size)) (v := none) (fun _ => rfl)
  refine ⟨_, _, ck405 _ ?_, hrun, hended, _, _, rfl, ?_, own_retW (k := 2) (n := 4) hW (by decide) (by decide)⟩
  · refine st406.trans ?_
    show Steps p.tables e below (T406.setTop (mkF m 9 #[.val (.ref a1), .val (.ref ca)] [])) _
    exact X406.returnOut hx Bd.returns (hb hby d1_9) hr
  · show own_SNew Z a1 (0 : Int32) [] h0 n0 _ T406.heap _
    exact ⟨rfl, N406, KP406, hSN⟩
theorem rm_iswV (l : Launch) (Z : State) (a0 : Array Value) (hw : ∀ d ∈ tables_1, d.before a0 Z = true) (ws : List Jvm.Cond) (a1 : Addr) (h0 : Heap) (n0 : Nat) (Z0 : n0 ≤ h0.size) (fr ex : Value) (hfr : fr = .null ∨ ∃ a : Addr, fr = .ref a) (hex : ex = .null ∨ ∃ a : Addr, ex = .ref a) (F_f : Fld Z h0 a1 "com/example/rowstrata/rowstrata/type/Numeral" "fraction" "Ljava/lang/String;" fr) (F_e : Fld Z h0 a1 "com/example/rowstrata/rowstrata/type/Numeral" "exponent" "Ljava/lang/String;" ex) (r : Int32) (hr : (r = 1 ∧ fr = .null ∧ ex = .null) ∨ (r = 0 ∧ ¬ (fr = .null ∧ ex = .null))) :
    MetFree l (⟨"com/example/rowstrata/rowstrata/type/Numeral", "isWhole", "()Z"⟩ : MethodName) (head1 (Jvm.Cond.code (⟨"com/example/rowstrata/rowstrata/type/Numeral", "isWhole", "()Z"⟩ : MethodName) prog_32_method_5_code 1 (some .boolean) :: ws) ({ frames := 0, cells := 0, slots := 0, locals := 0 } : Room)) (fun aQ UQ => aQ = #[(.ref a1)] ∧ Z.Warmed39 UQ.vm ∧ UQ.heap = h0) (fun _ _ _ _ _ => True) (fun _ UQ oQ UR => ∃ vQ LQ, oQ = .returned vQ ∧ own_Pure (some (.int r)) h0 n0 vQ UR.heap LQ ∧ FrameEnd UQ oQ UR LQ ({ frames := 0, cells := 0, slots := 0, locals := 0 } : Room).cells ({ frames := 0, cells := 0, slots := 0, locals := 0 } : Room).slots) := by
  rcases hfr with rfl | ⟨fa, rfl⟩
  · rcases hex with rfl | ⟨ea, rfl⟩
    · obtain rfl : r = 1 := hr.elim (fun q => q.1) (fun q => absurd ⟨rfl, rfl⟩ q.2)
      exact rm_isw l Z a0 hw ws a1 h0 n0 Z0 F_f F_e
    · obtain rfl : r = 0 := hr.elim (fun q => absurd q.2.2 nofun) (fun q => q.1)
      exact rm_iswE l Z a0 hw ws a1 h0 n0 Z0 ea F_f F_e
  · rcases hex with rfl | ⟨ea, rfl⟩
    · obtain rfl : r = 0 := hr.elim (fun q => absurd q.2.1 nofun) (fun q => q.1)
      exact rm_iswF l Z a0 hw ws a1 h0 n0 Z0 fa F_f F_e
    · obtain rfl : r = 0 := hr.elim (fun q => absurd q.2.1 nofun) (fun q => q.1)
      exact rm_iswFE l Z a0 hw ws a1 h0 n0 Z0 fa ea F_f F_e
theorem pd_641 : parseMethodDescriptor "([C)V" = some ⟨[(.array .char)], none⟩ := by decide +kernel
theorem pd_642 : parseMethodDescriptor "(Ljava/lang/String;I)Z" = some ⟨[(.object "java/lang/String"), .int], some .boolean⟩ := by decide +kernel
theorem pd_643 : parseMethodDescriptor "(Ljava/lang/String;)Lcom/example/rowstrata/rowstrata/type/Numeral;" = some ⟨[(.object "java/lang/String")], some (.object "com/example/rowstrata/rowstrata/type/Numeral")⟩ := by decide +kernel
theorem pd_644 : parseMethodDescriptor "(Ljava/lang/String;)Z" = some ⟨[(.object "java/lang/String")], some .boolean⟩ := by decide +kernel
theorem pd_645 : parseMethodDescriptor "(ILjava/lang/String;)Ljava/lang/String;" = some ⟨[.int, (.object "java/lang/String")], some (.object "java/lang/String")⟩ := by decide +kernel
theorem ef_rm_law (m : MethodId) (x0 : Int32) (x1 : Int32) (x2 : Int32) (x3 : Int32) (x4 : Int32) (x5 : Int32) : entryFrame m #[(.int x0), (.int x1), (.int x2), (.int x3), (.int x4), (.int x5)] maxLocals = mkF m 0 #[.val (.int x0), .val (.int x1), .val (.int x2), .val (.int x3), .val (.int x4), .val (.int x5), .unset, .unset, .unset, .unset, .unset, .unset, .unset, .unset, .unset, .unset, .unset] [] := by first | (simp [entryFrame, mkF, argsToLocals, Value.category, maxLocals]; done) | rfl
set_option maxRecDepth 65536 in
set_option maxHeartbeats 40000000 in
theorem rm_law (l : Launch) (Z : State) (a0 : Array Value) (hw : ∀ d ∈ tables_1, d.before a0 Z = true) (ws : List Jvm.Cond) (p0 : Int32) (p1 : Int32) (p2 : Int32) (p3 : Int32) (p4 : Int32) (p5 : Int32) (h0 : Heap) (n0 : Nat) (Z0 : n0 ≤ h0.size) (cst : Int32) (fmt : Value) (hT : own_T Z h0 cst fmt) (hEx : Ext Z.heap h0) (hCH : Jvm.Lit.constHeld Z "java/lang/String" 7) (hCW : Jvm.Lit.compactW.before a0 Z = true) :
    MetFree l x (head1 (Jvm.Cond.code x code maxLocals ret :: ws) room_1) (fun aQ UQ => aQ = #[(.int p0), (.int p1), (.int p2), (.int p3), (.int p4), (.int p5)] ∧ Z.Warmed39 UQ.vm ∧ UQ.heap = h0 ∧ UQ.vm.interned = Z.vm.interned) (fun _ _ _ _ _ => True) (fun _ UQ oQ UR => ∃ vQ LQ, oQ = .returned vQ ∧ own_Made (some (.int 1)) n0 vQ UR.heap LQ ∧ ReturnedEndW UQ oQ UR LQ room_1.cells room_1.slots) := by
  refine MetFree.of_bodySF (plainFor_of_name pn_86) hisR ?_
  intro p e s m args below meth c s₁ Bd hml0 hP hK
  obtain ⟨rfl, hZ, hh, hIn⟩ := hP
  have hx := Bd.exec
  have hby := Bd.bytes
  have hml : c.maxLocals = 17 := hml0
  have hown : s.vm.findClass "com/example/rowstrata/rowstrata/type/NumeralIsWholePinLaw" = some m.cls := findClass_of_methodNamed Bd.named
  have hnm := (name_of_methodNamed Bd.named Bd.method).1
  have X0 : Stand p l e room_1 (s.setVm s.vm) m #[(.int p0), (.int p1), (.int p2), (.int p3), (.int p4), (.int p5)] below meth c s₁ [] 0 0 := Stand.of_body Bd
  have e0 : s₁.heap = h0 := by rw [← hh, Bd.state]; rfl
  have N0 := Fr.nil n0
  have pre0 : ∀ t, Steps p.tables e below (s₁.setTop (mkF m 0 #[.val (.int p0), .val (.int p1), .val (.int p2), .val (.int p3), .val (.int p4), .val (.int p5), .unset, .unset, .unset, .unset, .unset, .unset, .unset, .unset, .unset, .unset, .unset] [])) t → Steps p.tables e below (s₁.setTop (entryFrame m #[(.int p0), (.int p1), (.int p2), (.int p3), (.int p4), (.int p5)] maxLocals)) t := fun t kq => castTop (ef_rm_law m p0 p1 p2 p3 p4 p5) kq
  have hSi0 : s.Since s.vm h0.size := (State.WarmedH.refl s).since _
  have hSk0 : h0.size ≤ h0.size := Nat.le_refl _
  have ck407 : ∀ t, Steps p.tables e below (s₁.setTop (mkF m 5 #[.val (.int p0), .val (.int p1), .val (.int p2), .val (.int p3), .val (.int p4), .val (.int p5), .unset, .unset, .unset, .unset, .unset, .unset, .unset, .unset, .unset, .unset, .unset] [(.int (5 : Int32)), (.int (p0 &&& (2147483647 : Int32)))])) t → Steps p.tables e below (s₁.setTop (entryFrame m #[(.int p0), (.int p1), (.int p2), (.int p3), (.int p4), (.int p5)] maxLocals)) t := by
    intro t kt
    refine pre0 _ ?_
    refine XS.iloadN X0.here hx rfl (hb hby at_0) rfl ?_
    refine X0.ldcInt hx hown (mvT hZ (own_q hw 0 rfl)) (g := (mkF m 1 #[.val (.int p0), .val (.int p1), .val (.int p2), .val (.int p3), .val (.int p4), .val (.int p5), .unset, .unset, .unset, .unset, .unset, .unset, .unset, .unset, .unset, .unset, .unset] [(.int p0)])) rfl (hb hby at_1) _ ?_
    show Steps p.tables e below (s₁.setTop (mkF m 3 #[.val (.int p0), .val (.int p1), .val (.int p2), .val (.int p3), .val (.int p4), .val (.int p5), .unset, .unset, .unset, .unset, .unset, .unset, .unset, .unset, .unset, .unset, .unset] [(.int (2147483647 : Int32)), (.int p0)])) _
    refine XS.iand X0.here hx rfl (hb hby at_3) rfl ?_
    refine XS.iconst X0.here hx rfl (hb hby at_4) ?_
    exact kt
  obtain ⟨vJ464, T464, L464, h464, kJ464, z, ca, tx, vb, kb, ch, X464, e464, N464, EJ464, hSi464, hSq464, hZ, hown, hj464_0, hj464_1, hj464_2, ck464⟩ : ∃ (vJ : Vm) (TJ : State) (LJ : List Loc) (hJ : Heap) (kJ : Nat) (z : Int32) (ca : Addr) (tx : Addr) (vb : Addr) (kb : ClassId) (ch : Nat → Int32), Stand p l e room_1 (s.setVm vJ) m #[(.int p0), (.int p1), (.int p2), (.int p3), (.int p4), (.int p5)] below meth c TJ LJ 4 12 ∧ TJ.heap = hJ ∧ Fr n0 LJ ∧ Ext h0 hJ ∧ s.Since vJ kJ ∧ kJ ≤ hJ.size ∧ Z.Warmed39 (s.setVm vJ).vm ∧ (s.setVm vJ).vm.findClass "com/example/rowstrata/rowstrata/type/NumeralIsWholePinLaw" = some m.cls ∧ (own_S Z hJ tx vb kb z ch) ∧ (0 ≤ z.toInt) ∧ (z.toInt ≤ 4) ∧ (∀ t, Steps p.tables e below (TJ.setTop (mkF m 79 #[.val (.int p0), .val (.int p1), .val (.int p2), .val (.int p3), .val (.int p4), .val (.int p5), .val (.int z), .val (.ref ca), .unset, .unset, .unset, .unset, .unset, .unset, .unset, .unset, .unset] [(.ref tx)])) t → Steps p.tables e below (s₁.setTop (entryFrame m #[(.int p0), (.int p1), (.int p2), (.int p3), (.int p4), (.int p5)] maxLocals)) t) := by
    rcases own_rem5 p0 with hv465 | hv466 | hv467 | hv468 | hv469
    · -- (0 : Int32)
      obtain ⟨T470, h470, k470, X470, e470, E470, A470, st470⟩ := newP X0 hx hZ (own_q hw 1 rfl) e0 (g := (mkF m 10 #[.val (.int p0), .val (.int p1), .val (.int p2), .val (.int p3), .val (.int p4), .val (.int p5), .val (.int (0 : Int32)), .unset, .unset, .unset, .unset, .unset, .unset, .unset, .unset, .unset, .unset] [(.int (0 : Int32))])) rfl (hb hby at_10) rfl (by decide) (cap := 0) (by decide) (by decide) (by decide) (by decide)
      obtain ⟨b470, g470⟩ : ∃ z, z = h0.size := ⟨_, rfl⟩
      rw [← g470] at A470 st470
      have sz_b470 : h0.size ≤ b470 := Nat.le_trans (Keep.refl h0 []).1 (Nat.le_of_eq g470.symm)
      have gn_b470 : n0 ≤ b470 := Nat.le_trans Z0 sz_b470
      have hSk470 := Nat.le_trans hSk0 E470.1
      have EX470 := own_ext_trans (own_ext_refl h0) E470
      have KP470 := Keep.ext (Keep.refl h0 []) E470
      have V470 : Arv Z h470 b470 k470 .char (0 : Int32) [] (.int (0 : Int32)) := (Arv.new A470 (by decide)).pad (pad_rep [] (.int (0 : Int32)) 0)
      obtain ⟨T471, h471, X471, e471, E471, A471, D471, -, st471⟩ := newO X470 hx hZ hown (own_q hw 2 rfl) (own_q hw 3 rfl) (own_q hw 4 rfl) e470 (g := (mkF m 70 #[.val (.int p0), .val (.int p1), .val (.int p2), .val (.int p3), .val (.int p4), .val (.int p5), .val (.int (0 : Int32)), .val (.ref b470), .unset, .unset, .unset, .unset, .unset, .unset, .unset, .unset, .unset] [])) rfl (hb hby at_70) (by decide) (by decide)
      obtain ⟨b471, g471⟩ : ∃ z, z = h470.size := ⟨_, rfl⟩
      rw [← g471] at A471 D471 st471
      have sz_b471 : h0.size ≤ b471 := Nat.le_trans KP470.1 (Nat.le_of_eq g471.symm)
      have gn_b471 : n0 ≤ b471 := Nat.le_trans Z0 sz_b471
      have ne_b470_b471 : b470 ≠ b471 := Nat.ne_of_lt (Nat.lt_of_lt_of_le V470.lt (Nat.le_of_eq g471.symm))
      have hSk471 := Nat.le_trans hSk470 E471.1
      have EX471 := own_ext_trans EX470 E471
      have KP471 := Keep.ext KP470 E471
      have F471_value : Fld Z h471 b471 "java/lang/String" "value" "[B" .null := D471 (Or.inr (own_q hw 17 rfl)) (ty := (.array .byte)) (by decide)
      have F471_coder : Fld Z h471 b471 "java/lang/String" "coder" "B" (.int (0 : Int32)) := D471 (Or.inr (own_q hw 18 rfl)) (ty := .byte) (by decide)
      have Fx472 := (V470.ext E471)
      have ck473 : ∀ t, Steps p.tables e below (T471.setTop (mkF m 76 #[.val (.int p0), .val (.int p1), .val (.int p2), .val (.int p3), .val (.int p4), .val (.int p5), .val (.int (0 : Int32)), .val (.ref b470), .unset, .unset, .unset, .unset, .unset, .unset, .unset, .unset, .unset] [(.ref b470), (.ref b471), (.ref b471)])) t → Steps p.tables e below (s₁.setTop (entryFrame m #[(.int p0), (.int p1), (.int p2), (.int p3), (.int p4), (.int p5)] maxLocals)) t := by
        intro t kt
        refine ck407 _ ?_
        refine Jvm.RoadKit.iremM (g := (mkF m 5 #[.val (.int p0), .val (.int p1), .val (.int p2), .val (.int p3), .val (.int p4), .val (.int p5), .unset, .unset, .unset, .unset, .unset, .unset, .unset, .unset, .unset, .unset, .unset] [(.int (5 : Int32)), (.int (p0 &&& (2147483647 : Int32)))])) X0 hx rfl (hb hby at_5) rfl (by decide) ?_
        show Steps p.tables e below (s₁.setTop (mkF m 6 #[.val (.int p0), .val (.int p1), .val (.int p2), .val (.int p3), .val (.int p4), .val (.int p5), .unset, .unset, .unset, .unset, .unset, .unset, .unset, .unset, .unset, .unset, .unset] [(.int ((p0 &&& (2147483647 : Int32)) % (5 : Int32)))])) _
        rw [hv465]
        show Steps p.tables e below (s₁.setTop (mkF m 6 #[.val (.int p0), .val (.int p1), .val (.int p2), .val (.int p3), .val (.int p4), .val (.int p5), .unset, .unset, .unset, .unset, .unset, .unset, .unset, .unset, .unset, .unset, .unset] [(.int (0 : Int32))])) _
        refine XS.istore X0.here hx rfl (hb hby at_6) rfl (l' := #[.val (.int p0), .val (.int p1), .val (.int p2), .val (.int p3), .val (.int p4), .val (.int p5), .val (.int (0 : Int32)), .unset, .unset, .unset, .unset, .unset, .unset, .unset, .unset, .unset, .unset]) rfl ?_
        refine XS.iload X0.here hx rfl (hb hby at_8) rfl ?_
        refine st470 _ ?_
        show Steps p.tables e below (T470.setTop (mkF m 12 #[.val (.int p0), .val (.int p1), .val (.int p2), .val (.int p3), .val (.int p4), .val (.int p5), .val (.int (0 : Int32)), .unset, .unset, .unset, .unset, .unset, .unset, .unset, .unset, .unset, .unset] [(.ref b470)])) _
        refine XS.astore X470.here hx rfl (hb hby at_12) rfl rfl (l' := #[.val (.int p0), .val (.int p1), .val (.int p2), .val (.int p3), .val (.int p4), .val (.int p5), .val (.int (0 : Int32)), .val (.ref b470), .unset, .unset, .unset, .unset, .unset, .unset, .unset, .unset, .unset]) rfl ?_
        refine XS.iload X470.here hx rfl (hb hby at_14) rfl ?_
        refine XS.ifYes X470.here hx rfl (pc0 := 16) (pc' := 27) rfl (hb hby at_16) rfl ((if0 _ _).trans (flt (by decide : ¬ ((0 : Int32) < (0 : Int32)))).2.2.2) (by decide) (by decide) ?_
        refine XS.iload X470.here hx rfl (hb hby at_27) rfl ?_
        refine XS.iconst X470.here hx rfl (hb hby at_29) ?_
        refine XS.icmpYes X470.here hx rfl (pc0 := 30) (pc' := 41) rfl (hb hby at_30) rfl (flt (by decide : ¬ ((1 : Int32) < (0 : Int32)))).2.2.2 (by decide) (by decide) ?_
        refine XS.iload X470.here hx rfl (hb hby at_41) rfl ?_
        refine XS.iconst X470.here hx rfl (hb hby at_43) ?_
        refine XS.icmpYes X470.here hx rfl (pc0 := 44) (pc' := 55) rfl (hb hby at_44) rfl (flt (by decide : ¬ ((2 : Int32) < (0 : Int32)))).2.2.2 (by decide) (by decide) ?_
        refine XS.iload X470.here hx rfl (hb hby at_55) rfl ?_
        refine XS.iconst X470.here hx rfl (hb hby at_57) ?_
        refine XS.icmpYes X470.here hx rfl (pc0 := 58) (pc' := 70) rfl (hb hby at_58) rfl (flt (by decide : ¬ ((3 : Int32) < (0 : Int32)))).2.2.2 (by decide) (by decide) ?_
        refine st471 _ ?_
        show Steps p.tables e below (T471.setTop (mkF m 73 #[.val (.int p0), .val (.int p1), .val (.int p2), .val (.int p3), .val (.int p4), .val (.int p5), .val (.int (0 : Int32)), .val (.ref b470), .unset, .unset, .unset, .unset, .unset, .unset, .unset, .unset, .unset] [(.ref b471)])) _
        refine XS.dup X471.here hx rfl (hb hby at_73) rfl rfl ?_
        refine XS.aload X471.here hx rfl (hb hby at_74) rfl rfl ?_
        exact kt
      (try clear st471); (try clear D471); (try clear E471); (try clear V470); (try clear KP470); (try clear EX470); (try clear st470); (try clear A470); (try clear E470); (try clear e470); (try clear X470); (try clear h470); (try clear T470)
      obtain ⟨_, _, ⟨T474, L474, k474, n474⟩, -, X474r, S474r, g474r, ⟨Lc474, hQ474, l474, y474, z474⟩, st474⟩ := X471.specialBackS hx (y := (⟨"java/lang/String", "<init>", "([C)V"⟩ : MethodName)) rfl hown (mvT hZ (own_q hw 5 rfl)) (mvT hZ (own_q hw 6 rfl)) (mvT hZ (own_q hw 7 rfl)) (by decide) (own_backI (W := 1) (rm_si1_0 l Z a0 hw [] b471 b470 h471 n0 (Nat.le_trans Z0 EX471.1) A471 F471_value F471_coder gn_b471 cst fmt (hT.ext EX471) (own_ext_trans hEx EX471) hCH hCW k470 Fx472) hIn hZ (own_q hw 7 rfl) (own_q hw 4 rfl) (by decide) (by decide)) (g := (mkF m 76 #[.val (.int p0), .val (.int p1), .val (.int p2), .val (.int p3), .val (.int p4), .val (.int p5), .val (.int (0 : Int32)), .val (.ref b470), .unset, .unset, .unset, .unset, .unset, .unset, .unset, .unset, .unset] [(.ref b470), (.ref b471), (.ref b471)])) rfl (by rw [hml]; rfl) (Steps.refl _) (a := b471) (argsL := [(.ref b470)]) (rest := [(.ref b471)]) (lenOf pd_641 rfl) rfl (by show 2 * 0 + _ ≤ _; exact Nat.le_of_eq rfl) (hb hby at_76) (fun _ _ => ⟨rfl, e471, (by decide : 2 + 2 ≤ _), (by decide : 4 + 4 ≤ _)⟩)
      dsimp only [Pt.U, Pt.locs, Pt.cells, Pt.slots] at X474r S474r g474r l474 y474 z474 st474 hQ474
      subst l474 y474 z474
      obtain ⟨X474, hSi474, hZ, hown⟩ := rebS hSi0 (show _ ≤ T471.heap.size by rw [e471]; exact hSk471) X474r S474r g474r hZ hown
      obtain ⟨rfl, N474q, K474, vb, kb, hSt⟩ := hQ474
      have N474 := Fr.app N0 N474q
      have e474 : T474.heap = T474.heap := rfl
      have hSk474 := Nat.le_trans hSk471 K474.1
      have EX474 := own_ext_keep EX471 K474 (allS sz_b471 all0)
      have KP474 := Keep.trans KP471 K474 (allS (Or.inr sz_b471) all0)
      refine ⟨T474.vm, T474, _, T474.heap, _, (0 : Int32), b470, b471, vb, kb, (own_ch []), X474.mono (by decide) (by decide), e474, N474, EX474, hSi474, (Nat.le_refl T474.heap.size), hZ, hown, hSt, by decide, by decide, fun t kt => ?_⟩
      refine ck473 _ ?_
      refine st474.trans ?_
      exact kt
    · -- (1 : Int32)
      obtain ⟨T475, h475, k475, X475, e475, E475, A475, st475⟩ := newP X0 hx hZ (own_q hw 1 rfl) e0 (g := (mkF m 10 #[.val (.int p0), .val (.int p1), .val (.int p2), .val (.int p3), .val (.int p4), .val (.int p5), .val (.int (1 : Int32)), .unset, .unset, .unset, .unset, .unset, .unset, .unset, .unset, .unset, .unset] [(.int (1 : Int32))])) rfl (hb hby at_10) rfl (by decide) (cap := 1) (by decide) (by decide) (by decide) (by decide)
      obtain ⟨b475, g475⟩ : ∃ z, z = h0.size := ⟨_, rfl⟩
      rw [← g475] at A475 st475
      have sz_b475 : h0.size ≤ b475 := Nat.le_trans (Keep.refl h0 []).1 (Nat.le_of_eq g475.symm)
      have gn_b475 : n0 ≤ b475 := Nat.le_trans Z0 sz_b475
      have hSk475 := Nat.le_trans hSk0 E475.1
      have EX475 := own_ext_trans (own_ext_refl h0) E475
      have KP475 := Keep.ext (Keep.refl h0 []) E475
      have V475 : Arv Z h475 b475 k475 .char (1 : Int32) [(.int (0 : Int32))] (.int (0 : Int32)) := (Arv.new A475 (by decide)).pad (pad_rep [] (.int (0 : Int32)) 1)
      obtain ⟨_, _, ⟨T476, L476, k476, n476⟩, -, X476, ⟨Lc476, hQ476, l476, y476, z476⟩, st476⟩ := Jvm.LawKit.callS X475 hx (y := (⟨"com/example/rowstrata/rowstrata/type/NumeralIsWholePinLaw", "chr", "(I)C"⟩ : MethodName)) hown (mvT hZ (own_q hw 87 rfl)) (mvT hZ (own_q hw 88 rfl)) (mvT hZ (own_q hw 25 rfl)) (mvT hZ (own_q hw 89 rfl)) (by decide) (backOf (W := 2) (rm_chr l Z a0 hw [] p1 h475 n0 (Nat.le_trans Z0 EX475.1)) hZ (own_q hw 89 rfl) (own_q hw 25 rfl) (by decide) (by decide)) (g := (mkF m 23 #[.val (.int p0), .val (.int p1), .val (.int p2), .val (.int p3), .val (.int p4), .val (.int p5), .val (.int (1 : Int32)), .val (.ref b475), .unset, .unset, .unset, .unset, .unset, .unset, .unset, .unset, .unset] [(.int p1), (.int (0 : Int32)), (.ref b475)])) rfl (by rw [hml]; rfl) (argsL := [(.int p1)]) (rest := [(.int (0 : Int32)), (.ref b475)]) (lenOf pd_68 rfl) rfl (by show 2 * 0 + _ ≤ _; exact Nat.le_of_eq rfl) (hb hby at_23) (fun _ _ => ⟨rfl, e475, (by decide : 1 + 0 ≤ _), (by decide : 1 + 0 ≤ _)⟩)
      dsimp only [Pt.U, Pt.locs, Pt.cells, Pt.slots] at X476 l476 y476 z476 st476 hQ476
      subst l476 y476 z476
      obtain ⟨c_0, rfl, N476q, e476, hcl_0, hch_0⟩ := hQ476
      have N476 := Fr.app N0 N476q
      have Vc477 := V475
      obtain ⟨cl477, Ar477, q477, S477, N477_, H477_, G477⟩ := Vc477
      have hin477 : ¬ ((0 : Int32) < 0 ∨ cl477.slots.size ≤ ((0 : Int32)).toNatClampNeg) := inb_of S477 ⟨by decide, by decide⟩
      obtain ⟨T478, h478, X478, e478, W478, st478⟩ := stC X476 hx hZ e476 Ar477 (j := (0 : Int32)) hin477 (g := (mkF m 26 #[.val (.int p0), .val (.int p1), .val (.int p2), .val (.int p3), .val (.int p4), .val (.int p5), .val (.int (1 : Int32)), .val (.ref b475), .unset, .unset, .unset, .unset, .unset, .unset, .unset, .unset, .unset] [(.int c_0), (.int (0 : Int32)), (.ref b475)])) rfl rfl (hb hby at_26)
      have hSk478 := Nat.le_trans hSk475 (Keep.of_wr W478).1
      have EX478 := own_ext_wr EX475 W478 sz_b475
      have KP478 := Keep.wr KP475 W478 (Or.inr sz_b475)
      have V478 : Arv Z h478 b475 k475 .char (1 : Int32) [(.int (nar .char c_0))] (.int (0 : Int32)) := Arv.set Ar477 q477 S477 N477_ H477_ G477 (fits_nar_char _) W478 0 rfl (Nat.le_of_ble_eq_true rfl)
      have N478 := Fr.snoc X478 N476 gn_b475
      obtain ⟨T479, h479, X479, e479, E479, A479, D479, -, st479⟩ := newO X478 hx hZ hown (own_q hw 2 rfl) (own_q hw 3 rfl) (own_q hw 4 rfl) e478 (g := (mkF m 70 #[.val (.int p0), .val (.int p1), .val (.int p2), .val (.int p3), .val (.int p4), .val (.int p5), .val (.int (1 : Int32)), .val (.ref b475), .unset, .unset, .unset, .unset, .unset, .unset, .unset, .unset, .unset] [])) rfl (hb hby at_70) (by decide) (by decide)
      obtain ⟨b479, g479⟩ : ∃ z, z = h478.size := ⟨_, rfl⟩
      rw [← g479] at A479 D479 st479
      have sz_b479 : h0.size ≤ b479 := Nat.le_trans KP478.1 (Nat.le_of_eq g479.symm)
      have gn_b479 : n0 ≤ b479 := Nat.le_trans Z0 sz_b479
      have ne_b475_b479 : b475 ≠ b479 := Nat.ne_of_lt (Nat.lt_of_lt_of_le V478.lt (Nat.le_of_eq g479.symm))
      have hSk479 := Nat.le_trans hSk478 E479.1
      have EX479 := own_ext_trans EX478 E479
      have KP479 := Keep.ext KP478 E479
      have F479_value : Fld Z h479 b479 "java/lang/String" "value" "[B" .null := D479 (Or.inr (own_q hw 17 rfl)) (ty := (.array .byte)) (by decide)
      have F479_coder : Fld Z h479 b479 "java/lang/String" "coder" "B" (.int (0 : Int32)) := D479 (Or.inr (own_q hw 18 rfl)) (ty := .byte) (by decide)
      have Fx480 := (V478.ext E479)
      obtain ⟨_, _, ⟨T481, L481, k481, n481⟩, -, X481, ⟨Lc481, hQ481, l481, y481, z481⟩, st481⟩ := X479.specialBack hx (y := (⟨"java/lang/String", "<init>", "([C)V"⟩ : MethodName)) rfl hown (mvT hZ (own_q hw 5 rfl)) (mvT hZ (own_q hw 6 rfl)) (mvT hZ (own_q hw 7 rfl)) (by decide) (backOf (W := 1) (rm_si1_1 l Z a0 hw [] b479 b475 h479 n0 (Nat.le_trans Z0 EX479.1) A479 F479_value F479_coder gn_b479 cst fmt (hT.ext EX479) k475 (nar .char c_0) Fx480 (own_narCle ⟨hcl_0, hch_0⟩)) hZ (own_q hw 7 rfl) (own_q hw 4 rfl) (by decide) (by decide)) (g := (mkF m 76 #[.val (.int p0), .val (.int p1), .val (.int p2), .val (.int p3), .val (.int p4), .val (.int p5), .val (.int (1 : Int32)), .val (.ref b475), .unset, .unset, .unset, .unset, .unset, .unset, .unset, .unset, .unset] [(.ref b475), (.ref b479), (.ref b479)])) rfl (by rw [hml]; rfl) (Steps.refl _) (a := b479) (argsL := [(.ref b475)]) (rest := [(.ref b479)]) (lenOf pd_641 rfl) rfl (by show 2 * 0 + _ ≤ _; exact Nat.le_of_eq rfl) (hb hby at_76) (fun _ _ => ⟨rfl, e479, (by decide : 2 + 1 ≤ _), (by decide : 5 + 1 ≤ _)⟩)
      dsimp only [Pt.U, Pt.locs, Pt.cells, Pt.slots] at X481 l481 y481 z481 st481 hQ481
      subst l481 y481 z481
      obtain ⟨rfl, N481q, K481, vb, kb, hSt⟩ := hQ481
      have N481 := Fr.app N478 N481q
      have e481 : T481.heap = T481.heap := rfl
      have hSk481 := Nat.le_trans hSk479 K481.1
      have EX481 := own_ext_keep EX479 K481 (allS sz_b479 all0)
      have KP481 := Keep.trans KP479 K481 (allS (Or.inr sz_b479) all0)
      refine ⟨s.vm, T481, _, T481.heap, _, (1 : Int32), b475, b479, vb, kb, (own_ch [(nar .char c_0)]), X481.mono (by decide) (by decide), e481, N481, EX481, hSi0, hSk481, hZ, hown, hSt, by decide, by decide, fun t kt => ?_⟩
      refine ck407 _ ?_
      refine Jvm.RoadKit.iremM (g := (mkF m 5 #[.val (.int p0), .val (.int p1), .val (.int p2), .val (.int p3), .val (.int p4), .val (.int p5), .unset, .unset, .unset, .unset, .unset, .unset, .unset, .unset, .unset, .unset, .unset] [(.int (5 : Int32)), (.int (p0 &&& (2147483647 : Int32)))])) X0 hx rfl (hb hby at_5) rfl (by decide) ?_
      show Steps p.tables e below (s₁.setTop (mkF m 6 #[.val (.int p0), .val (.int p1), .val (.int p2), .val (.int p3), .val (.int p4), .val (.int p5), .unset, .unset, .unset, .unset, .unset, .unset, .unset, .unset, .unset, .unset, .unset] [(.int ((p0 &&& (2147483647 : Int32)) % (5 : Int32)))])) _
      rw [hv466]
      show Steps p.tables e below (s₁.setTop (mkF m 6 #[.val (.int p0), .val (.int p1), .val (.int p2), .val (.int p3), .val (.int p4), .val (.int p5), .unset, .unset, .unset, .unset, .unset, .unset, .unset, .unset, .unset, .unset, .unset] [(.int (1 : Int32))])) _
      refine XS.istore X0.here hx rfl (hb hby at_6) rfl (l' := #[.val (.int p0), .val (.int p1), .val (.int p2), .val (.int p3), .val (.int p4), .val (.int p5), .val (.int (1 : Int32)), .unset, .unset, .unset, .unset, .unset, .unset, .unset, .unset, .unset, .unset]) rfl ?_
      refine XS.iload X0.here hx rfl (hb hby at_8) rfl ?_
      refine st475 _ ?_
      show Steps p.tables e below (T475.setTop (mkF m 12 #[.val (.int p0), .val (.int p1), .val (.int p2), .val (.int p3), .val (.int p4), .val (.int p5), .val (.int (1 : Int32)), .unset, .unset, .unset, .unset, .unset, .unset, .unset, .unset, .unset, .unset] [(.ref b475)])) _
      refine XS.astore X475.here hx rfl (hb hby at_12) rfl rfl (l' := #[.val (.int p0), .val (.int p1), .val (.int p2), .val (.int p3), .val (.int p4), .val (.int p5), .val (.int (1 : Int32)), .val (.ref b475), .unset, .unset, .unset, .unset, .unset, .unset, .unset, .unset, .unset]) rfl ?_
      refine XS.iload X475.here hx rfl (hb hby at_14) rfl ?_
      refine XS.ifNo X475.here hx rfl (hb hby at_16) rfl ((if0 _ _).trans (tlt (by decide : (0 : Int32) < (1 : Int32))).2.2.2) ?_
      refine XS.aload X475.here hx rfl (hb hby at_19) rfl rfl ?_
      refine XS.iconst X475.here hx rfl (hb hby at_21) ?_
      refine XS.iloadN X475.here hx rfl (hb hby at_22) rfl ?_
      refine st476 _ ?_
      show Steps p.tables e below (T476.setTop (mkF m 26 #[.val (.int p0), .val (.int p1), .val (.int p2), .val (.int p3), .val (.int p4), .val (.int p5), .val (.int (1 : Int32)), .val (.ref b475), .unset, .unset, .unset, .unset, .unset, .unset, .unset, .unset, .unset] [(.int c_0), (.int (0 : Int32)), (.ref b475)])) _
      refine st478 _ ?_
      show Steps p.tables e below (T478.setTop (mkF m 27 #[.val (.int p0), .val (.int p1), .val (.int p2), .val (.int p3), .val (.int p4), .val (.int p5), .val (.int (1 : Int32)), .val (.ref b475), .unset, .unset, .unset, .unset, .unset, .unset, .unset, .unset, .unset] [])) _
      refine XS.iload X478.here hx rfl (hb hby at_27) rfl ?_
      refine XS.iconst X478.here hx rfl (hb hby at_29) ?_
      refine XS.icmpYes X478.here hx rfl (pc0 := 30) (pc' := 41) rfl (hb hby at_30) rfl (flt (by decide : ¬ ((1 : Int32) < (1 : Int32)))).2.2.2 (by decide) (by decide) ?_
      refine XS.iload X478.here hx rfl (hb hby at_41) rfl ?_
      refine XS.iconst X478.here hx rfl (hb hby at_43) ?_
      refine XS.icmpYes X478.here hx rfl (pc0 := 44) (pc' := 55) rfl (hb hby at_44) rfl (flt (by decide : ¬ ((2 : Int32) < (1 : Int32)))).2.2.2 (by decide) (by decide) ?_
      refine XS.iload X478.here hx rfl (hb hby at_55) rfl ?_
      refine XS.iconst X478.here hx rfl (hb hby at_57) ?_
      refine XS.icmpYes X478.here hx rfl (pc0 := 58) (pc' := 70) rfl (hb hby at_58) rfl (flt (by decide : ¬ ((3 : Int32) < (1 : Int32)))).2.2.2 (by decide) (by decide) ?_
      refine st479 _ ?_
      show Steps p.tables e below (T479.setTop (mkF m 73 #[.val (.int p0), .val (.int p1), .val (.int p2), .val (.int p3), .val (.int p4), .val (.int p5), .val (.int (1 : Int32)), .val (.ref b475), .unset, .unset, .unset, .unset, .unset, .unset, .unset, .unset, .unset] [(.ref b479)])) _
      refine XS.dup X479.here hx rfl (hb hby at_73) rfl rfl ?_
      refine XS.aload X479.here hx rfl (hb hby at_74) rfl rfl ?_
      refine st481.trans ?_
      exact kt
    · -- (2 : Int32)
      obtain ⟨T482, h482, k482, X482, e482, E482, A482, st482⟩ := newP X0 hx hZ (own_q hw 1 rfl) e0 (g := (mkF m 10 #[.val (.int p0), .val (.int p1), .val (.int p2), .val (.int p3), .val (.int p4), .val (.int p5), .val (.int (2 : Int32)), .unset, .unset, .unset, .unset, .unset, .unset, .unset, .unset, .unset, .unset] [(.int (2 : Int32))])) rfl (hb hby at_10) rfl (by decide) (cap := 2) (by decide) (by decide) (by decide) (by decide)
      obtain ⟨b482, g482⟩ : ∃ z, z = h0.size := ⟨_, rfl⟩
      rw [← g482] at A482 st482
      have sz_b482 : h0.size ≤ b482 := Nat.le_trans (Keep.refl h0 []).1 (Nat.le_of_eq g482.symm)
      have gn_b482 : n0 ≤ b482 := Nat.le_trans Z0 sz_b482
      have hSk482 := Nat.le_trans hSk0 E482.1
      have EX482 := own_ext_trans (own_ext_refl h0) E482
      have KP482 := Keep.ext (Keep.refl h0 []) E482
      have V482 : Arv Z h482 b482 k482 .char (2 : Int32) [(.int (0 : Int32)), (.int (0 : Int32))] (.int (0 : Int32)) := (Arv.new A482 (by decide)).pad (pad_rep [] (.int (0 : Int32)) 2)
      obtain ⟨_, _, ⟨T483, L483, k483, n483⟩, -, X483, ⟨Lc483, hQ483, l483, y483, z483⟩, st483⟩ := Jvm.LawKit.callS X482 hx (y := (⟨"com/example/rowstrata/rowstrata/type/NumeralIsWholePinLaw", "chr", "(I)C"⟩ : MethodName)) hown (mvT hZ (own_q hw 87 rfl)) (mvT hZ (own_q hw 88 rfl)) (mvT hZ (own_q hw 25 rfl)) (mvT hZ (own_q hw 89 rfl)) (by decide) (backOf (W := 2) (rm_chr l Z a0 hw [] p1 h482 n0 (Nat.le_trans Z0 EX482.1)) hZ (own_q hw 89 rfl) (own_q hw 25 rfl) (by decide) (by decide)) (g := (mkF m 23 #[.val (.int p0), .val (.int p1), .val (.int p2), .val (.int p3), .val (.int p4), .val (.int p5), .val (.int (2 : Int32)), .val (.ref b482), .unset, .unset, .unset, .unset, .unset, .unset, .unset, .unset, .unset] [(.int p1), (.int (0 : Int32)), (.ref b482)])) rfl (by rw [hml]; rfl) (argsL := [(.int p1)]) (rest := [(.int (0 : Int32)), (.ref b482)]) (lenOf pd_68 rfl) rfl (by show 2 * 0 + _ ≤ _; exact Nat.le_of_eq rfl) (hb hby at_23) (fun _ _ => ⟨rfl, e482, (by decide : 1 + 0 ≤ _), (by decide : 2 + 0 ≤ _)⟩)
      dsimp only [Pt.U, Pt.locs, Pt.cells, Pt.slots] at X483 l483 y483 z483 st483 hQ483
      subst l483 y483 z483
      obtain ⟨c_0, rfl, N483q, e483, hcl_0, hch_0⟩ := hQ483
      have N483 := Fr.app N0 N483q
      have Vc484 := V482
      obtain ⟨cl484, Ar484, q484, S484, N484_, H484_, G484⟩ := Vc484
      have hin484 : ¬ ((0 : Int32) < 0 ∨ cl484.slots.size ≤ ((0 : Int32)).toNatClampNeg) := inb_of S484 ⟨by decide, by decide⟩
      obtain ⟨T485, h485, X485, e485, W485, st485⟩ := stC X483 hx hZ e483 Ar484 (j := (0 : Int32)) hin484 (g := (mkF m 26 #[.val (.int p0), .val (.int p1), .val (.int p2), .val (.int p3), .val (.int p4), .val (.int p5), .val (.int (2 : Int32)), .val (.ref b482), .unset, .unset, .unset, .unset, .unset, .unset, .unset, .unset, .unset] [(.int c_0), (.int (0 : Int32)), (.ref b482)])) rfl rfl (hb hby at_26)
      have hSk485 := Nat.le_trans hSk482 (Keep.of_wr W485).1
      have EX485 := own_ext_wr EX482 W485 sz_b482
      have KP485 := Keep.wr KP482 W485 (Or.inr sz_b482)
      have V485 : Arv Z h485 b482 k482 .char (2 : Int32) [(.int (nar .char c_0)), (.int (0 : Int32))] (.int (0 : Int32)) := Arv.set Ar484 q484 S484 N484_ H484_ G484 (fits_nar_char _) W485 0 rfl (Nat.le_of_ble_eq_true rfl)
      have N485 := Fr.snoc X485 N483 gn_b482
      obtain ⟨_, _, ⟨T486, L486, k486, n486⟩, -, X486, ⟨Lc486, hQ486, l486, y486, z486⟩, st486⟩ := Jvm.LawKit.callS X485 hx (y := (⟨"com/example/rowstrata/rowstrata/type/NumeralIsWholePinLaw", "chr", "(I)C"⟩ : MethodName)) hown (mvT hZ (own_q hw 87 rfl)) (mvT hZ (own_q hw 88 rfl)) (mvT hZ (own_q hw 25 rfl)) (mvT hZ (own_q hw 89 rfl)) (by decide) (backOf (W := 2) (rm_chr l Z a0 hw [] p2 h485 n0 (Nat.le_trans Z0 EX485.1)) hZ (own_q hw 89 rfl) (own_q hw 25 rfl) (by decide) (by decide)) (g := (mkF m 37 #[.val (.int p0), .val (.int p1), .val (.int p2), .val (.int p3), .val (.int p4), .val (.int p5), .val (.int (2 : Int32)), .val (.ref b482), .unset, .unset, .unset, .unset, .unset, .unset, .unset, .unset, .unset] [(.int p2), (.int (1 : Int32)), (.ref b482)])) rfl (by rw [hml]; rfl) (argsL := [(.int p2)]) (rest := [(.int (1 : Int32)), (.ref b482)]) (lenOf pd_68 rfl) rfl (by show 2 * 0 + _ ≤ _; exact Nat.le_of_eq rfl) (hb hby at_37) (fun _ _ => ⟨rfl, e485, (by decide : 1 + 0 ≤ _), (by decide : 2 + 0 ≤ _)⟩)
      dsimp only [Pt.U, Pt.locs, Pt.cells, Pt.slots] at X486 l486 y486 z486 st486 hQ486
      subst l486 y486 z486
      obtain ⟨c_1, rfl, N486q, e486, hcl_1, hch_1⟩ := hQ486
      have N486 := Fr.app N485 N486q
      have Vc487 := V485
      obtain ⟨cl487, Ar487, q487, S487, N487_, H487_, G487⟩ := Vc487
      have hin487 : ¬ ((1 : Int32) < 0 ∨ cl487.slots.size ≤ ((1 : Int32)).toNatClampNeg) := inb_of S487 ⟨by decide, by decide⟩
      obtain ⟨T488, h488, X488, e488, W488, st488⟩ := stC X486 hx hZ e486 Ar487 (j := (1 : Int32)) hin487 (g := (mkF m 40 #[.val (.int p0), .val (.int p1), .val (.int p2), .val (.int p3), .val (.int p4), .val (.int p5), .val (.int (2 : Int32)), .val (.ref b482), .unset, .unset, .unset, .unset, .unset, .unset, .unset, .unset, .unset] [(.int c_1), (.int (1 : Int32)), (.ref b482)])) rfl rfl (hb hby at_40)
      have hSk488 := Nat.le_trans hSk485 (Keep.of_wr W488).1
      have EX488 := own_ext_wr EX485 W488 sz_b482
      have KP488 := Keep.wr KP485 W488 (Or.inr sz_b482)
      have V488 : Arv Z h488 b482 k482 .char (2 : Int32) [(.int (nar .char c_0)), (.int (nar .char c_1))] (.int (0 : Int32)) := Arv.set Ar487 q487 S487 N487_ H487_ G487 (fits_nar_char _) W488 1 rfl (Nat.le_of_ble_eq_true rfl)
      have N488 := Fr.snoc X488 N486 gn_b482
      obtain ⟨T489, h489, X489, e489, E489, A489, D489, -, st489⟩ := newO X488 hx hZ hown (own_q hw 2 rfl) (own_q hw 3 rfl) (own_q hw 4 rfl) e488 (g := (mkF m 70 #[.val (.int p0), .val (.int p1), .val (.int p2), .val (.int p3), .val (.int p4), .val (.int p5), .val (.int (2 : Int32)), .val (.ref b482), .unset, .unset, .unset, .unset, .unset, .unset, .unset, .unset, .unset] [])) rfl (hb hby at_70) (by decide) (by decide)
      obtain ⟨b489, g489⟩ : ∃ z, z = h488.size := ⟨_, rfl⟩
      rw [← g489] at A489 D489 st489
      have sz_b489 : h0.size ≤ b489 := Nat.le_trans KP488.1 (Nat.le_of_eq g489.symm)
      have gn_b489 : n0 ≤ b489 := Nat.le_trans Z0 sz_b489
      have ne_b482_b489 : b482 ≠ b489 := Nat.ne_of_lt (Nat.lt_of_lt_of_le V488.lt (Nat.le_of_eq g489.symm))
      have hSk489 := Nat.le_trans hSk488 E489.1
      have EX489 := own_ext_trans EX488 E489
      have KP489 := Keep.ext KP488 E489
      have F489_value : Fld Z h489 b489 "java/lang/String" "value" "[B" .null := D489 (Or.inr (own_q hw 17 rfl)) (ty := (.array .byte)) (by decide)
      have F489_coder : Fld Z h489 b489 "java/lang/String" "coder" "B" (.int (0 : Int32)) := D489 (Or.inr (own_q hw 18 rfl)) (ty := .byte) (by decide)
      have Fx490 := (V488.ext E489)
      obtain ⟨_, _, ⟨T491, L491, k491, n491⟩, -, X491, ⟨Lc491, hQ491, l491, y491, z491⟩, st491⟩ := X489.specialBack hx (y := (⟨"java/lang/String", "<init>", "([C)V"⟩ : MethodName)) rfl hown (mvT hZ (own_q hw 5 rfl)) (mvT hZ (own_q hw 6 rfl)) (mvT hZ (own_q hw 7 rfl)) (by decide) (backOf (W := 1) (rm_si1_2 l Z a0 hw [] b489 b482 h489 n0 (Nat.le_trans Z0 EX489.1) A489 F489_value F489_coder gn_b489 cst fmt (hT.ext EX489) k482 (nar .char c_0) (nar .char c_1) Fx490 ⟨own_narCle ⟨hcl_0, hch_0⟩, own_narCle ⟨hcl_1, hch_1⟩⟩) hZ (own_q hw 7 rfl) (own_q hw 4 rfl) (by decide) (by decide)) (g := (mkF m 76 #[.val (.int p0), .val (.int p1), .val (.int p2), .val (.int p3), .val (.int p4), .val (.int p5), .val (.int (2 : Int32)), .val (.ref b482), .unset, .unset, .unset, .unset, .unset, .unset, .unset, .unset, .unset] [(.ref b482), (.ref b489), (.ref b489)])) rfl (by rw [hml]; rfl) (Steps.refl _) (a := b489) (argsL := [(.ref b482)]) (rest := [(.ref b489)]) (lenOf pd_641 rfl) rfl (by show 2 * 0 + _ ≤ _; exact Nat.le_of_eq rfl) (hb hby at_76) (fun _ _ => ⟨rfl, e489, (by decide : 2 + 1 ≤ _), (by decide : 6 + 2 ≤ _)⟩)
      dsimp only [Pt.U, Pt.locs, Pt.cells, Pt.slots] at X491 l491 y491 z491 st491 hQ491
      subst l491 y491 z491
      obtain ⟨rfl, N491q, K491, vb, kb, hSt⟩ := hQ491
      have N491 := Fr.app N488 N491q
      have e491 : T491.heap = T491.heap := rfl
      have hSk491 := Nat.le_trans hSk489 K491.1
      have EX491 := own_ext_keep EX489 K491 (allS sz_b489 all0)
      have KP491 := Keep.trans KP489 K491 (allS (Or.inr sz_b489) all0)
      refine ⟨s.vm, T491, _, T491.heap, _, (2 : Int32), b482, b489, vb, kb, (own_ch [(nar .char c_0), (nar .char c_1)]), X491.mono (by decide) (by decide), e491, N491, EX491, hSi0, hSk491, hZ, hown, hSt, by decide, by decide, fun t kt => ?_⟩
      refine ck407 _ ?_
      refine Jvm.RoadKit.iremM (g := (mkF m 5 #[.val (.int p0), .val (.int p1), .val (.int p2), .val (.int p3), .val (.int p4), .val (.int p5), .unset, .unset, .unset, .unset, .unset, .unset, .unset, .unset, .unset, .unset, .unset] [(.int (5 : Int32)), (.int (p0 &&& (2147483647 : Int32)))])) X0 hx rfl (hb hby at_5) rfl (by decide) ?_
      show Steps p.tables e below (s₁.setTop (mkF m 6 #[.val (.int p0), .val (.int p1), .val (.int p2), .val (.int p3), .val (.int p4), .val (.int p5), .unset, .unset, .unset, .unset, .unset, .unset, .unset, .unset, .unset, .unset, .unset] [(.int ((p0 &&& (2147483647 : Int32)) % (5 : Int32)))])) _
      rw [hv467]
      show Steps p.tables e below (s₁.setTop (mkF m 6 #[.val (.int p0), .val (.int p1), .val (.int p2), .val (.int p3), .val (.int p4), .val (.int p5), .unset, .unset, .unset, .unset, .unset, .unset, .unset, .unset, .unset, .unset, .unset] [(.int (2 : Int32))])) _
      refine XS.istore X0.here hx rfl (hb hby at_6) rfl (l' := #[.val (.int p0), .val (.int p1), .val (.int p2), .val (.int p3), .val (.int p4), .val (.int p5), .val (.int (2 : Int32)), .unset, .unset, .unset, .unset, .unset, .unset, .unset, .unset, .unset, .unset]) rfl ?_
      refine XS.iload X0.here hx rfl (hb hby at_8) rfl ?_
      refine st482 _ ?_
      show Steps p.tables e below (T482.setTop (mkF m 12 #[.val (.int p0), .val (.int p1), .val (.int p2), .val (.int p3), .val (.int p4), .val (.int p5), .val (.int (2 : Int32)), .unset, .unset, .unset, .unset, .unset, .unset, .unset, .unset, .unset, .unset] [(.ref b482)])) _
      refine XS.astore X482.here hx rfl (hb hby at_12) rfl rfl (l' := #[.val (.int p0), .val (.int p1), .val (.int p2), .val (.int p3), .val (.int p4), .val (.int p5), .val (.int (2 : Int32)), .val (.ref b482), .unset, .unset, .unset, .unset, .unset, .unset, .unset, .unset, .unset]) rfl ?_
      refine XS.iload X482.here hx rfl (hb hby at_14) rfl ?_
      refine XS.ifNo X482.here hx rfl (hb hby at_16) rfl ((if0 _ _).trans (tlt (by decide : (0 : Int32) < (2 : Int32))).2.2.2) ?_
      refine XS.aload X482.here hx rfl (hb hby at_19) rfl rfl ?_
      refine XS.iconst X482.here hx rfl (hb hby at_21) ?_
      refine XS.iloadN X482.here hx rfl (hb hby at_22) rfl ?_
      refine st483 _ ?_
      show Steps p.tables e below (T483.setTop (mkF m 26 #[.val (.int p0), .val (.int p1), .val (.int p2), .val (.int p3), .val (.int p4), .val (.int p5), .val (.int (2 : Int32)), .val (.ref b482), .unset, .unset, .unset, .unset, .unset, .unset, .unset, .unset, .unset] [(.int c_0), (.int (0 : Int32)), (.ref b482)])) _
      refine st485 _ ?_
      show Steps p.tables e below (T485.setTop (mkF m 27 #[.val (.int p0), .val (.int p1), .val (.int p2), .val (.int p3), .val (.int p4), .val (.int p5), .val (.int (2 : Int32)), .val (.ref b482), .unset, .unset, .unset, .unset, .unset, .unset, .unset, .unset, .unset] [])) _
      refine XS.iload X485.here hx rfl (hb hby at_27) rfl ?_
      refine XS.iconst X485.here hx rfl (hb hby at_29) ?_
      refine XS.icmpNo X485.here hx rfl (hb hby at_30) rfl (tlt (by decide : (1 : Int32) < (2 : Int32))).2.2.2 ?_
      refine XS.aload X485.here hx rfl (hb hby at_33) rfl rfl ?_
      refine XS.iconst X485.here hx rfl (hb hby at_35) ?_
      refine XS.iloadN X485.here hx rfl (hb hby at_36) rfl ?_
      refine st486 _ ?_
      show Steps p.tables e below (T486.setTop (mkF m 40 #[.val (.int p0), .val (.int p1), .val (.int p2), .val (.int p3), .val (.int p4), .val (.int p5), .val (.int (2 : Int32)), .val (.ref b482), .unset, .unset, .unset, .unset, .unset, .unset, .unset, .unset, .unset] [(.int c_1), (.int (1 : Int32)), (.ref b482)])) _
      refine st488 _ ?_
      show Steps p.tables e below (T488.setTop (mkF m 41 #[.val (.int p0), .val (.int p1), .val (.int p2), .val (.int p3), .val (.int p4), .val (.int p5), .val (.int (2 : Int32)), .val (.ref b482), .unset, .unset, .unset, .unset, .unset, .unset, .unset, .unset, .unset] [])) _
      refine XS.iload X488.here hx rfl (hb hby at_41) rfl ?_
      refine XS.iconst X488.here hx rfl (hb hby at_43) ?_
      refine XS.icmpYes X488.here hx rfl (pc0 := 44) (pc' := 55) rfl (hb hby at_44) rfl (flt (by decide : ¬ ((2 : Int32) < (2 : Int32)))).2.2.2 (by decide) (by decide) ?_
      refine XS.iload X488.here hx rfl (hb hby at_55) rfl ?_
      refine XS.iconst X488.here hx rfl (hb hby at_57) ?_
      refine XS.icmpYes X488.here hx rfl (pc0 := 58) (pc' := 70) rfl (hb hby at_58) rfl (flt (by decide : ¬ ((3 : Int32) < (2 : Int32)))).2.2.2 (by decide) (by decide) ?_
      refine st489 _ ?_
      show Steps p.tables e below (T489.setTop (mkF m 73 #[.val (.int p0), .val (.int p1), .val (.int p2), .val (.int p3), .val (.int p4), .val (.int p5), .val (.int (2 : Int32)), .val (.ref b482), .unset, .unset, .unset, .unset, .unset, .unset, .unset, .unset, .unset] [(.ref b489)])) _
      refine XS.dup X489.here hx rfl (hb hby at_73) rfl rfl ?_
      refine XS.aload X489.here hx rfl (hb hby at_74) rfl rfl ?_
      refine st491.trans ?_
      exact kt
    · -- (3 : Int32)
      obtain ⟨T492, h492, k492, X492, e492, E492, A492, st492⟩ := newP X0 hx hZ (own_q hw 1 rfl) e0 (g := (mkF m 10 #[.val (.int p0), .val (.int p1), .val (.int p2), .val (.int p3), .val (.int p4), .val (.int p5), .val (.int (3 : Int32)), .unset, .unset, .unset, .unset, .unset, .unset, .unset, .unset, .unset, .unset] [(.int (3 : Int32))])) rfl (hb hby at_10) rfl (by decide) (cap := 3) (by decide) (by decide) (by decide) (by decide)
      obtain ⟨b492, g492⟩ : ∃ z, z = h0.size := ⟨_, rfl⟩
      rw [← g492] at A492 st492
      have sz_b492 : h0.size ≤ b492 := Nat.le_trans (Keep.refl h0 []).1 (Nat.le_of_eq g492.symm)
      have gn_b492 : n0 ≤ b492 := Nat.le_trans Z0 sz_b492
      have hSk492 := Nat.le_trans hSk0 E492.1
      have EX492 := own_ext_trans (own_ext_refl h0) E492
      have KP492 := Keep.ext (Keep.refl h0 []) E492
      have V492 : Arv Z h492 b492 k492 .char (3 : Int32) [(.int (0 : Int32)), (.int (0 : Int32)), (.int (0 : Int32))] (.int (0 : Int32)) := (Arv.new A492 (by decide)).pad (pad_rep [] (.int (0 : Int32)) 3)
      obtain ⟨_, _, ⟨T493, L493, k493, n493⟩, -, X493, ⟨Lc493, hQ493, l493, y493, z493⟩, st493⟩ := Jvm.LawKit.callS X492 hx (y := (⟨"com/example/rowstrata/rowstrata/type/NumeralIsWholePinLaw", "chr", "(I)C"⟩ : MethodName)) hown (mvT hZ (own_q hw 87 rfl)) (mvT hZ (own_q hw 88 rfl)) (mvT hZ (own_q hw 25 rfl)) (mvT hZ (own_q hw 89 rfl)) (by decide) (backOf (W := 2) (rm_chr l Z a0 hw [] p1 h492 n0 (Nat.le_trans Z0 EX492.1)) hZ (own_q hw 89 rfl) (own_q hw 25 rfl) (by decide) (by decide)) (g := (mkF m 23 #[.val (.int p0), .val (.int p1), .val (.int p2), .val (.int p3), .val (.int p4), .val (.int p5), .val (.int (3 : Int32)), .val (.ref b492), .unset, .unset, .unset, .unset, .unset, .unset, .unset, .unset, .unset] [(.int p1), (.int (0 : Int32)), (.ref b492)])) rfl (by rw [hml]; rfl) (argsL := [(.int p1)]) (rest := [(.int (0 : Int32)), (.ref b492)]) (lenOf pd_68 rfl) rfl (by show 2 * 0 + _ ≤ _; exact Nat.le_of_eq rfl) (hb hby at_23) (fun _ _ => ⟨rfl, e492, (by decide : 1 + 0 ≤ _), (by decide : 3 + 0 ≤ _)⟩)
      dsimp only [Pt.U, Pt.locs, Pt.cells, Pt.slots] at X493 l493 y493 z493 st493 hQ493
      subst l493 y493 z493
      obtain ⟨c_0, rfl, N493q, e493, hcl_0, hch_0⟩ := hQ493
      have N493 := Fr.app N0 N493q
      have Vc494 := V492
      obtain ⟨cl494, Ar494, q494, S494, N494_, H494_, G494⟩ := Vc494
      have hin494 : ¬ ((0 : Int32) < 0 ∨ cl494.slots.size ≤ ((0 : Int32)).toNatClampNeg) := inb_of S494 ⟨by decide, by decide⟩
      obtain ⟨T495, h495, X495, e495, W495, st495⟩ := stC X493 hx hZ e493 Ar494 (j := (0 : Int32)) hin494 (g := (mkF m 26 #[.val (.int p0), .val (.int p1), .val (.int p2), .val (.int p3), .val (.int p4), .val (.int p5), .val (.int (3 : Int32)), .val (.ref b492), .unset, .unset, .unset, .unset, .unset, .unset, .unset, .unset, .unset] [(.int c_0), (.int (0 : Int32)), (.ref b492)])) rfl rfl (hb hby at_26)
      have hSk495 := Nat.le_trans hSk492 (Keep.of_wr W495).1
      have EX495 := own_ext_wr EX492 W495 sz_b492
      have KP495 := Keep.wr KP492 W495 (Or.inr sz_b492)
      have V495 : Arv Z h495 b492 k492 .char (3 : Int32) [(.int (nar .char c_0)), (.int (0 : Int32)), (.int (0 : Int32))] (.int (0 : Int32)) := Arv.set Ar494 q494 S494 N494_ H494_ G494 (fits_nar_char _) W495 0 rfl (Nat.le_of_ble_eq_true rfl)
      have N495 := Fr.snoc X495 N493 gn_b492
      obtain ⟨_, _, ⟨T496, L496, k496, n496⟩, -, X496, ⟨Lc496, hQ496, l496, y496, z496⟩, st496⟩ := Jvm.LawKit.callS X495 hx (y := (⟨"com/example/rowstrata/rowstrata/type/NumeralIsWholePinLaw", "chr", "(I)C"⟩ : MethodName)) hown (mvT hZ (own_q hw 87 rfl)) (mvT hZ (own_q hw 88 rfl)) (mvT hZ (own_q hw 25 rfl)) (mvT hZ (own_q hw 89 rfl)) (by decide) (backOf (W := 2) (rm_chr l Z a0 hw [] p2 h495 n0 (Nat.le_trans Z0 EX495.1)) hZ (own_q hw 89 rfl) (own_q hw 25 rfl) (by decide) (by decide)) (g := (mkF m 37 #[.val (.int p0), .val (.int p1), .val (.int p2), .val (.int p3), .val (.int p4), .val (.int p5), .val (.int (3 : Int32)), .val (.ref b492), .unset, .unset, .unset, .unset, .unset, .unset, .unset, .unset, .unset] [(.int p2), (.int (1 : Int32)), (.ref b492)])) rfl (by rw [hml]; rfl) (argsL := [(.int p2)]) (rest := [(.int (1 : Int32)), (.ref b492)]) (lenOf pd_68 rfl) rfl (by show 2 * 0 + _ ≤ _; exact Nat.le_of_eq rfl) (hb hby at_37) (fun _ _ => ⟨rfl, e495, (by decide : 1 + 0 ≤ _), (by decide : 3 + 0 ≤ _)⟩)
      dsimp only [Pt.U, Pt.locs, Pt.cells, Pt.slots] at X496 l496 y496 z496 st496 hQ496
      subst l496 y496 z496
      obtain ⟨c_1, rfl, N496q, e496, hcl_1, hch_1⟩ := hQ496
      have N496 := Fr.app N495 N496q
      have Vc497 := V495
      obtain ⟨cl497, Ar497, q497, S497, N497_, H497_, G497⟩ := Vc497
      have hin497 : ¬ ((1 : Int32) < 0 ∨ cl497.slots.size ≤ ((1 : Int32)).toNatClampNeg) := inb_of S497 ⟨by decide, by decide⟩
      obtain ⟨T498, h498, X498, e498, W498, st498⟩ := stC X496 hx hZ e496 Ar497 (j := (1 : Int32)) hin497 (g := (mkF m 40 #[.val (.int p0), .val (.int p1), .val (.int p2), .val (.int p3), .val (.int p4), .val (.int p5), .val (.int (3 : Int32)), .val (.ref b492), .unset, .unset, .unset, .unset, .unset, .unset, .unset, .unset, .unset] [(.int c_1), (.int (1 : Int32)), (.ref b492)])) rfl rfl (hb hby at_40)
      have hSk498 := Nat.le_trans hSk495 (Keep.of_wr W498).1
      have EX498 := own_ext_wr EX495 W498 sz_b492
      have KP498 := Keep.wr KP495 W498 (Or.inr sz_b492)
      have V498 : Arv Z h498 b492 k492 .char (3 : Int32) [(.int (nar .char c_0)), (.int (nar .char c_1)), (.int (0 : Int32))] (.int (0 : Int32)) := Arv.set Ar497 q497 S497 N497_ H497_ G497 (fits_nar_char _) W498 1 rfl (Nat.le_of_ble_eq_true rfl)
      have N498 := Fr.snoc X498 N496 gn_b492
      obtain ⟨_, _, ⟨T499, L499, k499, n499⟩, -, X499, ⟨Lc499, hQ499, l499, y499, z499⟩, st499⟩ := Jvm.LawKit.callS X498 hx (y := (⟨"com/example/rowstrata/rowstrata/type/NumeralIsWholePinLaw", "chr", "(I)C"⟩ : MethodName)) hown (mvT hZ (own_q hw 87 rfl)) (mvT hZ (own_q hw 88 rfl)) (mvT hZ (own_q hw 25 rfl)) (mvT hZ (own_q hw 89 rfl)) (by decide) (backOf (W := 2) (rm_chr l Z a0 hw [] p3 h498 n0 (Nat.le_trans Z0 EX498.1)) hZ (own_q hw 89 rfl) (own_q hw 25 rfl) (by decide) (by decide)) (g := (mkF m 51 #[.val (.int p0), .val (.int p1), .val (.int p2), .val (.int p3), .val (.int p4), .val (.int p5), .val (.int (3 : Int32)), .val (.ref b492), .unset, .unset, .unset, .unset, .unset, .unset, .unset, .unset, .unset] [(.int p3), (.int (2 : Int32)), (.ref b492)])) rfl (by rw [hml]; rfl) (argsL := [(.int p3)]) (rest := [(.int (2 : Int32)), (.ref b492)]) (lenOf pd_68 rfl) rfl (by show 2 * 0 + _ ≤ _; exact Nat.le_of_eq rfl) (hb hby at_51) (fun _ _ => ⟨rfl, e498, (by decide : 1 + 0 ≤ _), (by decide : 3 + 0 ≤ _)⟩)
      dsimp only [Pt.U, Pt.locs, Pt.cells, Pt.slots] at X499 l499 y499 z499 st499 hQ499
      subst l499 y499 z499
      obtain ⟨c_2, rfl, N499q, e499, hcl_2, hch_2⟩ := hQ499
      have N499 := Fr.app N498 N499q
      have Vc500 := V498
      obtain ⟨cl500, Ar500, q500, S500, N500_, H500_, G500⟩ := Vc500
      have hin500 : ¬ ((2 : Int32) < 0 ∨ cl500.slots.size ≤ ((2 : Int32)).toNatClampNeg) := inb_of S500 ⟨by decide, by decide⟩
      obtain ⟨T501, h501, X501, e501, W501, st501⟩ := stC X499 hx hZ e499 Ar500 (j := (2 : Int32)) hin500 (g := (mkF m 54 #[.val (.int p0), .val (.int p1), .val (.int p2), .val (.int p3), .val (.int p4), .val (.int p5), .val (.int (3 : Int32)), .val (.ref b492), .unset, .unset, .unset, .unset, .unset, .unset, .unset, .unset, .unset] [(.int c_2), (.int (2 : Int32)), (.ref b492)])) rfl rfl (hb hby at_54)
      have hSk501 := Nat.le_trans hSk498 (Keep.of_wr W501).1
      have EX501 := own_ext_wr EX498 W501 sz_b492
      have KP501 := Keep.wr KP498 W501 (Or.inr sz_b492)
      have V501 : Arv Z h501 b492 k492 .char (3 : Int32) [(.int (nar .char c_0)), (.int (nar .char c_1)), (.int (nar .char c_2))] (.int (0 : Int32)) := Arv.set Ar500 q500 S500 N500_ H500_ G500 (fits_nar_char _) W501 2 rfl (Nat.le_of_ble_eq_true rfl)
      have N501 := Fr.snoc X501 N499 gn_b492
      obtain ⟨T502, h502, X502, e502, E502, A502, D502, -, st502⟩ := newO X501 hx hZ hown (own_q hw 2 rfl) (own_q hw 3 rfl) (own_q hw 4 rfl) e501 (g := (mkF m 70 #[.val (.int p0), .val (.int p1), .val (.int p2), .val (.int p3), .val (.int p4), .val (.int p5), .val (.int (3 : Int32)), .val (.ref b492), .unset, .unset, .unset, .unset, .unset, .unset, .unset, .unset, .unset] [])) rfl (hb hby at_70) (by decide) (by decide)
      obtain ⟨b502, g502⟩ : ∃ z, z = h501.size := ⟨_, rfl⟩
      rw [← g502] at A502 D502 st502
      have sz_b502 : h0.size ≤ b502 := Nat.le_trans KP501.1 (Nat.le_of_eq g502.symm)
      have gn_b502 : n0 ≤ b502 := Nat.le_trans Z0 sz_b502
      have ne_b492_b502 : b492 ≠ b502 := Nat.ne_of_lt (Nat.lt_of_lt_of_le V501.lt (Nat.le_of_eq g502.symm))
      have hSk502 := Nat.le_trans hSk501 E502.1
      have EX502 := own_ext_trans EX501 E502
      have KP502 := Keep.ext KP501 E502
      have F502_value : Fld Z h502 b502 "java/lang/String" "value" "[B" .null := D502 (Or.inr (own_q hw 17 rfl)) (ty := (.array .byte)) (by decide)
      have F502_coder : Fld Z h502 b502 "java/lang/String" "coder" "B" (.int (0 : Int32)) := D502 (Or.inr (own_q hw 18 rfl)) (ty := .byte) (by decide)
      have Fx503 := (V501.ext E502)
      obtain ⟨_, _, ⟨T504, L504, k504, n504⟩, -, X504, ⟨Lc504, hQ504, l504, y504, z504⟩, st504⟩ := X502.specialBack hx (y := (⟨"java/lang/String", "<init>", "([C)V"⟩ : MethodName)) rfl hown (mvT hZ (own_q hw 5 rfl)) (mvT hZ (own_q hw 6 rfl)) (mvT hZ (own_q hw 7 rfl)) (by decide) (backOf (W := 1) (rm_si1_3 l Z a0 hw [] b502 b492 h502 n0 (Nat.le_trans Z0 EX502.1) A502 F502_value F502_coder gn_b502 cst fmt (hT.ext EX502) k492 (nar .char c_0) (nar .char c_1) (nar .char c_2) Fx503 ⟨own_narCle ⟨hcl_0, hch_0⟩, own_narCle ⟨hcl_1, hch_1⟩, own_narCle ⟨hcl_2, hch_2⟩⟩) hZ (own_q hw 7 rfl) (own_q hw 4 rfl) (by decide) (by decide)) (g := (mkF m 76 #[.val (.int p0), .val (.int p1), .val (.int p2), .val (.int p3), .val (.int p4), .val (.int p5), .val (.int (3 : Int32)), .val (.ref b492), .unset, .unset, .unset, .unset, .unset, .unset, .unset, .unset, .unset] [(.ref b492), (.ref b502), (.ref b502)])) rfl (by rw [hml]; rfl) (Steps.refl _) (a := b502) (argsL := [(.ref b492)]) (rest := [(.ref b502)]) (lenOf pd_641 rfl) rfl (by show 2 * 0 + _ ≤ _; exact Nat.le_of_eq rfl) (hb hby at_76) (fun _ _ => ⟨rfl, e502, (by decide : 2 + 1 ≤ _), (by decide : 7 + 3 ≤ _)⟩)
      dsimp only [Pt.U, Pt.locs, Pt.cells, Pt.slots] at X504 l504 y504 z504 st504 hQ504
      subst l504 y504 z504
      obtain ⟨rfl, N504q, K504, vb, kb, hSt⟩ := hQ504
      have N504 := Fr.app N501 N504q
      have e504 : T504.heap = T504.heap := rfl
      have hSk504 := Nat.le_trans hSk502 K504.1
      have EX504 := own_ext_keep EX502 K504 (allS sz_b502 all0)
      have KP504 := Keep.trans KP502 K504 (allS (Or.inr sz_b502) all0)
      refine ⟨s.vm, T504, _, T504.heap, _, (3 : Int32), b492, b502, vb, kb, (own_ch [(nar .char c_0), (nar .char c_1), (nar .char c_2)]), X504.mono (by decide) (by decide), e504, N504, EX504, hSi0, hSk504, hZ, hown, hSt, by decide, by decide, fun t kt => ?_⟩
      refine ck407 _ ?_
      refine Jvm.RoadKit.iremM (g := (mkF m 5 #[.val (.int p0), .val (.int p1), .val (.int p2), .val (.int p3), .val (.int p4), .val (.int p5), .unset, .unset, .unset, .unset, .unset, .unset, .unset, .unset, .unset, .unset, .unset] [(.int (5 : Int32)), (.int (p0 &&& (2147483647 : Int32)))])) X0 hx rfl (hb hby at_5) rfl (by decide) ?_
      show Steps p.tables e below (s₁.setTop (mkF m 6 #[.val (.int p0), .val (.int p1), .val (.int p2), .val (.int p3), .val (.int p4), .val (.int p5), .unset, .unset, .unset, .unset, .unset, .unset, .unset, .unset, .unset, .unset, .unset] [(.int ((p0 &&& (2147483647 : Int32)) % (5 : Int32)))])) _
      rw [hv468]
      show Steps p.tables e below (s₁.setTop (mkF m 6 #[.val (.int p0), .val (.int p1), .val (.int p2), .val (.int p3), .val (.int p4), .val (.int p5), .unset, .unset, .unset, .unset, .unset, .unset, .unset, .unset, .unset, .unset, .unset] [(.int (3 : Int32))])) _
      refine XS.istore X0.here hx rfl (hb hby at_6) rfl (l' := #[.val (.int p0), .val (.int p1), .val (.int p2), .val (.int p3), .val (.int p4), .val (.int p5), .val (.int (3 : Int32)), .unset, .unset, .unset, .unset, .unset, .unset, .unset, .unset, .unset, .unset]) rfl ?_
      refine XS.iload X0.here hx rfl (hb hby at_8) rfl ?_
      refine st492 _ ?_
      show Steps p.tables e below (T492.setTop (mkF m 12 #[.val (.int p0), .val (.int p1), .val (.int p2), .val (.int p3), .val (.int p4), .val (.int p5), .val (.int (3 : Int32)), .unset, .unset, .unset, .unset, .unset, .unset, .unset, .unset, .unset, .unset] [(.ref b492)])) _
      refine XS.astore X492.here hx rfl (hb hby at_12) rfl rfl (l' := #[.val (.int p0), .val (.int p1), .val (.int p2), .val (.int p3), .val (.int p4), .val (.int p5), .val (.int (3 : Int32)), .val (.ref b492), .unset, .unset, .unset, .unset, .unset, .unset, .unset, .unset, .unset]) rfl ?_
      refine XS.iload X492.here hx rfl (hb hby at_14) rfl ?_
      refine XS.ifNo X492.here hx rfl (hb hby at_16) rfl ((if0 _ _).trans (tlt (by decide : (0 : Int32) < (3 : Int32))).2.2.2) ?_
      refine XS.aload X492.here hx rfl (hb hby at_19) rfl rfl ?_
      refine XS.iconst X492.here hx rfl (hb hby at_21) ?_
      refine XS.iloadN X492.here hx rfl (hb hby at_22) rfl ?_
      refine st493 _ ?_
      show Steps p.tables e below (T493.setTop (mkF m 26 #[.val (.int p0), .val (.int p1), .val (.int p2), .val (.int p3), .val (.int p4), .val (.int p5), .val (.int (3 : Int32)), .val (.ref b492), .unset, .unset, .unset, .unset, .unset, .unset, .unset, .unset, .unset] [(.int c_0), (.int (0 : Int32)), (.ref b492)])) _
      refine st495 _ ?_
      show Steps p.tables e below (T495.setTop (mkF m 27 #[.val (.int p0), .val (.int p1), .val (.int p2), .val (.int p3), .val (.int p4), .val (.int p5), .val (.int (3 : Int32)), .val (.ref b492), .unset, .unset, .unset, .unset, .unset, .unset, .unset, .unset, .unset] [])) _
      refine XS.iload X495.here hx rfl (hb hby at_27) rfl ?_
      refine XS.iconst X495.here hx rfl (hb hby at_29) ?_
      refine XS.icmpNo X495.here hx rfl (hb hby at_30) rfl (tlt (by decide : (1 : Int32) < (3 : Int32))).2.2.2 ?_
      refine XS.aload X495.here hx rfl (hb hby at_33) rfl rfl ?_
      refine XS.iconst X495.here hx rfl (hb hby at_35) ?_
      refine XS.iloadN X495.here hx rfl (hb hby at_36) rfl ?_
      refine st496 _ ?_
      show Steps p.tables e below (T496.setTop (mkF m 40 #[.val (.int p0), .val (.int p1), .val (.int p2), .val (.int p3), .val (.int p4), .val (.int p5), .val (.int (3 : Int32)), .val (.ref b492), .unset, .unset, .unset, .unset, .unset, .unset, .unset, .unset, .unset] [(.int c_1), (.int (1 : Int32)), (.ref b492)])) _
      refine st498 _ ?_
      show Steps p.tables e below (T498.setTop (mkF m 41 #[.val (.int p0), .val (.int p1), .val (.int p2), .val (.int p3), .val (.int p4), .val (.int p5), .val (.int (3 : Int32)), .val (.ref b492), .unset, .unset, .unset, .unset, .unset, .unset, .unset, .unset, .unset] [])) _
      refine XS.iload X498.here hx rfl (hb hby at_41) rfl ?_
      refine XS.iconst X498.here hx rfl (hb hby at_43) ?_
      refine XS.icmpNo X498.here hx rfl (hb hby at_44) rfl (tlt (by decide : (2 : Int32) < (3 : Int32))).2.2.2 ?_
      refine XS.aload X498.here hx rfl (hb hby at_47) rfl rfl ?_
      refine XS.iconst X498.here hx rfl (hb hby at_49) ?_
      refine XS.iloadN X498.here hx rfl (hb hby at_50) rfl ?_
      refine st499 _ ?_
      show Steps p.tables e below (T499.setTop (mkF m 54 #[.val (.int p0), .val (.int p1), .val (.int p2), .val (.int p3), .val (.int p4), .val (.int p5), .val (.int (3 : Int32)), .val (.ref b492), .unset, .unset, .unset, .unset, .unset, .unset, .unset, .unset, .unset] [(.int c_2), (.int (2 : Int32)), (.ref b492)])) _
      refine st501 _ ?_
      show Steps p.tables e below (T501.setTop (mkF m 55 #[.val (.int p0), .val (.int p1), .val (.int p2), .val (.int p3), .val (.int p4), .val (.int p5), .val (.int (3 : Int32)), .val (.ref b492), .unset, .unset, .unset, .unset, .unset, .unset, .unset, .unset, .unset] [])) _
      refine XS.iload X501.here hx rfl (hb hby at_55) rfl ?_
      refine XS.iconst X501.here hx rfl (hb hby at_57) ?_
      refine XS.icmpYes X501.here hx rfl (pc0 := 58) (pc' := 70) rfl (hb hby at_58) rfl (flt (by decide : ¬ ((3 : Int32) < (3 : Int32)))).2.2.2 (by decide) (by decide) ?_
      refine st502 _ ?_
      show Steps p.tables e below (T502.setTop (mkF m 73 #[.val (.int p0), .val (.int p1), .val (.int p2), .val (.int p3), .val (.int p4), .val (.int p5), .val (.int (3 : Int32)), .val (.ref b492), .unset, .unset, .unset, .unset, .unset, .unset, .unset, .unset, .unset] [(.ref b502)])) _
      refine XS.dup X502.here hx rfl (hb hby at_73) rfl rfl ?_
      refine XS.aload X502.here hx rfl (hb hby at_74) rfl rfl ?_
      refine st504.trans ?_
      exact kt
    · -- (4 : Int32)
      obtain ⟨T505, h505, k505, X505, e505, E505, A505, st505⟩ := newP X0 hx hZ (own_q hw 1 rfl) e0 (g := (mkF m 10 #[.val (.int p0), .val (.int p1), .val (.int p2), .val (.int p3), .val (.int p4), .val (.int p5), .val (.int (4 : Int32)), .unset, .unset, .unset, .unset, .unset, .unset, .unset, .unset, .unset, .unset] [(.int (4 : Int32))])) rfl (hb hby at_10) rfl (by decide) (cap := 4) (by decide) (by decide) (by decide) (by decide)
      obtain ⟨b505, g505⟩ : ∃ z, z = h0.size := ⟨_, rfl⟩
      rw [← g505] at A505 st505
      have sz_b505 : h0.size ≤ b505 := Nat.le_trans (Keep.refl h0 []).1 (Nat.le_of_eq g505.symm)
      have gn_b505 : n0 ≤ b505 := Nat.le_trans Z0 sz_b505
      have hSk505 := Nat.le_trans hSk0 E505.1
      have EX505 := own_ext_trans (own_ext_refl h0) E505
      have KP505 := Keep.ext (Keep.refl h0 []) E505
      have V505 : Arv Z h505 b505 k505 .char (4 : Int32) [(.int (0 : Int32)), (.int (0 : Int32)), (.int (0 : Int32)), (.int (0 : Int32))] (.int (0 : Int32)) := (Arv.new A505 (by decide)).pad (pad_rep [] (.int (0 : Int32)) 4)
      obtain ⟨_, _, ⟨T506, L506, k506, n506⟩, -, X506, ⟨Lc506, hQ506, l506, y506, z506⟩, st506⟩ := Jvm.LawKit.callS X505 hx (y := (⟨"com/example/rowstrata/rowstrata/type/NumeralIsWholePinLaw", "chr", "(I)C"⟩ : MethodName)) hown (mvT hZ (own_q hw 87 rfl)) (mvT hZ (own_q hw 88 rfl)) (mvT hZ (own_q hw 25 rfl)) (mvT hZ (own_q hw 89 rfl)) (by decide) (backOf (W := 2) (rm_chr l Z a0 hw [] p1 h505 n0 (Nat.le_trans Z0 EX505.1)) hZ (own_q hw 89 rfl) (own_q hw 25 rfl) (by decide) (by decide)) (g := (mkF m 23 #[.val (.int p0), .val (.int p1), .val (.int p2), .val (.int p3), .val (.int p4), .val (.int p5), .val (.int (4 : Int32)), .val (.ref b505), .unset, .unset, .unset, .unset, .unset, .unset, .unset, .unset, .unset] [(.int p1), (.int (0 : Int32)), (.ref b505)])) rfl (by rw [hml]; rfl) (argsL := [(.int p1)]) (rest := [(.int (0 : Int32)), (.ref b505)]) (lenOf pd_68 rfl) rfl (by show 2 * 0 + _ ≤ _; exact Nat.le_of_eq rfl) (hb hby at_23) (fun _ _ => ⟨rfl, e505, (by decide : 1 + 0 ≤ _), (by decide : 4 + 0 ≤ _)⟩)
      dsimp only [Pt.U, Pt.locs, Pt.cells, Pt.slots] at X506 l506 y506 z506 st506 hQ506
      subst l506 y506 z506
      obtain ⟨c_0, rfl, N506q, e506, hcl_0, hch_0⟩ := hQ506
      have N506 := Fr.app N0 N506q
      have Vc507 := V505
      obtain ⟨cl507, Ar507, q507, S507, N507_, H507_, G507⟩ := Vc507
      have hin507 : ¬ ((0 : Int32) < 0 ∨ cl507.slots.size ≤ ((0 : Int32)).toNatClampNeg) := inb_of S507 ⟨by decide, by decide⟩
      obtain ⟨T508, h508, X508, e508, W508, st508⟩ := stC X506 hx hZ e506 Ar507 (j := (0 : Int32)) hin507 (g := (mkF m 26 #[.val (.int p0), .val (.int p1), .val (.int p2), .val (.int p3), .val (.int p4), .val (.int p5), .val (.int (4 : Int32)), .val (.ref b505), .unset, .unset, .unset, .unset, .unset, .unset, .unset, .unset, .unset] [(.int c_0), (.int (0 : Int32)), (.ref b505)])) rfl rfl (hb hby at_26)
      have hSk508 := Nat.le_trans hSk505 (Keep.of_wr W508).1
      have EX508 := own_ext_wr EX505 W508 sz_b505
      have KP508 := Keep.wr KP505 W508 (Or.inr sz_b505)
      have V508 : Arv Z h508 b505 k505 .char (4 : Int32) [(.int (nar .char c_0)), (.int (0 : Int32)), (.int (0 : Int32)), (.int (0 : Int32))] (.int (0 : Int32)) := Arv.set Ar507 q507 S507 N507_ H507_ G507 (fits_nar_char _) W508 0 rfl (Nat.le_of_ble_eq_true rfl)
      have N508 := Fr.snoc X508 N506 gn_b505
      obtain ⟨_, _, ⟨T509, L509, k509, n509⟩, -, X509, ⟨Lc509, hQ509, l509, y509, z509⟩, st509⟩ := Jvm.LawKit.callS X508 hx (y := (⟨"com/example/rowstrata/rowstrata/type/NumeralIsWholePinLaw", "chr", "(I)C"⟩ : MethodName)) hown (mvT hZ (own_q hw 87 rfl)) (mvT hZ (own_q hw 88 rfl)) (mvT hZ (own_q hw 25 rfl)) (mvT hZ (own_q hw 89 rfl)) (by decide) (backOf (W := 2) (rm_chr l Z a0 hw [] p2 h508 n0 (Nat.le_trans Z0 EX508.1)) hZ (own_q hw 89 rfl) (own_q hw 25 rfl) (by decide) (by decide)) (g := (mkF m 37 #[.val (.int p0), .val (.int p1), .val (.int p2), .val (.int p3), .val (.int p4), .val (.int p5), .val (.int (4 : Int32)), .val (.ref b505), .unset, .unset, .unset, .unset, .unset, .unset, .unset, .unset, .unset] [(.int p2), (.int (1 : Int32)), (.ref b505)])) rfl (by rw [hml]; rfl) (argsL := [(.int p2)]) (rest := [(.int (1 : Int32)), (.ref b505)]) (lenOf pd_68 rfl) rfl (by show 2 * 0 + _ ≤ _; exact Nat.le_of_eq rfl) (hb hby at_37) (fun _ _ => ⟨rfl, e508, (by decide : 1 + 0 ≤ _), (by decide : 4 + 0 ≤ _)⟩)
      dsimp only [Pt.U, Pt.locs, Pt.cells, Pt.slots] at X509 l509 y509 z509 st509 hQ509
      subst l509 y509 z509
      obtain ⟨c_1, rfl, N509q, e509, hcl_1, hch_1⟩ := hQ509
      have N509 := Fr.app N508 N509q
      have Vc510 := V508
      obtain ⟨cl510, Ar510, q510, S510, N510_, H510_, G510⟩ := Vc510
      have hin510 : ¬ ((1 : Int32) < 0 ∨ cl510.slots.size ≤ ((1 : Int32)).toNatClampNeg) := inb_of S510 ⟨by decide, by decide⟩
      obtain ⟨T511, h511, X511, e511, W511, st511⟩ := stC X509 hx hZ e509 Ar510 (j := (1 : Int32)) hin510 (g := (mkF m 40 #[.val (.int p0), .val (.int p1), .val (.int p2), .val (.int p3), .val (.int p4), .val (.int p5), .val (.int (4 : Int32)), .val (.ref b505), .unset, .unset, .unset, .unset, .unset, .unset, .unset, .unset, .unset] [(.int c_1), (.int (1 : Int32)), (.ref b505)])) rfl rfl (hb hby at_40)
      have hSk511 := Nat.le_trans hSk508 (Keep.of_wr W511).1
      have EX511 := own_ext_wr EX508 W511 sz_b505
      have KP511 := Keep.wr KP508 W511 (Or.inr sz_b505)
      have V511 : Arv Z h511 b505 k505 .char (4 : Int32) [(.int (nar .char c_0)), (.int (nar .char c_1)), (.int (0 : Int32)), (.int (0 : Int32))] (.int (0 : Int32)) := Arv.set Ar510 q510 S510 N510_ H510_ G510 (fits_nar_char _) W511 1 rfl (Nat.le_of_ble_eq_true rfl)
      have N511 := Fr.snoc X511 N509 gn_b505
      obtain ⟨_, _, ⟨T512, L512, k512, n512⟩, -, X512, ⟨Lc512, hQ512, l512, y512, z512⟩, st512⟩ := Jvm.LawKit.callS X511 hx (y := (⟨"com/example/rowstrata/rowstrata/type/NumeralIsWholePinLaw", "chr", "(I)C"⟩ : MethodName)) hown (mvT hZ (own_q hw 87 rfl)) (mvT hZ (own_q hw 88 rfl)) (mvT hZ (own_q hw 25 rfl)) (mvT hZ (own_q hw 89 rfl)) (by decide) (backOf (W := 2) (rm_chr l Z a0 hw [] p3 h511 n0 (Nat.le_trans Z0 EX511.1)) hZ (own_q hw 89 rfl) (own_q hw 25 rfl) (by decide) (by decide)) (g := (mkF m 51 #[.val (.int p0), .val (.int p1), .val (.int p2), .val (.int p3), .val (.int p4), .val (.int p5), .val (.int (4 : Int32)), .val (.ref b505), .unset, .unset, .unset, .unset, .unset, .unset, .unset, .unset, .unset] [(.int p3), (.int (2 : Int32)), (.ref b505)])) rfl (by rw [hml]; rfl) (argsL := [(.int p3)]) (rest := [(.int (2 : Int32)), (.ref b505)]) (lenOf pd_68 rfl) rfl (by show 2 * 0 + _ ≤ _; exact Nat.le_of_eq rfl) (hb hby at_51) (fun _ _ => ⟨rfl, e511, (by decide : 1 + 0 ≤ _), (by decide : 4 + 0 ≤ _)⟩)
      dsimp only [Pt.U, Pt.locs, Pt.cells, Pt.slots] at X512 l512 y512 z512 st512 hQ512
      subst l512 y512 z512
      obtain ⟨c_2, rfl, N512q, e512, hcl_2, hch_2⟩ := hQ512
      have N512 := Fr.app N511 N512q
      have Vc513 := V511
      obtain ⟨cl513, Ar513, q513, S513, N513_, H513_, G513⟩ := Vc513
      have hin513 : ¬ ((2 : Int32) < 0 ∨ cl513.slots.size ≤ ((2 : Int32)).toNatClampNeg) := inb_of S513 ⟨by decide, by decide⟩
      obtain ⟨T514, h514, X514, e514, W514, st514⟩ := stC X512 hx hZ e512 Ar513 (j := (2 : Int32)) hin513 (g := (mkF m 54 #[.val (.int p0), .val (.int p1), .val (.int p2), .val (.int p3), .val (.int p4), .val (.int p5), .val (.int (4 : Int32)), .val (.ref b505), .unset, .unset, .unset, .unset, .unset, .unset, .unset, .unset, .unset] [(.int c_2), (.int (2 : Int32)), (.ref b505)])) rfl rfl (hb hby at_54)
      have hSk514 := Nat.le_trans hSk511 (Keep.of_wr W514).1
      have EX514 := own_ext_wr EX511 W514 sz_b505
      have KP514 := Keep.wr KP511 W514 (Or.inr sz_b505)
      have V514 : Arv Z h514 b505 k505 .char (4 : Int32) [(.int (nar .char c_0)), (.int (nar .char c_1)), (.int (nar .char c_2)), (.int (0 : Int32))] (.int (0 : Int32)) := Arv.set Ar513 q513 S513 N513_ H513_ G513 (fits_nar_char _) W514 2 rfl (Nat.le_of_ble_eq_true rfl)
      have N514 := Fr.snoc X514 N512 gn_b505
      obtain ⟨_, _, ⟨T515, L515, k515, n515⟩, -, X515, ⟨Lc515, hQ515, l515, y515, z515⟩, st515⟩ := Jvm.LawKit.callS X514 hx (y := (⟨"com/example/rowstrata/rowstrata/type/NumeralIsWholePinLaw", "chr", "(I)C"⟩ : MethodName)) hown (mvT hZ (own_q hw 87 rfl)) (mvT hZ (own_q hw 88 rfl)) (mvT hZ (own_q hw 25 rfl)) (mvT hZ (own_q hw 89 rfl)) (by decide) (backOf (W := 2) (rm_chr l Z a0 hw [] p4 h514 n0 (Nat.le_trans Z0 EX514.1)) hZ (own_q hw 89 rfl) (own_q hw 25 rfl) (by decide) (by decide)) (g := (mkF m 66 #[.val (.int p0), .val (.int p1), .val (.int p2), .val (.int p3), .val (.int p4), .val (.int p5), .val (.int (4 : Int32)), .val (.ref b505), .unset, .unset, .unset, .unset, .unset, .unset, .unset, .unset, .unset] [(.int p4), (.int (3 : Int32)), (.ref b505)])) rfl (by rw [hml]; rfl) (argsL := [(.int p4)]) (rest := [(.int (3 : Int32)), (.ref b505)]) (lenOf pd_68 rfl) rfl (by show 2 * 0 + _ ≤ _; exact Nat.le_of_eq rfl) (hb hby at_66) (fun _ _ => ⟨rfl, e514, (by decide : 1 + 0 ≤ _), (by decide : 4 + 0 ≤ _)⟩)
      dsimp only [Pt.U, Pt.locs, Pt.cells, Pt.slots] at X515 l515 y515 z515 st515 hQ515
      subst l515 y515 z515
      obtain ⟨c_3, rfl, N515q, e515, hcl_3, hch_3⟩ := hQ515
      have N515 := Fr.app N514 N515q
      have Vc516 := V514
      obtain ⟨cl516, Ar516, q516, S516, N516_, H516_, G516⟩ := Vc516
      have hin516 : ¬ ((3 : Int32) < 0 ∨ cl516.slots.size ≤ ((3 : Int32)).toNatClampNeg) := inb_of S516 ⟨by decide, by decide⟩
      obtain ⟨T517, h517, X517, e517, W517, st517⟩ := stC X515 hx hZ e515 Ar516 (j := (3 : Int32)) hin516 (g := (mkF m 69 #[.val (.int p0), .val (.int p1), .val (.int p2), .val (.int p3), .val (.int p4), .val (.int p5), .val (.int (4 : Int32)), .val (.ref b505), .unset, .unset, .unset, .unset, .unset, .unset, .unset, .unset, .unset] [(.int c_3), (.int (3 : Int32)), (.ref b505)])) rfl rfl (hb hby at_69)
      have hSk517 := Nat.le_trans hSk514 (Keep.of_wr W517).1
      have EX517 := own_ext_wr EX514 W517 sz_b505
      have KP517 := Keep.wr KP514 W517 (Or.inr sz_b505)
      have V517 : Arv Z h517 b505 k505 .char (4 : Int32) [(.int (nar .char c_0)), (.int (nar .char c_1)), (.int (nar .char c_2)), (.int (nar .char c_3))] (.int (0 : Int32)) := Arv.set Ar516 q516 S516 N516_ H516_ G516 (fits_nar_char _) W517 3 rfl (Nat.le_of_ble_eq_true rfl)
      have N517 := Fr.snoc X517 N515 gn_b505
      obtain ⟨T518, h518, X518, e518, E518, A518, D518, -, st518⟩ := newO X517 hx hZ hown (own_q hw 2 rfl) (own_q hw 3 rfl) (own_q hw 4 rfl) e517 (g := (mkF m 70 #[.val (.int p0), .val (.int p1), .val (.int p2), .val (.int p3), .val (.int p4), .val (.int p5), .val (.int (4 : Int32)), .val (.ref b505), .unset, .unset, .unset, .unset, .unset, .unset, .unset, .unset, .unset] [])) rfl (hb hby at_70) (by decide) (by decide)
      obtain ⟨b518, g518⟩ : ∃ z, z = h517.size := ⟨_, rfl⟩
      rw [← g518] at A518 D518 st518
      have sz_b518 : h0.size ≤ b518 := Nat.le_trans KP517.1 (Nat.le_of_eq g518.symm)
      have gn_b518 : n0 ≤ b518 := Nat.le_trans Z0 sz_b518
      have ne_b505_b518 : b505 ≠ b518 := Nat.ne_of_lt (Nat.lt_of_lt_of_le V517.lt (Nat.le_of_eq g518.symm))
      have hSk518 := Nat.le_trans hSk517 E518.1
      have EX518 := own_ext_trans EX517 E518
      have KP518 := Keep.ext KP517 E518
      have F518_value : Fld Z h518 b518 "java/lang/String" "value" "[B" .null := D518 (Or.inr (own_q hw 17 rfl)) (ty := (.array .byte)) (by decide)
      have F518_coder : Fld Z h518 b518 "java/lang/String" "coder" "B" (.int (0 : Int32)) := D518 (Or.inr (own_q hw 18 rfl)) (ty := .byte) (by decide)
      have Fx519 := (V517.ext E518)
      obtain ⟨_, _, ⟨T520, L520, k520, n520⟩, -, X520, ⟨Lc520, hQ520, l520, y520, z520⟩, st520⟩ := X518.specialBack hx (y := (⟨"java/lang/String", "<init>", "([C)V"⟩ : MethodName)) rfl hown (mvT hZ (own_q hw 5 rfl)) (mvT hZ (own_q hw 6 rfl)) (mvT hZ (own_q hw 7 rfl)) (by decide) (backOf (W := 1) (rm_si1_4 l Z a0 hw [] b518 b505 h518 n0 (Nat.le_trans Z0 EX518.1) A518 F518_value F518_coder gn_b518 cst fmt (hT.ext EX518) k505 (nar .char c_0) (nar .char c_1) (nar .char c_2) (nar .char c_3) Fx519 ⟨own_narCle ⟨hcl_0, hch_0⟩, own_narCle ⟨hcl_1, hch_1⟩, own_narCle ⟨hcl_2, hch_2⟩, own_narCle ⟨hcl_3, hch_3⟩⟩) hZ (own_q hw 7 rfl) (own_q hw 4 rfl) (by decide) (by decide)) (g := (mkF m 76 #[.val (.int p0), .val (.int p1), .val (.int p2), .val (.int p3), .val (.int p4), .val (.int p5), .val (.int (4 : Int32)), .val (.ref b505), .unset, .unset, .unset, .unset, .unset, .unset, .unset, .unset, .unset] [(.ref b505), (.ref b518), (.ref b518)])) rfl (by rw [hml]; rfl) (Steps.refl _) (a := b518) (argsL := [(.ref b505)]) (rest := [(.ref b518)]) (lenOf pd_641 rfl) rfl (by show 2 * 0 + _ ≤ _; exact Nat.le_of_eq rfl) (hb hby at_76) (fun _ _ => ⟨rfl, e518, (by decide : 2 + 1 ≤ _), (by decide : 8 + 4 ≤ _)⟩)
      dsimp only [Pt.U, Pt.locs, Pt.cells, Pt.slots] at X520 l520 y520 z520 st520 hQ520
      subst l520 y520 z520
      obtain ⟨rfl, N520q, K520, vb, kb, hSt⟩ := hQ520
      have N520 := Fr.app N517 N520q
      have e520 : T520.heap = T520.heap := rfl
      have hSk520 := Nat.le_trans hSk518 K520.1
      have EX520 := own_ext_keep EX518 K520 (allS sz_b518 all0)
      have KP520 := Keep.trans KP518 K520 (allS (Or.inr sz_b518) all0)
      refine ⟨s.vm, T520, _, T520.heap, _, (4 : Int32), b505, b518, vb, kb, (own_ch [(nar .char c_0), (nar .char c_1), (nar .char c_2), (nar .char c_3)]), X520.mono (by decide) (by decide), e520, N520, EX520, hSi0, hSk520, hZ, hown, hSt, by decide, by decide, fun t kt => ?_⟩
      refine ck407 _ ?_
      refine Jvm.RoadKit.iremM (g := (mkF m 5 #[.val (.int p0), .val (.int p1), .val (.int p2), .val (.int p3), .val (.int p4), .val (.int p5), .unset, .unset, .unset, .unset, .unset, .unset, .unset, .unset, .unset, .unset, .unset] [(.int (5 : Int32)), (.int (p0 &&& (2147483647 : Int32)))])) X0 hx rfl (hb hby at_5) rfl (by decide) ?_
      show Steps p.tables e below (s₁.setTop (mkF m 6 #[.val (.int p0), .val (.int p1), .val (.int p2), .val (.int p3), .val (.int p4), .val (.int p5), .unset, .unset, .unset, .unset, .unset, .unset, .unset, .unset, .unset, .unset, .unset] [(.int ((p0 &&& (2147483647 : Int32)) % (5 : Int32)))])) _
      rw [hv469]
      show Steps p.tables e below (s₁.setTop (mkF m 6 #[.val (.int p0), .val (.int p1), .val (.int p2), .val (.int p3), .val (.int p4), .val (.int p5), .unset, .unset, .unset, .unset, .unset, .unset, .unset, .unset, .unset, .unset, .unset] [(.int (4 : Int32))])) _
      refine XS.istore X0.here hx rfl (hb hby at_6) rfl (l' := #[.val (.int p0), .val (.int p1), .val (.int p2), .val (.int p3), .val (.int p4), .val (.int p5), .val (.int (4 : Int32)), .unset, .unset, .unset, .unset, .unset, .unset, .unset, .unset, .unset, .unset]) rfl ?_
      refine XS.iload X0.here hx rfl (hb hby at_8) rfl ?_
      refine st505 _ ?_
      show Steps p.tables e below (T505.setTop (mkF m 12 #[.val (.int p0), .val (.int p1), .val (.int p2), .val (.int p3), .val (.int p4), .val (.int p5), .val (.int (4 : Int32)), .unset, .unset, .unset, .unset, .unset, .unset, .unset, .unset, .unset, .unset] [(.ref b505)])) _
      refine XS.astore X505.here hx rfl (hb hby at_12) rfl rfl (l' := #[.val (.int p0), .val (.int p1), .val (.int p2), .val (.int p3), .val (.int p4), .val (.int p5), .val (.int (4 : Int32)), .val (.ref b505), .unset, .unset, .unset, .unset, .unset, .unset, .unset, .unset, .unset]) rfl ?_
      refine XS.iload X505.here hx rfl (hb hby at_14) rfl ?_
      refine XS.ifNo X505.here hx rfl (hb hby at_16) rfl ((if0 _ _).trans (tlt (by decide : (0 : Int32) < (4 : Int32))).2.2.2) ?_
      refine XS.aload X505.here hx rfl (hb hby at_19) rfl rfl ?_
      refine XS.iconst X505.here hx rfl (hb hby at_21) ?_
      refine XS.iloadN X505.here hx rfl (hb hby at_22) rfl ?_
      refine st506 _ ?_
      show Steps p.tables e below (T506.setTop (mkF m 26 #[.val (.int p0), .val (.int p1), .val (.int p2), .val (.int p3), .val (.int p4), .val (.int p5), .val (.int (4 : Int32)), .val (.ref b505), .unset, .unset, .unset, .unset, .unset, .unset, .unset, .unset, .unset] [(.int c_0), (.int (0 : Int32)), (.ref b505)])) _
      refine st508 _ ?_
      show Steps p.tables e below (T508.setTop (mkF m 27 #[.val (.int p0), .val (.int p1), .val (.int p2), .val (.int p3), .val (.int p4), .val (.int p5), .val (.int (4 : Int32)), .val (.ref b505), .unset, .unset, .unset, .unset, .unset, .unset, .unset, .unset, .unset] [])) _
      refine XS.iload X508.here hx rfl (hb hby at_27) rfl ?_
      refine XS.iconst X508.here hx rfl (hb hby at_29) ?_
      refine XS.icmpNo X508.here hx rfl (hb hby at_30) rfl (tlt (by decide : (1 : Int32) < (4 : Int32))).2.2.2 ?_
      refine XS.aload X508.here hx rfl (hb hby at_33) rfl rfl ?_
      refine XS.iconst X508.here hx rfl (hb hby at_35) ?_
      refine XS.iloadN X508.here hx rfl (hb hby at_36) rfl ?_
      refine st509 _ ?_
      show Steps p.tables e below (T509.setTop (mkF m 40 #[.val (.int p0), .val (.int p1), .val (.int p2), .val (.int p3), .val (.int p4), .val (.int p5), .val (.int (4 : Int32)), .val (.ref b505), .unset, .unset, .unset, .unset, .unset, .unset, .unset, .unset, .unset] [(.int c_1), (.int (1 : Int32)), (.ref b505)])) _
      refine st511 _ ?_
      show Steps p.tables e below (T511.setTop (mkF m 41 #[.val (.int p0), .val (.int p1), .val (.int p2), .val (.int p3), .val (.int p4), .val (.int p5), .val (.int (4 : Int32)), .val (.ref b505), .unset, .unset, .unset, .unset, .unset, .unset, .unset, .unset, .unset] [])) _
      refine XS.iload X511.here hx rfl (hb hby at_41) rfl ?_
      refine XS.iconst X511.here hx rfl (hb hby at_43) ?_
      refine XS.icmpNo X511.here hx rfl (hb hby at_44) rfl (tlt (by decide : (2 : Int32) < (4 : Int32))).2.2.2 ?_
      refine XS.aload X511.here hx rfl (hb hby at_47) rfl rfl ?_
      refine XS.iconst X511.here hx rfl (hb hby at_49) ?_
      refine XS.iloadN X511.here hx rfl (hb hby at_50) rfl ?_
      refine st512 _ ?_
      show Steps p.tables e below (T512.setTop (mkF m 54 #[.val (.int p0), .val (.int p1), .val (.int p2), .val (.int p3), .val (.int p4), .val (.int p5), .val (.int (4 : Int32)), .val (.ref b505), .unset, .unset, .unset, .unset, .unset, .unset, .unset, .unset, .unset] [(.int c_2), (.int (2 : Int32)), (.ref b505)])) _
      refine st514 _ ?_
      show Steps p.tables e below (T514.setTop (mkF m 55 #[.val (.int p0), .val (.int p1), .val (.int p2), .val (.int p3), .val (.int p4), .val (.int p5), .val (.int (4 : Int32)), .val (.ref b505), .unset, .unset, .unset, .unset, .unset, .unset, .unset, .unset, .unset] [])) _
      refine XS.iload X514.here hx rfl (hb hby at_55) rfl ?_
      refine XS.iconst X514.here hx rfl (hb hby at_57) ?_
      refine XS.icmpNo X514.here hx rfl (hb hby at_58) rfl (tlt (by decide : (3 : Int32) < (4 : Int32))).2.2.2 ?_
      refine XS.aload X514.here hx rfl (hb hby at_61) rfl rfl ?_
      refine XS.iconst X514.here hx rfl (hb hby at_63) ?_
      refine XS.iload X514.here hx rfl (hb hby at_64) rfl ?_
      refine st515 _ ?_
      show Steps p.tables e below (T515.setTop (mkF m 69 #[.val (.int p0), .val (.int p1), .val (.int p2), .val (.int p3), .val (.int p4), .val (.int p5), .val (.int (4 : Int32)), .val (.ref b505), .unset, .unset, .unset, .unset, .unset, .unset, .unset, .unset, .unset] [(.int c_3), (.int (3 : Int32)), (.ref b505)])) _
      refine st517 _ ?_
      show Steps p.tables e below (T517.setTop (mkF m 70 #[.val (.int p0), .val (.int p1), .val (.int p2), .val (.int p3), .val (.int p4), .val (.int p5), .val (.int (4 : Int32)), .val (.ref b505), .unset, .unset, .unset, .unset, .unset, .unset, .unset, .unset, .unset] [])) _
      refine st518 _ ?_
      show Steps p.tables e below (T518.setTop (mkF m 73 #[.val (.int p0), .val (.int p1), .val (.int p2), .val (.int p3), .val (.int p4), .val (.int p5), .val (.int (4 : Int32)), .val (.ref b505), .unset, .unset, .unset, .unset, .unset, .unset, .unset, .unset, .unset] [(.ref b518)])) _
      refine XS.dup X518.here hx rfl (hb hby at_73) rfl rfl ?_
      refine XS.aload X518.here hx rfl (hb hby at_74) rfl rfl ?_
      refine st520.trans ?_
      exact kt
  have hSk464 := Nat.le_trans hSk0 EJ464.1
  have EX464 := own_ext_trans (own_ext_refl h0) EJ464
  have KP464 := Keep.ext (Keep.refl h0 []) EJ464
  have hSt := hj464_0; have hz0 := hj464_1; have hz4 := hj464_2; clear hj464_0 hj464_1 hj464_2
  have ck521 : ∀ t, Steps p.tables e below (T464.setTop (mkF m 81 #[.val (.int p0), .val (.int p1), .val (.int p2), .val (.int p3), .val (.int p4), .val (.int p5), .val (.int z), .val (.ref ca), .val (.ref tx), .unset, .unset, .unset, .unset, .unset, .unset, .unset, .unset] [])) t → Steps p.tables e below (s₁.setTop (entryFrame m #[(.int p0), (.int p1), (.int p2), (.int p3), (.int p4), (.int p5)] maxLocals)) t := by
    intro t kt
    refine ck464 _ ?_
    refine XS.astore X464.here hx rfl (hb hby at_79) rfl rfl (l' := #[.val (.int p0), .val (.int p1), .val (.int p2), .val (.int p3), .val (.int p4), .val (.int p5), .val (.int z), .val (.ref ca), .val (.ref tx), .unset, .unset, .unset, .unset, .unset, .unset, .unset, .unset]) rfl ?_
    exact kt
  obtain ⟨T533, L533, ex9, X533, e533, N533, hj533_0, ck533⟩ : ∃ (TJ : State) (LJ : List Loc) (ex9 : Int32), Stand p l e room_1 (s.setVm vJ464) m #[(.int p0), (.int p1), (.int p2), (.int p3), (.int p4), (.int p5)] below meth c TJ LJ 4 12 ∧ TJ.heap = h464 ∧ Fr n0 LJ ∧ (own_Exp ch z.toNatClampNeg ex9) ∧ (∀ t, Steps p.tables e below (TJ.setTop (mkF m 122 #[.val (.int p0), .val (.int p1), .val (.int p2), .val (.int p3), .val (.int p4), .val (.int p5), .val (.int z), .val (.ref ca), .val (.ref tx), .unset, .unset, .unset, .unset, .unset, .unset, .unset, .unset] [(.int ex9)])) t → Steps p.tables e below (s₁.setTop (entryFrame m #[(.int p0), (.int p1), (.int p2), (.int p3), (.int p4), (.int p5)] maxLocals)) t) := by
    obtain ⟨rm0, h_rm0⟩ : ∃ r : Int32, (if (0 : Int32) < z then (if (ch (0 : Int32).toNatClampNeg) = (46 : Int32) then (1 : Int32) else if (ch (0 : Int32).toNatClampNeg) = (101 : Int32) then (1 : Int32) else if (ch (0 : Int32).toNatClampNeg) = (69 : Int32) then (1 : Int32) else (0 : Int32)) else (0 : Int32)) = r := ⟨_, rfl⟩
    obtain ⟨_, _, ⟨T534, L534, k534, n534⟩, -, X534, ⟨Lc534, hQ534, l534, y534, z534⟩, st534⟩ := Jvm.LawKit.callS X464 hx (y := (⟨"com/example/rowstrata/rowstrata/type/NumeralIsWholePinLaw", "marks", "(Ljava/lang/String;I)Z"⟩ : MethodName)) hown (mvT hZ (own_q hw 23 rfl)) (mvT hZ (own_q hw 24 rfl)) (mvT hZ (own_q hw 25 rfl)) (mvT hZ (own_q hw 26 rfl)) (by decide) (backOf (W := 0) (rm_marks l Z a0 hw [] tx (0 : Int32) h464 n0 (Nat.le_trans Z0 EX464.1) vb kb z ch cst fmt hSt (hT.ext EX464) (by decide) rm0 h_rm0) hZ (own_q hw 26 rfl) (own_q hw 25 rfl) (by decide) (by decide)) (g := (mkF m 84 #[.val (.int p0), .val (.int p1), .val (.int p2), .val (.int p3), .val (.int p4), .val (.int p5), .val (.int z), .val (.ref ca), .val (.ref tx), .unset, .unset, .unset, .unset, .unset, .unset, .unset, .unset] [(.int (0 : Int32)), (.ref tx)])) rfl (by rw [hml]; rfl) (argsL := [(.ref tx), (.int (0 : Int32))]) (rest := []) (lenOf pd_642 rfl) rfl (by show 2 * 0 + _ ≤ _; exact Nat.le_of_eq rfl) (hb hby at_84) (fun _ _ => ⟨rfl, e464, (by decide : 4 + 0 ≤ _), (by decide : 12 + 0 ≤ _)⟩)
    dsimp only [Pt.U, Pt.locs, Pt.cells, Pt.slots] at X534 l534 y534 z534 st534 hQ534
    subst l534 y534 z534
    obtain ⟨rfl, N534q, e534⟩ := hQ534
    have N534 := Fr.app N464 N534q
    by_cases hc87_535 : rm0 = (0 : Int32)
    · -- pc 87: yes
      obtain ⟨rm1, h_rm1⟩ : ∃ r : Int32, (if (1 : Int32) < z then (if (ch (1 : Int32).toNatClampNeg) = (46 : Int32) then (1 : Int32) else if (ch (1 : Int32).toNatClampNeg) = (101 : Int32) then (1 : Int32) else if (ch (1 : Int32).toNatClampNeg) = (69 : Int32) then (1 : Int32) else (0 : Int32)) else (0 : Int32)) = r := ⟨_, rfl⟩
      obtain ⟨_, _, ⟨T536, L536, k536, n536⟩, -, X536, ⟨Lc536, hQ536, l536, y536, z536⟩, st536⟩ := Jvm.LawKit.callS X534 hx (y := (⟨"com/example/rowstrata/rowstrata/type/NumeralIsWholePinLaw", "marks", "(Ljava/lang/String;I)Z"⟩ : MethodName)) hown (mvT hZ (own_q hw 23 rfl)) (mvT hZ (own_q hw 24 rfl)) (mvT hZ (own_q hw 25 rfl)) (mvT hZ (own_q hw 26 rfl)) (by decide) (backOf (W := 0) (rm_marks l Z a0 hw [] tx (1 : Int32) h464 n0 (Nat.le_trans Z0 EX464.1) vb kb z ch cst fmt hSt (hT.ext EX464) (by decide) rm1 h_rm1) hZ (own_q hw 26 rfl) (own_q hw 25 rfl) (by decide) (by decide)) (g := (mkF m 93 #[.val (.int p0), .val (.int p1), .val (.int p2), .val (.int p3), .val (.int p4), .val (.int p5), .val (.int z), .val (.ref ca), .val (.ref tx), .unset, .unset, .unset, .unset, .unset, .unset, .unset, .unset] [(.int (1 : Int32)), (.ref tx)])) rfl (by rw [hml]; rfl) (argsL := [(.ref tx), (.int (1 : Int32))]) (rest := []) (lenOf pd_642 rfl) rfl (by show 2 * 0 + _ ≤ _; exact Nat.le_of_eq rfl) (hb hby at_93) (fun _ _ => ⟨rfl, e534, (by decide : 4 + 0 ≤ _), (by decide : 12 + 0 ≤ _)⟩)
      dsimp only [Pt.U, Pt.locs, Pt.cells, Pt.slots] at X536 l536 y536 z536 st536 hQ536
      subst l536 y536 z536
      obtain ⟨rfl, N536q, e536⟩ := hQ536
      have N536 := Fr.app N534 N536q
      have ck538 : ∀ t, Steps p.tables e below (T536.setTop (mkF m 96 #[.val (.int p0), .val (.int p1), .val (.int p2), .val (.int p3), .val (.int p4), .val (.int p5), .val (.int z), .val (.ref ca), .val (.ref tx), .unset, .unset, .unset, .unset, .unset, .unset, .unset, .unset] [(.int rm1)])) t → Steps p.tables e below (s₁.setTop (entryFrame m #[(.int p0), (.int p1), (.int p2), (.int p3), (.int p4), (.int p5)] maxLocals)) t := by
        intro t kt
        refine ck521 _ ?_
        refine XS.aload X464.here hx rfl (hb hby at_81) rfl rfl ?_
        refine XS.iconst X464.here hx rfl (hb hby at_83) ?_
        refine st534 _ ?_
        show Steps p.tables e below (T534.setTop (mkF m 87 #[.val (.int p0), .val (.int p1), .val (.int p2), .val (.int p3), .val (.int p4), .val (.int p5), .val (.int z), .val (.ref ca), .val (.ref tx), .unset, .unset, .unset, .unset, .unset, .unset, .unset, .unset] [(.int rm0)])) _
        refine XS.ifNo X534.here hx rfl (hb hby at_87) rfl ((if0 _ _).trans (teq hc87_535).2) ?_
        refine XS.aload X534.here hx rfl (hb hby at_90) rfl rfl ?_
        refine XS.iconst X534.here hx rfl (hb hby at_92) ?_
        refine st536 _ ?_
        exact kt
      (try clear N536q); (try clear st536); (try clear Lc536); (try clear n536); (try clear k536); (try clear L536)
      by_cases hc96_537 : rm1 = (0 : Int32)
      · -- pc 96: yes
        obtain ⟨rm2, h_rm2⟩ : ∃ r : Int32, (if (2 : Int32) < z then (if (ch (2 : Int32).toNatClampNeg) = (46 : Int32) then (1 : Int32) else if (ch (2 : Int32).toNatClampNeg) = (101 : Int32) then (1 : Int32) else if (ch (2 : Int32).toNatClampNeg) = (69 : Int32) then (1 : Int32) else (0 : Int32)) else (0 : Int32)) = r := ⟨_, rfl⟩
        obtain ⟨_, _, ⟨T539, L539, k539, n539⟩, -, X539, ⟨Lc539, hQ539, l539, y539, z539⟩, st539⟩ := Jvm.LawKit.callS X536 hx (y := (⟨"com/example/rowstrata/rowstrata/type/NumeralIsWholePinLaw", "marks", "(Ljava/lang/String;I)Z"⟩ : MethodName)) hown (mvT hZ (own_q hw 23 rfl)) (mvT hZ (own_q hw 24 rfl)) (mvT hZ (own_q hw 25 rfl)) (mvT hZ (own_q hw 26 rfl)) (by decide) (backOf (W := 0) (rm_marks l Z a0 hw [] tx (2 : Int32) h464 n0 (Nat.le_trans Z0 EX464.1) vb kb z ch cst fmt hSt (hT.ext EX464) (by decide) rm2 h_rm2) hZ (own_q hw 26 rfl) (own_q hw 25 rfl) (by decide) (by decide)) (g := (mkF m 102 #[.val (.int p0), .val (.int p1), .val (.int p2), .val (.int p3), .val (.int p4), .val (.int p5), .val (.int z), .val (.ref ca), .val (.ref tx), .unset, .unset, .unset, .unset, .unset, .unset, .unset, .unset] [(.int (2 : Int32)), (.ref tx)])) rfl (by rw [hml]; rfl) (argsL := [(.ref tx), (.int (2 : Int32))]) (rest := []) (lenOf pd_642 rfl) rfl (by show 2 * 0 + _ ≤ _; exact Nat.le_of_eq rfl) (hb hby at_102) (fun _ _ => ⟨rfl, e536, (by decide : 4 + 0 ≤ _), (by decide : 12 + 0 ≤ _)⟩)
        dsimp only [Pt.U, Pt.locs, Pt.cells, Pt.slots] at X539 l539 y539 z539 st539 hQ539
        subst l539 y539 z539
        obtain ⟨rfl, N539q, e539⟩ := hQ539
        have N539 := Fr.app N536 N539q
        have ck541 : ∀ t, Steps p.tables e below (T539.setTop (mkF m 105 #[.val (.int p0), .val (.int p1), .val (.int p2), .val (.int p3), .val (.int p4), .val (.int p5), .val (.int z), .val (.ref ca), .val (.ref tx), .unset, .unset, .unset, .unset, .unset, .unset, .unset, .unset] [(.int rm2)])) t → Steps p.tables e below (s₁.setTop (entryFrame m #[(.int p0), (.int p1), (.int p2), (.int p3), (.int p4), (.int p5)] maxLocals)) t := by
          intro t kt
          refine ck538 _ ?_
          refine XS.ifNo X536.here hx rfl (hb hby at_96) rfl ((if0 _ _).trans (teq hc96_537).2) ?_
          refine XS.aload X536.here hx rfl (hb hby at_99) rfl rfl ?_
          refine XS.iconst X536.here hx rfl (hb hby at_101) ?_
          refine st539 _ ?_
          exact kt
        (try clear N539q); (try clear st539); (try clear Lc539); (try clear n539); (try clear k539); (try clear L539)
        by_cases hc105_540 : rm2 = (0 : Int32)
        · -- pc 105: yes
          obtain ⟨rm3, h_rm3⟩ : ∃ r : Int32, (if (3 : Int32) < z then (if (ch (3 : Int32).toNatClampNeg) = (46 : Int32) then (1 : Int32) else if (ch (3 : Int32).toNatClampNeg) = (101 : Int32) then (1 : Int32) else if (ch (3 : Int32).toNatClampNeg) = (69 : Int32) then (1 : Int32) else (0 : Int32)) else (0 : Int32)) = r := ⟨_, rfl⟩
          obtain ⟨_, _, ⟨T542, L542, k542, n542⟩, -, X542, ⟨Lc542, hQ542, l542, y542, z542⟩, st542⟩ := Jvm.LawKit.callS X539 hx (y := (⟨"com/example/rowstrata/rowstrata/type/NumeralIsWholePinLaw", "marks", "(Ljava/lang/String;I)Z"⟩ : MethodName)) hown (mvT hZ (own_q hw 23 rfl)) (mvT hZ (own_q hw 24 rfl)) (mvT hZ (own_q hw 25 rfl)) (mvT hZ (own_q hw 26 rfl)) (by decide) (backOf (W := 0) (rm_marks l Z a0 hw [] tx (3 : Int32) h464 n0 (Nat.le_trans Z0 EX464.1) vb kb z ch cst fmt hSt (hT.ext EX464) (by decide) rm3 h_rm3) hZ (own_q hw 26 rfl) (own_q hw 25 rfl) (by decide) (by decide)) (g := (mkF m 111 #[.val (.int p0), .val (.int p1), .val (.int p2), .val (.int p3), .val (.int p4), .val (.int p5), .val (.int z), .val (.ref ca), .val (.ref tx), .unset, .unset, .unset, .unset, .unset, .unset, .unset, .unset] [(.int (3 : Int32)), (.ref tx)])) rfl (by rw [hml]; rfl) (argsL := [(.ref tx), (.int (3 : Int32))]) (rest := []) (lenOf pd_642 rfl) rfl (by show 2 * 0 + _ ≤ _; exact Nat.le_of_eq rfl) (hb hby at_111) (fun _ _ => ⟨rfl, e539, (by decide : 4 + 0 ≤ _), (by decide : 12 + 0 ≤ _)⟩)
          dsimp only [Pt.U, Pt.locs, Pt.cells, Pt.slots] at X542 l542 y542 z542 st542 hQ542
          subst l542 y542 z542
          obtain ⟨rfl, N542q, e542⟩ := hQ542
          have N542 := Fr.app N539 N542q
          have ck544 : ∀ t, Steps p.tables e below (T542.setTop (mkF m 114 #[.val (.int p0), .val (.int p1), .val (.int p2), .val (.int p3), .val (.int p4), .val (.int p5), .val (.int z), .val (.ref ca), .val (.ref tx), .unset, .unset, .unset, .unset, .unset, .unset, .unset, .unset] [(.int rm3)])) t → Steps p.tables e below (s₁.setTop (entryFrame m #[(.int p0), (.int p1), (.int p2), (.int p3), (.int p4), (.int p5)] maxLocals)) t := by
            intro t kt
            refine ck541 _ ?_
            refine XS.ifNo X539.here hx rfl (hb hby at_105) rfl ((if0 _ _).trans (teq hc105_540).2) ?_
            refine XS.aload X539.here hx rfl (hb hby at_108) rfl rfl ?_
            refine XS.iconst X539.here hx rfl (hb hby at_110) ?_
            refine st542 _ ?_
            exact kt
          (try clear N542q); (try clear st542); (try clear Lc542); (try clear n542); (try clear k542); (try clear L542)
          by_cases hc114_543 : rm3 = (0 : Int32)
          · -- pc 114: yes
            refine ⟨T542, _, (1 : Int32), X542, e542, N542, Or.inl ⟨rfl, own_mkall hz0 hz4 ((own_mk1 h_rm0).1 hc87_535) ((own_mk1 h_rm1).1 hc96_537) ((own_mk1 h_rm2).1 hc105_540) ((own_mk1 h_rm3).1 hc114_543)⟩, fun t kt => ?_⟩
            refine ck544 _ ?_
            refine XS.ifNo X542.here hx rfl (hb hby at_114) rfl ((if0 _ _).trans (teq hc114_543).2) ?_
            refine XS.iconst X542.here hx rfl (hb hby at_117) ?_
            refine XS.goto X542.here hx rfl (pc0 := 118) (pc' := 122) rfl (hb hby at_118) (by decide) (by decide) ?_
            exact kt
          · -- pc 114: no
            refine ⟨T542, _, (0 : Int32), X542, e542, N542, Or.inr ⟨rfl, own_mkex (by decide) ((own_mk1 h_rm3).2 hc114_543)⟩, fun t kt => ?_⟩
            refine ck544 _ ?_
            refine XS.ifYes X542.here hx rfl (pc0 := 114) (pc' := 121) rfl (hb hby at_114) rfl ((if0 _ _).trans (feq hc114_543).2) (by decide) (by decide) ?_
            refine XS.iconst X542.here hx rfl (hb hby at_121) ?_
            exact kt
        · -- pc 105: no
          refine ⟨T539, _, (0 : Int32), X539, e539, N539, Or.inr ⟨rfl, own_mkex (by decide) ((own_mk1 h_rm2).2 hc105_540)⟩, fun t kt => ?_⟩
          refine ck541 _ ?_
          refine XS.ifYes X539.here hx rfl (pc0 := 105) (pc' := 121) rfl (hb hby at_105) rfl ((if0 _ _).trans (feq hc105_540).2) (by decide) (by decide) ?_
          refine XS.iconst X539.here hx rfl (hb hby at_121) ?_
          exact kt
      · -- pc 96: no
        refine ⟨T536, _, (0 : Int32), X536, e536, N536, Or.inr ⟨rfl, own_mkex (by decide) ((own_mk1 h_rm1).2 hc96_537)⟩, fun t kt => ?_⟩
        refine ck538 _ ?_
        refine XS.ifYes X536.here hx rfl (pc0 := 96) (pc' := 121) rfl (hb hby at_96) rfl ((if0 _ _).trans (feq hc96_537).2) (by decide) (by decide) ?_
        refine XS.iconst X536.here hx rfl (hb hby at_121) ?_
        exact kt
    · -- pc 87: no
      refine ⟨T534, _, (0 : Int32), X534, e534, N534, Or.inr ⟨rfl, own_mkex (by decide) ((own_mk1 h_rm0).2 hc87_535)⟩, fun t kt => ?_⟩
      refine ck521 _ ?_
      refine XS.aload X464.here hx rfl (hb hby at_81) rfl rfl ?_
      refine XS.iconst X464.here hx rfl (hb hby at_83) ?_
      refine st534 _ ?_
      show Steps p.tables e below (T534.setTop (mkF m 87 #[.val (.int p0), .val (.int p1), .val (.int p2), .val (.int p3), .val (.int p4), .val (.int p5), .val (.int z), .val (.ref ca), .val (.ref tx), .unset, .unset, .unset, .unset, .unset, .unset, .unset, .unset] [(.int rm0)])) _
      refine XS.ifYes X534.here hx rfl (pc0 := 87) (pc' := 121) rfl (hb hby at_87) rfl ((if0 _ _).trans (feq hc87_535).2) (by decide) (by decide) ?_
      refine XS.iconst X534.here hx rfl (hb hby at_121) ?_
      exact kt
  have hexp := hj533_0
  have ck545 : ∀ t, Steps p.tables e below (T533.setTop (mkF m 126 #[.val (.int p0), .val (.int p1), .val (.int p2), .val (.int p3), .val (.int p4), .val (.int p5), .val (.int z), .val (.ref ca), .val (.ref tx), .val (.int ex9), .unset, .unset, .unset, .unset, .unset, .unset, .unset] [(.ref tx)])) t → Steps p.tables e below (s₁.setTop (entryFrame m #[(.int p0), (.int p1), (.int p2), (.int p3), (.int p4), (.int p5)] maxLocals)) t := by
    intro t kt
    refine ck533 _ ?_
    refine XS.istore X533.here hx rfl (hb hby at_122) rfl (l' := #[.val (.int p0), .val (.int p1), .val (.int p2), .val (.int p3), .val (.int p4), .val (.int p5), .val (.int z), .val (.ref ca), .val (.ref tx), .val (.int ex9), .unset, .unset, .unset, .unset, .unset, .unset, .unset]) rfl ?_
    refine XS.aload X533.here hx rfl (hb hby at_124) rfl rfl ?_
    exact kt
  obtain ⟨_, _, ⟨T546, L546, k546, n546⟩, -, X546r, S546r, g546r, ⟨Lc546, hQ546, l546, y546, z546⟩, st546⟩ := Jvm.RoadKit.callSS X533 hx (y := (⟨"com/example/rowstrata/rowstrata/type/Numeral", "of", "(Ljava/lang/String;)Lcom/example/rowstrata/rowstrata/type/Numeral;"⟩ : MethodName)) hown (mvT hZ (own_q hw 38 rfl)) (mvT hZ (own_q hw 39 rfl)) (mvT hZ (own_q hw 40 rfl)) (mvT hZ (own_q hw 41 rfl)) (by decide) (backOfS (W := 0) (rm_of l Z a0 hw [] tx h464 n0 (Nat.le_trans Z0 EX464.1) vb kb z ch cst fmt hSt (hT.ext EX464) hz0 hz4) hZ (own_q hw 41 rfl) (own_q hw 40 rfl) (by decide) (by decide)) (g := (mkF m 126 #[.val (.int p0), .val (.int p1), .val (.int p2), .val (.int p3), .val (.int p4), .val (.int p5), .val (.int z), .val (.ref ca), .val (.ref tx), .val (.int ex9), .unset, .unset, .unset, .unset, .unset, .unset, .unset] [(.ref tx)])) rfl (by rw [hml]; rfl) (argsL := [(.ref tx)]) (rest := []) (lenOf pd_643 rfl) rfl (by show 2 * 0 + _ ≤ _; exact Nat.le_of_eq rfl) (hb hby at_126) (fun _ _ => ⟨rfl, e533, (by decide : 4 + 8 ≤ _), (by decide : 12 + 32 ≤ _)⟩)
  dsimp only [Pt.U, Pt.locs, Pt.cells, Pt.slots] at X546r S546r g546r l546 y546 z546 st546 hQ546
  subst l546 y546 z546
  obtain ⟨X546, hSi546, hZ, hown⟩ := rebS hSi464 (show _ ≤ T533.heap.size by rw [e533]; exact hSq464) X546r S546r g546r hZ hown
  obtain ⟨N546q, E546, hOf⟩ := hQ546
  have N546 := Fr.app N533 N546q
  have e546 : T546.heap = T546.heap := rfl
  have hSk546 := Nat.le_trans hSq464 E546.1
  have EX546 := own_ext_trans EX464 E546
  have KP546 := Keep.ext KP464 E546
  rcases hOf with ⟨hno, rfl⟩ | ⟨hok, bo, fr, ex, rfl, E_bo, F_fr, F_ex, ofr, oex⟩
  · -- Numeral.of: null
    have Fx547 := (hSt.ext E546)
    obtain ⟨_, _, ⟨T548, L548, k548, n548⟩, -, X548, ⟨Lc548, hQ548, l548, y548, z548⟩, st548⟩ := Jvm.LawKit.callS X546 hx (y := (⟨"com/example/rowstrata/rowstrata/type/Numeral", "isWholeNumber", "(Ljava/lang/String;)Z"⟩ : MethodName)) hown (mvT hZ (own_q hw 56 rfl)) (mvT hZ (own_q hw 57 rfl)) (mvT hZ (own_q hw 40 rfl)) (mvT hZ (own_q hw 58 rfl)) (by decide) (backOf (W := 0) (rm_iwn l Z a0 hw [] tx T546.heap n0 (Nat.le_trans Z0 EX546.1) vb kb z ch cst fmt Fx547 (hT.ext EX546) hz0) hZ (own_q hw 58 rfl) (own_q hw 40 rfl) (by decide) (by decide)) (g := (mkF m 133 #[.val (.int p0), .val (.int p1), .val (.int p2), .val (.int p3), .val (.int p4), .val (.int p5), .val (.int z), .val (.ref ca), .val (.ref tx), .val (.int ex9), .val .null, .unset, .unset, .unset, .unset, .unset, .unset] [(.ref tx)])) rfl (by rw [hml]; rfl) (argsL := [(.ref tx)]) (rest := []) (lenOf pd_644 rfl) rfl (by show 2 * 0 + _ ≤ _; exact Nat.le_of_eq rfl) (hb hby at_133) (fun _ _ => ⟨rfl, e546, (by decide : 12 + 1 ≤ _), (by decide : 44 + 4 ≤ _)⟩)
    dsimp only [Pt.U, Pt.locs, Pt.cells, Pt.slots] at X548 l548 y548 z548 st548 hQ548
    subst l548 y548 z548
    obtain ⟨r11, rfl, N548q, E548, hWN⟩ := hQ548
    have N548 := Fr.app N546 N548q
    have e548 : T548.heap = T548.heap := rfl
    have hSk548 := Nat.le_trans (Nat.le_refl T546.heap.size) E548.1
    have EX548 := own_ext_trans EX546 E548
    have KP548 := Keep.ext KP546 E548
    rcases hWN with ⟨rfl, hP⟩ | ⟨rfl, -⟩
    · exact absurd ⟨hP.1, hP.2.1⟩ hno
    have ck549 : ∀ t, Steps p.tables e below (T548.setTop (mkF m 192 #[.val (.int p0), .val (.int p1), .val (.int p2), .val (.int p3), .val (.int p4), .val (.int p5), .val (.int z), .val (.ref ca), .val (.ref tx), .val (.int ex9), .val .null, .val (.int (0 : Int32)), .val (.int (1 : Int32)), .unset, .unset, .unset, .unset] [(.ref tx), (.int ((p5.toUInt32 >>> ((1 : Int32) &&& 31).toUInt32).toInt32))])) t → Steps p.tables e below (s₁.setTop (entryFrame m #[(.int p0), (.int p1), (.int p2), (.int p3), (.int p4), (.int p5)] maxLocals)) t := by
      intro t kt
      refine ck545 _ ?_
      refine st546.trans ?_
      show Steps p.tables e below (T546.setTop (mkF m 129 #[.val (.int p0), .val (.int p1), .val (.int p2), .val (.int p3), .val (.int p4), .val (.int p5), .val (.int z), .val (.ref ca), .val (.ref tx), .val (.int ex9), .unset, .unset, .unset, .unset, .unset, .unset, .unset] [.null])) _
      refine XS.astore X546.here hx rfl (hb hby at_129) rfl rfl (l' := #[.val (.int p0), .val (.int p1), .val (.int p2), .val (.int p3), .val (.int p4), .val (.int p5), .val (.int z), .val (.ref ca), .val (.ref tx), .val (.int ex9), .val .null, .unset, .unset, .unset, .unset, .unset, .unset]) rfl ?_
      refine XS.aload X546.here hx rfl (hb hby at_131) rfl rfl ?_
      refine st548 _ ?_
      show Steps p.tables e below (T548.setTop (mkF m 136 #[.val (.int p0), .val (.int p1), .val (.int p2), .val (.int p3), .val (.int p4), .val (.int p5), .val (.int z), .val (.ref ca), .val (.ref tx), .val (.int ex9), .val .null, .unset, .unset, .unset, .unset, .unset, .unset] [(.int (0 : Int32))])) _
      refine XS.istore X548.here hx rfl (hb hby at_136) rfl (l' := #[.val (.int p0), .val (.int p1), .val (.int p2), .val (.int p3), .val (.int p4), .val (.int p5), .val (.int z), .val (.ref ca), .val (.ref tx), .val (.int ex9), .val .null, .val (.int (0 : Int32)), .unset, .unset, .unset, .unset, .unset]) rfl ?_
      refine XS.aload X548.here hx rfl (hb hby at_138) rfl rfl ?_
      refine XS.ifnonnullNo X548.here hx rfl (hb hby at_140) rfl ?_
      refine XS.iload X548.here hx rfl (hb hby at_143) rfl ?_
      refine XS.ifNo X548.here hx rfl (hb hby at_145) rfl ((if0 _ _).trans (teq (by decide : (0 : Int32) = (0 : Int32))).2) ?_
      refine XS.iconst X548.here hx rfl (hb hby at_148) ?_
      refine XS.goto X548.here hx rfl (pc0 := 149) (pc' := 153) rfl (hb hby at_149) (by decide) (by decide) ?_
      refine XS.istore X548.here hx rfl (hb hby at_153) rfl (l' := #[.val (.int p0), .val (.int p1), .val (.int p2), .val (.int p3), .val (.int p4), .val (.int p5), .val (.int z), .val (.ref ca), .val (.ref tx), .val (.int ex9), .val .null, .val (.int (0 : Int32)), .val (.int (1 : Int32)), .unset, .unset, .unset, .unset]) rfl ?_
      refine XS.goto X548.here hx rfl (pc0 := 155) (pc' := 186) rfl (hb hby at_155) (by decide) (by decide) ?_
      refine XS.iload X548.here hx rfl (hb hby at_186) rfl ?_
      refine XS.iconst X548.here hx rfl (hb hby at_188) ?_
      refine XS.iushr X548.here hx rfl (hb hby at_189) rfl ?_
      refine XS.aload X548.here hx rfl (hb hby at_190) rfl rfl ?_
      exact kt
    (try clear N548q); (try clear st548); (try clear Lc548); (try clear n548); (try clear k548); (try clear L548)
    obtain ⟨_, _, ⟨T550, L550, k550, n550⟩, -, X550r, S550r, g550r, ⟨Lc550, hQ550, l550, y550, z550⟩, st550⟩ := Jvm.RoadKit.callSS X548 hx (y := (⟨"com/example/rowstrata/rowstrata/type/NumeralIsWholePinLaw", "part", "(ILjava/lang/String;)Ljava/lang/String;"⟩ : MethodName)) hown (mvT hZ (own_q hw 59 rfl)) (mvT hZ (own_q hw 60 rfl)) (mvT hZ (own_q hw 25 rfl)) (mvT hZ (own_q hw 61 rfl)) (by decide) (backOfS (W := 0) (rm_part l Z a0 hw [] ((p5.toUInt32 >>> ((1 : Int32) &&& 31).toUInt32).toInt32) tx T548.heap n0 (Nat.le_trans Z0 EX548.1)) hZ (own_q hw 61 rfl) (own_q hw 25 rfl) (by decide) (by decide)) (g := (mkF m 192 #[.val (.int p0), .val (.int p1), .val (.int p2), .val (.int p3), .val (.int p4), .val (.int p5), .val (.int z), .val (.ref ca), .val (.ref tx), .val (.int ex9), .val .null, .val (.int (0 : Int32)), .val (.int (1 : Int32)), .unset, .unset, .unset, .unset] [(.ref tx), (.int ((p5.toUInt32 >>> ((1 : Int32) &&& 31).toUInt32).toInt32))])) rfl (by rw [hml]; rfl) (argsL := [(.int ((p5.toUInt32 >>> ((1 : Int32) &&& 31).toUInt32).toInt32)), (.ref tx)]) (rest := []) (lenOf pd_645 rfl) rfl (by show 2 * 0 + _ ≤ _; exact Nat.le_of_eq rfl) (hb hby at_192) (fun _ _ => ⟨rfl, e548, (by decide : 13 + 2 ≤ _), (by decide : 48 + 4 ≤ _)⟩)
    dsimp only [Pt.U, Pt.locs, Pt.cells, Pt.slots] at X550r S550r g550r l550 y550 z550 st550 hQ550
    subst l550 y550 z550
    obtain ⟨X550, hSi550, hZ, hown⟩ := rebS hSi546 (show _ ≤ T548.heap.size by rw [e548]; exact hSk548) X550r S550r g550r hZ hown
    obtain ⟨w13, rfl, N550q, E550, hPw13⟩ := hQ550
    have N550 := Fr.app N548 N550q
    have e550 : T550.heap = T550.heap := rfl
    have hSk550 := Nat.le_trans hSk548 E550.1
    have EX550 := own_ext_trans EX548 E550
    have KP550 := Keep.ext KP548 E550
    have ck551 : ∀ t, Steps p.tables e below (T550.setTop (mkF m 203 #[.val (.int p0), .val (.int p1), .val (.int p2), .val (.int p3), .val (.int p4), .val (.int p5), .val (.int z), .val (.ref ca), .val (.ref tx), .val (.int ex9), .val .null, .val (.int (0 : Int32)), .val (.int (1 : Int32)), .val w13, .unset, .unset, .unset] [(.ref tx), (.int ((p5.toUInt32 >>> ((3 : Int32) &&& 31).toUInt32).toInt32))])) t → Steps p.tables e below (s₁.setTop (entryFrame m #[(.int p0), (.int p1), (.int p2), (.int p3), (.int p4), (.int p5)] maxLocals)) t := by
      intro t kt
      refine ck549 _ ?_
      refine st550.trans ?_
      show Steps p.tables e below (T550.setTop (mkF m 195 #[.val (.int p0), .val (.int p1), .val (.int p2), .val (.int p3), .val (.int p4), .val (.int p5), .val (.int z), .val (.ref ca), .val (.ref tx), .val (.int ex9), .val .null, .val (.int (0 : Int32)), .val (.int (1 : Int32)), .unset, .unset, .unset, .unset] [w13])) _
      refine XS.astore X550.here hx rfl (hb hby at_195) rfl (own_isR hPw13) (l' := #[.val (.int p0), .val (.int p1), .val (.int p2), .val (.int p3), .val (.int p4), .val (.int p5), .val (.int z), .val (.ref ca), .val (.ref tx), .val (.int ex9), .val .null, .val (.int (0 : Int32)), .val (.int (1 : Int32)), .val w13, .unset, .unset, .unset]) (by rcases ref_cases (own_isR hPw13) with hq | ⟨_, hq⟩ <;> rw [hq] <;> rfl) ?_
      refine XS.iload X550.here hx rfl (hb hby at_197) rfl ?_
      refine XS.iconst X550.here hx rfl (hb hby at_199) ?_
      refine XS.iushr X550.here hx rfl (hb hby at_200) rfl ?_
      refine XS.aload X550.here hx rfl (hb hby at_201) rfl rfl ?_
      exact kt
    (try clear N550q); (try clear st550); (try clear Lc550); (try clear n550); (try clear k550); (try clear L550)
    obtain ⟨_, _, ⟨T552, L552, k552, n552⟩, -, X552r, S552r, g552r, ⟨Lc552, hQ552, l552, y552, z552⟩, st552⟩ := Jvm.RoadKit.callSS X550 hx (y := (⟨"com/example/rowstrata/rowstrata/type/NumeralIsWholePinLaw", "part", "(ILjava/lang/String;)Ljava/lang/String;"⟩ : MethodName)) hown (mvT hZ (own_q hw 59 rfl)) (mvT hZ (own_q hw 60 rfl)) (mvT hZ (own_q hw 25 rfl)) (mvT hZ (own_q hw 61 rfl)) (by decide) (backOfS (W := 0) (rm_part l Z a0 hw [] ((p5.toUInt32 >>> ((3 : Int32) &&& 31).toUInt32).toInt32) tx T550.heap n0 (Nat.le_trans Z0 EX550.1)) hZ (own_q hw 61 rfl) (own_q hw 25 rfl) (by decide) (by decide)) (g := (mkF m 203 #[.val (.int p0), .val (.int p1), .val (.int p2), .val (.int p3), .val (.int p4), .val (.int p5), .val (.int z), .val (.ref ca), .val (.ref tx), .val (.int ex9), .val .null, .val (.int (0 : Int32)), .val (.int (1 : Int32)), .val w13, .unset, .unset, .unset] [(.ref tx), (.int ((p5.toUInt32 >>> ((3 : Int32) &&& 31).toUInt32).toInt32))])) rfl (by rw [hml]; rfl) (argsL := [(.int ((p5.toUInt32 >>> ((3 : Int32) &&& 31).toUInt32).toInt32)), (.ref tx)]) (rest := []) (lenOf pd_645 rfl) rfl (by show 2 * 0 + _ ≤ _; exact Nat.le_of_eq rfl) (hb hby at_203) (fun _ _ => ⟨rfl, e550, (by decide : 15 + 2 ≤ _), (by decide : 52 + 4 ≤ _)⟩)
    dsimp only [Pt.U, Pt.locs, Pt.cells, Pt.slots] at X552r S552r g552r l552 y552 z552 st552 hQ552
    subst l552 y552 z552
    obtain ⟨X552, hSi552, hZ, hown⟩ := rebS hSi550 (show _ ≤ T550.heap.size by rw [e550]; exact (Nat.le_refl T550.heap.size)) X552r S552r g552r hZ hown
    obtain ⟨w14, rfl, N552q, E552, hPw14⟩ := hQ552
    have N552 := Fr.app N550 N552q
    have e552 : T552.heap = T552.heap := rfl
    have hSk552 := Nat.le_trans (Nat.le_refl T550.heap.size) E552.1
    have EX552 := own_ext_trans EX550 E552
    have KP552 := Keep.ext KP550 E552
    obtain ⟨T553, h553, X553, e553, E553, A553, D553, -, st553⟩ := newO X552 hx hZ hown (own_q hw 63 rfl) (own_q hw 64 rfl) (own_q hw 40 rfl) e552 (g := (mkF m 208 #[.val (.int p0), .val (.int p1), .val (.int p2), .val (.int p3), .val (.int p4), .val (.int p5), .val (.int z), .val (.ref ca), .val (.ref tx), .val (.int ex9), .val .null, .val (.int (0 : Int32)), .val (.int (1 : Int32)), .val w13, .val w14, .unset, .unset] [])) rfl (hb hby at_208) (by decide) (by decide)
    obtain ⟨b553, g553⟩ : ∃ z, z = T552.heap.size := ⟨_, rfl⟩
    rw [← g553] at A553 D553 st553
    have sz_b553 : h0.size ≤ b553 := Nat.le_trans KP552.1 (Nat.le_of_eq g553.symm)
    have gn_b553 : n0 ≤ b553 := Nat.le_trans Z0 sz_b553
    have hSk553 := Nat.le_trans (Nat.le_refl T552.heap.size) E553.1
    have EX553 := own_ext_trans EX552 E553
    have KP553 := Keep.ext KP552 E553
    have F553_negative : Fld Z h553 b553 "com/example/rowstrata/rowstrata/type/Numeral" "negative" "Z" (.int (0 : Int32)) := D553 (Or.inr (own_q hw 75 rfl)) (ty := .boolean) (by decide)
    have F553_digits : Fld Z h553 b553 "com/example/rowstrata/rowstrata/type/Numeral" "digits" "Ljava/lang/String;" .null := D553 (Or.inr (own_q hw 77 rfl)) (ty := (.object "java/lang/String")) (by decide)
    have F553_fraction : Fld Z h553 b553 "com/example/rowstrata/rowstrata/type/Numeral" "fraction" "Ljava/lang/String;" .null := D553 (Or.inr (own_q hw 79 rfl)) (ty := (.object "java/lang/String")) (by decide)
    have F553_exponent : Fld Z h553 b553 "com/example/rowstrata/rowstrata/type/Numeral" "exponent" "Ljava/lang/String;" .null := D553 (Or.inr (own_q hw 81 rfl)) (ty := (.object "java/lang/String")) (by decide)
    have ck554 : ∀ t, Steps p.tables e below (T553.setTop (mkF m 212 #[.val (.int p0), .val (.int p1), .val (.int p2), .val (.int p3), .val (.int p4), .val (.int p5), .val (.int z), .val (.ref ca), .val (.ref tx), .val (.int ex9), .val .null, .val (.int (0 : Int32)), .val (.int (1 : Int32)), .val w13, .val w14, .unset, .unset] [(.ref b553), (.ref b553)])) t → Steps p.tables e below (s₁.setTop (entryFrame m #[(.int p0), (.int p1), (.int p2), (.int p3), (.int p4), (.int p5)] maxLocals)) t := by
      intro t kt
      refine ck551 _ ?_
      refine st552.trans ?_
      show Steps p.tables e below (T552.setTop (mkF m 206 #[.val (.int p0), .val (.int p1), .val (.int p2), .val (.int p3), .val (.int p4), .val (.int p5), .val (.int z), .val (.ref ca), .val (.ref tx), .val (.int ex9), .val .null, .val (.int (0 : Int32)), .val (.int (1 : Int32)), .val w13, .unset, .unset, .unset] [w14])) _
      refine XS.astore X552.here hx rfl (hb hby at_206) rfl (own_isR hPw14) (l' := #[.val (.int p0), .val (.int p1), .val (.int p2), .val (.int p3), .val (.int p4), .val (.int p5), .val (.int z), .val (.ref ca), .val (.ref tx), .val (.int ex9), .val .null, .val (.int (0 : Int32)), .val (.int (1 : Int32)), .val w13, .val w14, .unset, .unset]) (by rcases ref_cases (own_isR hPw14) with hq | ⟨_, hq⟩ <;> rw [hq] <;> rfl) ?_
      refine st553 _ ?_
      show Steps p.tables e below (T553.setTop (mkF m 211 #[.val (.int p0), .val (.int p1), .val (.int p2), .val (.int p3), .val (.int p4), .val (.int p5), .val (.int z), .val (.ref ca), .val (.ref tx), .val (.int ex9), .val .null, .val (.int (0 : Int32)), .val (.int (1 : Int32)), .val w13, .val w14, .unset, .unset] [(.ref b553)])) _
      refine XS.dup X553.here hx rfl (hb hby at_211) rfl rfl ?_
      exact kt
    (try clear st553); (try clear D553); (try clear KP552); (try clear EX552); (try clear e552); (try clear N552q); (try clear X552); (try clear st552); (try clear Lc552); (try clear n552); (try clear k552); (try clear L552); (try clear T552)
    obtain ⟨T556, L556, ng, X556, e556, N556, hj556_0, ck556⟩ : ∃ (TJ : State) (LJ : List Loc) (ng : Int32), Stand p l e room_1 (s.setVm T552.vm) m #[(.int p0), (.int p1), (.int p2), (.int p3), (.int p4), (.int p5)] below meth c TJ LJ 18 60 ∧ TJ.heap = h553 ∧ Fr n0 LJ ∧ (ng = (0 : Int32) ∨ ng = (1 : Int32)) ∧ (∀ t, Steps p.tables e below (TJ.setTop (mkF m 224 #[.val (.int p0), .val (.int p1), .val (.int p2), .val (.int p3), .val (.int p4), .val (.int p5), .val (.int z), .val (.ref ca), .val (.ref tx), .val (.int ex9), .val .null, .val (.int (0 : Int32)), .val (.int (1 : Int32)), .val w13, .val w14, .unset, .unset] [(.int ng), (.ref b553), (.ref b553)])) t → Steps p.tables e below (s₁.setTop (entryFrame m #[(.int p0), (.int p1), (.int p2), (.int p3), (.int p4), (.int p5)] maxLocals)) t) := by
      by_cases hc216_557 : (p5 &&& (1 : Int32)) = (0 : Int32)
      · -- pc 216: yes
        refine ⟨T553, _, (0 : Int32), X553, e553, N552, Or.inl rfl, fun t kt => ?_⟩
        refine ck554 _ ?_
        refine XS.iload X553.here hx rfl (hb hby at_212) rfl ?_
        refine XS.iconst X553.here hx rfl (hb hby at_214) ?_
        refine XS.iand X553.here hx rfl (hb hby at_215) rfl ?_
        refine XS.ifYes X553.here hx rfl (pc0 := 216) (pc' := 223) rfl (hb hby at_216) rfl ((if0 _ _).trans (teq hc216_557).1) (by decide) (by decide) ?_
        refine XS.iconst X553.here hx rfl (hb hby at_223) ?_
        exact kt
      · -- pc 216: no
        refine ⟨T553, _, (1 : Int32), X553, e553, N552, Or.inr rfl, fun t kt => ?_⟩
        refine ck554 _ ?_
        refine XS.iload X553.here hx rfl (hb hby at_212) rfl ?_
        refine XS.iconst X553.here hx rfl (hb hby at_214) ?_
        refine XS.iand X553.here hx rfl (hb hby at_215) rfl ?_
        refine XS.ifNo X553.here hx rfl (hb hby at_216) rfl ((if0 _ _).trans (feq hc216_557).1) ?_
        refine XS.iconst X553.here hx rfl (hb hby at_219) ?_
        refine XS.goto X553.here hx rfl (pc0 := 220) (pc' := 224) rfl (hb hby at_220) (by decide) (by decide) ?_
        exact kt
    have hng := hj556_0
    obtain ⟨_, _, ⟨T558, L558, k558, n558⟩, -, X558, ⟨Lc558, hQ558, l558, y558, z558⟩, st558⟩ := X556.specialBack hx (y := (⟨"com/example/rowstrata/rowstrata/type/Numeral", "<init>", "(ZLjava/lang/String;Ljava/lang/String;Ljava/lang/String;)V"⟩ : MethodName)) rfl hown (mvT hZ (own_q hw 65 rfl)) (mvT hZ (own_q hw 66 rfl)) (mvT hZ (own_q hw 67 rfl)) (by decide) (backOf (W := 1) (rm_nin l Z a0 hw [] b553 ng tx w13 w14 h553 n0 (Nat.le_trans Z0 EX553.1) hng (own_isR hPw13) (own_isR hPw14) A553 F553_negative F553_digits F553_fraction F553_exponent gn_b553) hZ (own_q hw 67 rfl) (own_q hw 40 rfl) (by decide) (by decide)) (g := (mkF m 230 #[.val (.int p0), .val (.int p1), .val (.int p2), .val (.int p3), .val (.int p4), .val (.int p5), .val (.int z), .val (.ref ca), .val (.ref tx), .val (.int ex9), .val .null, .val (.int (0 : Int32)), .val (.int (1 : Int32)), .val w13, .val w14, .unset, .unset] [w14, w13, (.ref tx), (.int ng), (.ref b553), (.ref b553)])) rfl (by rw [hml]; rfl) (Steps.refl _) (a := b553) (argsL := [(.int ng), (.ref tx), w13, w14]) (rest := [(.ref b553)]) (lenOf pd_500 rfl) rfl (by show 2 * 0 + _ ≤ _; exact Nat.le_of_eq rfl) (hb hby at_230) (fun _ _ => ⟨rfl, e556, (by decide : 18 + 0 ≤ _), (by decide : 60 + 0 ≤ _)⟩)
    dsimp only [Pt.U, Pt.locs, Pt.cells, Pt.slots] at X558 l558 y558 z558 st558 hQ558
    subst l558 y558 z558
    obtain ⟨rfl, N558q, K558, Ea558, Ff558, Fe558⟩ := hQ558
    have N558 := Fr.app N556 N558q
    have e558 : T558.heap = T558.heap := rfl
    have hSk558 := Nat.le_trans hSk553 K558.1
    have EX558 := own_ext_keep EX553 K558 (allS sz_b553 all0)
    have KP558 := Keep.trans KP553 K558 (allS (Or.inr sz_b553) all0)
    obtain ⟨r16, hr16⟩ := own_wex w13 w14
    obtain ⟨cq559, kq559, q559a, q559b, q559c⟩ := isOf hZ e558 (Ea558)
    obtain ⟨_, _, ⟨T559, L559, k559, n559⟩, -, X559, ⟨Lc559, hQ559, l559, y559, z559⟩, st559⟩ := X558.virtualBack hx (y := (⟨"com/example/rowstrata/rowstrata/type/Numeral", "isWhole", "()Z"⟩ : MethodName)) (z := (⟨"com/example/rowstrata/rowstrata/type/Numeral", "isWhole", "()Z"⟩ : MethodName)) hown (mvT hZ (own_q hw 82 rfl)) (mvT hZ (own_q hw 83 rfl)) (notFace_of_selects (args := #[]) (mvT hZ (own_q hw 85 rfl))) (mvT hZ (own_q hw 85 rfl)) (mvT hZ (own_q hw 84 rfl)) (by decide) (backOf (W := 0) (rm_iswV l Z a0 hw [] b553 T558.heap n0 (Nat.le_trans Z0 EX558.1) w13 w14 hPw13 hPw14 Ff558 Fe558 r16 hr16) hZ (own_q hw 86 rfl) (own_q hw 40 rfl) (by decide) (by decide)) q559a q559c (g := (mkF m 237 #[.val (.int p0), .val (.int p1), .val (.int p2), .val (.int p3), .val (.int p4), .val (.int p5), .val (.int z), .val (.ref ca), .val (.ref tx), .val (.int ex9), .val .null, .val (.int (0 : Int32)), .val (.int (1 : Int32)), .val w13, .val w14, .val (.ref b553), .unset] [(.ref b553)])) rfl (by rw [hml]; rfl) (Steps.refl _) (argsL := []) (rest := []) (lenOf pd_52 rfl) rfl (by show 2 * 0 + _ ≤ _; exact Nat.le_of_eq rfl) (hb hby at_237) (fun _ _ => ⟨rfl, e558, (by decide : 18 + 0 ≤ _), (by decide : 60 + 0 ≤ _)⟩)
    dsimp only [Pt.U, Pt.locs, Pt.cells, Pt.slots] at X559 l559 y559 z559 st559 hQ559
    subst l559 y559 z559
    obtain ⟨rfl, N559q, e559⟩ := hQ559
    have N559 := Fr.app N558 N559q
    have ck560 : ∀ t, Steps p.tables e below (T559.setTop (mkF m 240 #[.val (.int p0), .val (.int p1), .val (.int p2), .val (.int p3), .val (.int p4), .val (.int p5), .val (.int z), .val (.ref ca), .val (.ref tx), .val (.int ex9), .val .null, .val (.int (0 : Int32)), .val (.int (1 : Int32)), .val w13, .val w14, .val (.ref b553), .unset] [(.int r16)])) t → Steps p.tables e below (s₁.setTop (entryFrame m #[(.int p0), (.int p1), (.int p2), (.int p3), (.int p4), (.int p5)] maxLocals)) t := by
      intro t kt
      refine ck556 _ ?_
      refine XS.aload X556.here hx rfl (hb hby at_224) rfl rfl ?_
      refine XS.aload X556.here hx rfl (hb hby at_226) rfl (own_isR hPw13) ?_
      refine XS.aload X556.here hx rfl (hb hby at_228) rfl (own_isR hPw14) ?_
      refine st558.trans ?_
      show Steps p.tables e below (T558.setTop (mkF m 233 #[.val (.int p0), .val (.int p1), .val (.int p2), .val (.int p3), .val (.int p4), .val (.int p5), .val (.int z), .val (.ref ca), .val (.ref tx), .val (.int ex9), .val .null, .val (.int (0 : Int32)), .val (.int (1 : Int32)), .val w13, .val w14, .unset, .unset] [(.ref b553)])) _
      refine XS.astore X558.here hx rfl (hb hby at_233) rfl rfl (l' := #[.val (.int p0), .val (.int p1), .val (.int p2), .val (.int p3), .val (.int p4), .val (.int p5), .val (.int z), .val (.ref ca), .val (.ref tx), .val (.int ex9), .val .null, .val (.int (0 : Int32)), .val (.int (1 : Int32)), .val w13, .val w14, .val (.ref b553), .unset]) rfl ?_
      refine XS.aload X558.here hx rfl (hb hby at_235) rfl rfl ?_
      refine st559.trans ?_
      exact kt
    (try clear N559q); (try clear st559); (try clear Lc559); (try clear n559); (try clear k559); (try clear L559); (try clear q559c); (try clear q559b); (try clear q559a); (try clear kq559); (try clear cq559); (try clear e558); (try clear N558); (try clear N558q); (try clear st558); (try clear Lc558); (try clear X558); (try clear n558); (try clear k558); (try clear L558); (try clear T558)
    obtain ⟨T561, L561, q16, X561, e561, N561, hj561_0, ck561⟩ : ∃ (TJ : State) (LJ : List Loc) (q16 : Int32), Stand p l e room_1 (s.setVm T552.vm) m #[(.int p0), (.int p1), (.int p2), (.int p3), (.int p4), (.int p5)] below meth c TJ LJ 18 60 ∧ TJ.heap = T558.heap ∧ Fr n0 LJ ∧ (q16 = r16) ∧ (∀ t, Steps p.tables e below (TJ.setTop (mkF m 255 #[.val (.int p0), .val (.int p1), .val (.int p2), .val (.int p3), .val (.int p4), .val (.int p5), .val (.int z), .val (.ref ca), .val (.ref tx), .val (.int ex9), .val .null, .val (.int (0 : Int32)), .val (.int (1 : Int32)), .val w13, .val w14, .val (.ref b553), .unset] [(.int q16), (.int r16)])) t → Steps p.tables e below (s₁.setTop (entryFrame m #[(.int p0), (.int p1), (.int p2), (.int p3), (.int p4), (.int p5)] maxLocals)) t) := by
      rcases hPw13 with rfl | ⟨a13, rfl⟩
      · rcases hPw14 with rfl | ⟨a14, rfl⟩
        · -- 0 0
          refine ⟨T559, _, (1 : Int32), X559, e559, N559, hr16.elim (fun q => q.1.symm) (fun q => absurd ⟨rfl, rfl⟩ q.2), fun t kt => ?_⟩
          refine ck560 _ ?_
          refine XS.aload X559.here hx rfl (hb hby at_240) rfl rfl ?_
          refine XS.ifnonnullNo X559.here hx rfl (hb hby at_242) rfl ?_
          refine XS.aload X559.here hx rfl (hb hby at_245) rfl rfl ?_
          refine XS.ifnonnullNo X559.here hx rfl (hb hby at_247) rfl ?_
          refine XS.iconst X559.here hx rfl (hb hby at_250) ?_
          refine XS.goto X559.here hx rfl (pc0 := 251) (pc' := 255) rfl (hb hby at_251) (by decide) (by decide) ?_
          exact kt
        · -- 0 1
          refine ⟨T559, _, (0 : Int32), X559, e559, N559, hr16.elim (fun q => absurd q.2.2 nofun) (fun q => q.1.symm), fun t kt => ?_⟩
          refine ck560 _ ?_
          refine XS.aload X559.here hx rfl (hb hby at_240) rfl rfl ?_
          refine XS.ifnonnullNo X559.here hx rfl (hb hby at_242) rfl ?_
          refine XS.aload X559.here hx rfl (hb hby at_245) rfl rfl ?_
          refine XS.ifnonnullYes X559.here hx rfl (pc0 := 247) (pc' := 254) rfl (hb hby at_247) rfl (by decide) (by decide) ?_
          refine XS.iconst X559.here hx rfl (hb hby at_254) ?_
          exact kt
      · rcases hPw14 with rfl | ⟨a14, rfl⟩
        · -- 1 0
          refine ⟨T559, _, (0 : Int32), X559, e559, N559, hr16.elim (fun q => absurd q.2.1 nofun) (fun q => q.1.symm), fun t kt => ?_⟩
          refine ck560 _ ?_
          refine XS.aload X559.here hx rfl (hb hby at_240) rfl rfl ?_
          refine XS.ifnonnullYes X559.here hx rfl (pc0 := 242) (pc' := 254) rfl (hb hby at_242) rfl (by decide) (by decide) ?_
          refine XS.iconst X559.here hx rfl (hb hby at_254) ?_
          exact kt
        · -- 1 1
          refine ⟨T559, _, (0 : Int32), X559, e559, N559, hr16.elim (fun q => absurd q.2.1 nofun) (fun q => q.1.symm), fun t kt => ?_⟩
          refine ck560 _ ?_
          refine XS.aload X559.here hx rfl (hb hby at_240) rfl rfl ?_
          refine XS.ifnonnullYes X559.here hx rfl (pc0 := 242) (pc' := 254) rfl (hb hby at_242) rfl (by decide) (by decide) ?_
          refine XS.iconst X559.here hx rfl (hb hby at_254) ?_
          exact kt
    have hq16 := hj561_0
    obtain ⟨fs, hr, hrun, hended, hW⟩ := X561.leaveW hSi552 (show _ ≤ T561.heap.size by rw [e561]; exact hSk558) (v := some (.int (1 : Int32))) (fun h => by rw [Bd.returns] at h; cases h)
    refine ⟨_, _, ck561 _ ?_, hrun, hended, _, _, rfl, ?_, own_retW (k := 18) (n := 60) hW (by decide) (by decide)⟩
    · refine XS.icmpNo X561.here hx rfl (hb hby at_255) rfl (teq (hq16.symm : r16 = q16)).2 ?_
      refine XS.iconst X561.here hx rfl (hb hby at_258) ?_
      refine XS.goto X561.here hx rfl (pc0 := 259) (pc' := 263) rfl (hb hby at_259) (by decide) (by decide) ?_
      refine XS.istore X561.here hx rfl (hb hby at_263) rfl (l' := #[.val (.int p0), .val (.int p1), .val (.int p2), .val (.int p3), .val (.int p4), .val (.int p5), .val (.int z), .val (.ref ca), .val (.ref tx), .val (.int ex9), .val .null, .val (.int (0 : Int32)), .val (.int (1 : Int32)), .val w13, .val w14, .val (.ref b553), .val (.int (1 : Int32))]) rfl ?_
      refine XS.iload X561.here hx rfl (hb hby at_265) rfl ?_
      refine XS.ifNo X561.here hx rfl (hb hby at_267) rfl ((if0 _ _).trans (feq (by decide : ¬ ((1 : Int32) = (0 : Int32)))).1) ?_
      refine XS.iload X561.here hx rfl (hb hby at_270) rfl ?_
      refine XS.ifNo X561.here hx rfl (hb hby at_272) rfl ((if0 _ _).trans (feq (by decide : ¬ ((1 : Int32) = (0 : Int32)))).1) ?_
      refine XS.iconst X561.here hx rfl (hb hby at_275) ?_
      refine XS.goto X561.here hx rfl (pc0 := 276) (pc' := 280) rfl (hb hby at_276) (by decide) (by decide) ?_
      exact retN X561 hx (t := .boolean) Bd.returns (by simp) (hb hby at_280) hr
    · show own_Made (some (.int 1)) n0 _ T561.heap _
      rw [e561]
      exact ⟨rfl, N561, trivial⟩
  · -- Numeral.of: an object
    have Fx562 := (hSt.ext E546)
    obtain ⟨_, _, ⟨T563, L563, k563, n563⟩, -, X563, ⟨Lc563, hQ563, l563, y563, z563⟩, st563⟩ := Jvm.LawKit.callS X546 hx (y := (⟨"com/example/rowstrata/rowstrata/type/Numeral", "isWholeNumber", "(Ljava/lang/String;)Z"⟩ : MethodName)) hown (mvT hZ (own_q hw 56 rfl)) (mvT hZ (own_q hw 57 rfl)) (mvT hZ (own_q hw 40 rfl)) (mvT hZ (own_q hw 58 rfl)) (by decide) (backOf (W := 0) (rm_iwn l Z a0 hw [] tx T546.heap n0 (Nat.le_trans Z0 EX546.1) vb kb z ch cst fmt Fx562 (hT.ext EX546) hz0) hZ (own_q hw 58 rfl) (own_q hw 40 rfl) (by decide) (by decide)) (g := (mkF m 133 #[.val (.int p0), .val (.int p1), .val (.int p2), .val (.int p3), .val (.int p4), .val (.int p5), .val (.int z), .val (.ref ca), .val (.ref tx), .val (.int ex9), .val (.ref bo), .unset, .unset, .unset, .unset, .unset, .unset] [(.ref tx)])) rfl (by rw [hml]; rfl) (argsL := [(.ref tx)]) (rest := []) (lenOf pd_644 rfl) rfl (by show 2 * 0 + _ ≤ _; exact Nat.le_of_eq rfl) (hb hby at_133) (fun _ _ => ⟨rfl, e546, (by decide : 12 + 1 ≤ _), (by decide : 44 + 4 ≤ _)⟩)
    dsimp only [Pt.U, Pt.locs, Pt.cells, Pt.slots] at X563 l563 y563 z563 st563 hQ563
    subst l563 y563 z563
    obtain ⟨r11, rfl, N563q, E563, hWN⟩ := hQ563
    have N563 := Fr.app N546 N563q
    have e563 : T563.heap = T563.heap := rfl
    have hSk563 := Nat.le_trans (Nat.le_refl T546.heap.size) E563.1
    have EX563 := own_ext_trans EX546 E563
    have KP563 := Keep.ext KP546 E563
    obtain ⟨r13, hr13, hag1, hag2⟩ := own_agree hok ofr oex hWN hexp
    have Fx564 := (F_fr.ext E563)
    have Fx565 := (F_ex.ext E563)
    have Fx566 := (E_bo.ext E563)
    obtain ⟨cq567, kq567, q567a, q567b, q567c⟩ := isOf hZ e563 (Fx566)
    obtain ⟨_, _, ⟨T567, L567, k567, n567⟩, -, X567, ⟨Lc567, hQ567, l567, y567, z567⟩, st567⟩ := X563.virtualBack hx (y := (⟨"com/example/rowstrata/rowstrata/type/Numeral", "isWhole", "()Z"⟩ : MethodName)) (z := (⟨"com/example/rowstrata/rowstrata/type/Numeral", "isWhole", "()Z"⟩ : MethodName)) hown (mvT hZ (own_q hw 82 rfl)) (mvT hZ (own_q hw 83 rfl)) (notFace_of_selects (args := #[]) (mvT hZ (own_q hw 85 rfl))) (mvT hZ (own_q hw 85 rfl)) (mvT hZ (own_q hw 84 rfl)) (by decide) (backOf (W := 0) (rm_iswV l Z a0 hw [] bo T563.heap n0 (Nat.le_trans Z0 EX563.1) fr ex (own_optV ofr) (own_optV oex) Fx564 Fx565 r13 hr13) hZ (own_q hw 86 rfl) (own_q hw 40 rfl) (by decide) (by decide)) q567a q567c (g := (mkF m 160 #[.val (.int p0), .val (.int p1), .val (.int p2), .val (.int p3), .val (.int p4), .val (.int p5), .val (.int z), .val (.ref ca), .val (.ref tx), .val (.int ex9), .val (.ref bo), .val (.int r11), .unset, .unset, .unset, .unset, .unset] [(.ref bo)])) rfl (by rw [hml]; rfl) (Steps.refl _) (argsL := []) (rest := []) (lenOf pd_52 rfl) rfl (by show 2 * 0 + _ ≤ _; exact Nat.le_of_eq rfl) (hb hby at_160) (fun _ _ => ⟨rfl, e563, (by decide : 13 + 0 ≤ _), (by decide : 48 + 0 ≤ _)⟩)
    dsimp only [Pt.U, Pt.locs, Pt.cells, Pt.slots] at X567 l567 y567 z567 st567 hQ567
    subst l567 y567 z567
    obtain ⟨rfl, N567q, e567⟩ := hQ567
    have N567 := Fr.app N563 N567q
    have ck568 : ∀ t, Steps p.tables e below (T567.setTop (mkF m 192 #[.val (.int p0), .val (.int p1), .val (.int p2), .val (.int p3), .val (.int p4), .val (.int p5), .val (.int z), .val (.ref ca), .val (.ref tx), .val (.int ex9), .val (.ref bo), .val (.int r11), .val (.int (1 : Int32)), .val (.int r13), .unset, .unset, .unset] [(.ref tx), (.int ((p5.toUInt32 >>> ((1 : Int32) &&& 31).toUInt32).toInt32))])) t → Steps p.tables e below (s₁.setTop (entryFrame m #[(.int p0), (.int p1), (.int p2), (.int p3), (.int p4), (.int p5)] maxLocals)) t := by
      intro t kt
      refine ck545 _ ?_
      refine st546.trans ?_
      show Steps p.tables e below (T546.setTop (mkF m 129 #[.val (.int p0), .val (.int p1), .val (.int p2), .val (.int p3), .val (.int p4), .val (.int p5), .val (.int z), .val (.ref ca), .val (.ref tx), .val (.int ex9), .unset, .unset, .unset, .unset, .unset, .unset, .unset] [(.ref bo)])) _
      refine XS.astore X546.here hx rfl (hb hby at_129) rfl rfl (l' := #[.val (.int p0), .val (.int p1), .val (.int p2), .val (.int p3), .val (.int p4), .val (.int p5), .val (.int z), .val (.ref ca), .val (.ref tx), .val (.int ex9), .val (.ref bo), .unset, .unset, .unset, .unset, .unset, .unset]) rfl ?_
      refine XS.aload X546.here hx rfl (hb hby at_131) rfl rfl ?_
      refine st563 _ ?_
      show Steps p.tables e below (T563.setTop (mkF m 136 #[.val (.int p0), .val (.int p1), .val (.int p2), .val (.int p3), .val (.int p4), .val (.int p5), .val (.int z), .val (.ref ca), .val (.ref tx), .val (.int ex9), .val (.ref bo), .unset, .unset, .unset, .unset, .unset, .unset] [(.int r11)])) _
      refine XS.istore X563.here hx rfl (hb hby at_136) rfl (l' := #[.val (.int p0), .val (.int p1), .val (.int p2), .val (.int p3), .val (.int p4), .val (.int p5), .val (.int z), .val (.ref ca), .val (.ref tx), .val (.int ex9), .val (.ref bo), .val (.int r11), .unset, .unset, .unset, .unset, .unset]) rfl ?_
      refine XS.aload X563.here hx rfl (hb hby at_138) rfl rfl ?_
      refine XS.ifnonnullYes X563.here hx rfl (pc0 := 140) (pc' := 158) rfl (hb hby at_140) rfl (by decide) (by decide) ?_
      refine XS.aload X563.here hx rfl (hb hby at_158) rfl rfl ?_
      refine st567.trans ?_
      show Steps p.tables e below (T567.setTop (mkF m 163 #[.val (.int p0), .val (.int p1), .val (.int p2), .val (.int p3), .val (.int p4), .val (.int p5), .val (.int z), .val (.ref ca), .val (.ref tx), .val (.int ex9), .val (.ref bo), .val (.int r11), .unset, .unset, .unset, .unset, .unset] [(.int r13)])) _
      refine XS.istore X567.here hx rfl (hb hby at_163) rfl (l' := #[.val (.int p0), .val (.int p1), .val (.int p2), .val (.int p3), .val (.int p4), .val (.int p5), .val (.int z), .val (.ref ca), .val (.ref tx), .val (.int ex9), .val (.ref bo), .val (.int r11), .unset, .val (.int r13), .unset, .unset, .unset]) rfl ?_
      refine XS.iload X567.here hx rfl (hb hby at_165) rfl ?_
      refine XS.iload X567.here hx rfl (hb hby at_167) rfl ?_
      refine XS.icmpNo X567.here hx rfl (hb hby at_169) rfl (teq (hag1 : r13 = ex9)).2 ?_
      refine XS.iload X567.here hx rfl (hb hby at_172) rfl ?_
      refine XS.iload X567.here hx rfl (hb hby at_174) rfl ?_
      refine XS.icmpNo X567.here hx rfl (hb hby at_176) rfl (teq (hag2 : r13 = r11)).2 ?_
      refine XS.iconst X567.here hx rfl (hb hby at_179) ?_
      refine XS.goto X567.here hx rfl (pc0 := 180) (pc' := 184) rfl (hb hby at_180) (by decide) (by decide) ?_
      refine XS.istore X567.here hx rfl (hb hby at_184) rfl (l' := #[.val (.int p0), .val (.int p1), .val (.int p2), .val (.int p3), .val (.int p4), .val (.int p5), .val (.int z), .val (.ref ca), .val (.ref tx), .val (.int ex9), .val (.ref bo), .val (.int r11), .val (.int (1 : Int32)), .val (.int r13), .unset, .unset, .unset]) rfl ?_
      refine XS.iload X567.here hx rfl (hb hby at_186) rfl ?_
      refine XS.iconst X567.here hx rfl (hb hby at_188) ?_
      refine XS.iushr X567.here hx rfl (hb hby at_189) rfl ?_
      refine XS.aload X567.here hx rfl (hb hby at_190) rfl rfl ?_
      exact kt
    (try clear N567q); (try clear st567); (try clear Lc567); (try clear n567); (try clear k567); (try clear L567); (try clear q567c); (try clear q567b); (try clear q567a); (try clear kq567); (try clear cq567); (try clear e563); (try clear N563); (try clear N563q); (try clear st563); (try clear Lc563); (try clear X563); (try clear n563); (try clear k563); (try clear L563); (try clear T563)
    obtain ⟨_, _, ⟨T569, L569, k569, n569⟩, -, X569r, S569r, g569r, ⟨Lc569, hQ569, l569, y569, z569⟩, st569⟩ := Jvm.RoadKit.callSS X567 hx (y := (⟨"com/example/rowstrata/rowstrata/type/NumeralIsWholePinLaw", "part", "(ILjava/lang/String;)Ljava/lang/String;"⟩ : MethodName)) hown (mvT hZ (own_q hw 59 rfl)) (mvT hZ (own_q hw 60 rfl)) (mvT hZ (own_q hw 25 rfl)) (mvT hZ (own_q hw 61 rfl)) (by decide) (backOfS (W := 0) (rm_part l Z a0 hw [] ((p5.toUInt32 >>> ((1 : Int32) &&& 31).toUInt32).toInt32) tx T563.heap n0 (Nat.le_trans Z0 EX563.1)) hZ (own_q hw 61 rfl) (own_q hw 25 rfl) (by decide) (by decide)) (g := (mkF m 192 #[.val (.int p0), .val (.int p1), .val (.int p2), .val (.int p3), .val (.int p4), .val (.int p5), .val (.int z), .val (.ref ca), .val (.ref tx), .val (.int ex9), .val (.ref bo), .val (.int r11), .val (.int (1 : Int32)), .val (.int r13), .unset, .unset, .unset] [(.ref tx), (.int ((p5.toUInt32 >>> ((1 : Int32) &&& 31).toUInt32).toInt32))])) rfl (by rw [hml]; rfl) (argsL := [(.int ((p5.toUInt32 >>> ((1 : Int32) &&& 31).toUInt32).toInt32)), (.ref tx)]) (rest := []) (lenOf pd_645 rfl) rfl (by show 2 * 0 + _ ≤ _; exact Nat.le_of_eq rfl) (hb hby at_192) (fun _ _ => ⟨rfl, e567, (by decide : 13 + 2 ≤ _), (by decide : 48 + 4 ≤ _)⟩)
    dsimp only [Pt.U, Pt.locs, Pt.cells, Pt.slots] at X569r S569r g569r l569 y569 z569 st569 hQ569
    subst l569 y569 z569
    obtain ⟨X569, hSi569, hZ, hown⟩ := rebS hSi546 (show _ ≤ T567.heap.size by rw [e567]; exact hSk563) X569r S569r g569r hZ hown
    obtain ⟨w13, rfl, N569q, E569, hPw13⟩ := hQ569
    have N569 := Fr.app N567 N569q
    have e569 : T569.heap = T569.heap := rfl
    have hSk569 := Nat.le_trans hSk563 E569.1
    have EX569 := own_ext_trans EX563 E569
    have KP569 := Keep.ext KP563 E569
    have ck570 : ∀ t, Steps p.tables e below (T569.setTop (mkF m 203 #[.val (.int p0), .val (.int p1), .val (.int p2), .val (.int p3), .val (.int p4), .val (.int p5), .val (.int z), .val (.ref ca), .val (.ref tx), .val (.int ex9), .val (.ref bo), .val (.int r11), .val (.int (1 : Int32)), .val w13, .unset, .unset, .unset] [(.ref tx), (.int ((p5.toUInt32 >>> ((3 : Int32) &&& 31).toUInt32).toInt32))])) t → Steps p.tables e below (s₁.setTop (entryFrame m #[(.int p0), (.int p1), (.int p2), (.int p3), (.int p4), (.int p5)] maxLocals)) t := by
      intro t kt
      refine ck568 _ ?_
      refine st569.trans ?_
      show Steps p.tables e below (T569.setTop (mkF m 195 #[.val (.int p0), .val (.int p1), .val (.int p2), .val (.int p3), .val (.int p4), .val (.int p5), .val (.int z), .val (.ref ca), .val (.ref tx), .val (.int ex9), .val (.ref bo), .val (.int r11), .val (.int (1 : Int32)), .val (.int r13), .unset, .unset, .unset] [w13])) _
      refine XS.astore X569.here hx rfl (hb hby at_195) rfl (own_isR hPw13) (l' := #[.val (.int p0), .val (.int p1), .val (.int p2), .val (.int p3), .val (.int p4), .val (.int p5), .val (.int z), .val (.ref ca), .val (.ref tx), .val (.int ex9), .val (.ref bo), .val (.int r11), .val (.int (1 : Int32)), .val w13, .unset, .unset, .unset]) (by rcases ref_cases (own_isR hPw13) with hq | ⟨_, hq⟩ <;> rw [hq] <;> rfl) ?_
      refine XS.iload X569.here hx rfl (hb hby at_197) rfl ?_
      refine XS.iconst X569.here hx rfl (hb hby at_199) ?_
      refine XS.iushr X569.here hx rfl (hb hby at_200) rfl ?_
      refine XS.aload X569.here hx rfl (hb hby at_201) rfl rfl ?_
      exact kt
    (try clear N569q); (try clear st569); (try clear Lc569); (try clear n569); (try clear k569); (try clear L569)
    obtain ⟨_, _, ⟨T571, L571, k571, n571⟩, -, X571r, S571r, g571r, ⟨Lc571, hQ571, l571, y571, z571⟩, st571⟩ := Jvm.RoadKit.callSS X569 hx (y := (⟨"com/example/rowstrata/rowstrata/type/NumeralIsWholePinLaw", "part", "(ILjava/lang/String;)Ljava/lang/String;"⟩ : MethodName)) hown (mvT hZ (own_q hw 59 rfl)) (mvT hZ (own_q hw 60 rfl)) (mvT hZ (own_q hw 25 rfl)) (mvT hZ (own_q hw 61 rfl)) (by decide) (backOfS (W := 0) (rm_part l Z a0 hw [] ((p5.toUInt32 >>> ((3 : Int32) &&& 31).toUInt32).toInt32) tx T569.heap n0 (Nat.le_trans Z0 EX569.1)) hZ (own_q hw 61 rfl) (own_q hw 25 rfl) (by decide) (by decide)) (g := (mkF m 203 #[.val (.int p0), .val (.int p1), .val (.int p2), .val (.int p3), .val (.int p4), .val (.int p5), .val (.int z), .val (.ref ca), .val (.ref tx), .val (.int ex9), .val (.ref bo), .val (.int r11), .val (.int (1 : Int32)), .val w13, .unset, .unset, .unset] [(.ref tx), (.int ((p5.toUInt32 >>> ((3 : Int32) &&& 31).toUInt32).toInt32))])) rfl (by rw [hml]; rfl) (argsL := [(.int ((p5.toUInt32 >>> ((3 : Int32) &&& 31).toUInt32).toInt32)), (.ref tx)]) (rest := []) (lenOf pd_645 rfl) rfl (by show 2 * 0 + _ ≤ _; exact Nat.le_of_eq rfl) (hb hby at_203) (fun _ _ => ⟨rfl, e569, (by decide : 15 + 2 ≤ _), (by decide : 52 + 4 ≤ _)⟩)
    dsimp only [Pt.U, Pt.locs, Pt.cells, Pt.slots] at X571r S571r g571r l571 y571 z571 st571 hQ571
    subst l571 y571 z571
    obtain ⟨X571, hSi571, hZ, hown⟩ := rebS hSi569 (show _ ≤ T569.heap.size by rw [e569]; exact (Nat.le_refl T569.heap.size)) X571r S571r g571r hZ hown
    obtain ⟨w14, rfl, N571q, E571, hPw14⟩ := hQ571
    have N571 := Fr.app N569 N571q
    have e571 : T571.heap = T571.heap := rfl
    have hSk571 := Nat.le_trans (Nat.le_refl T569.heap.size) E571.1
    have EX571 := own_ext_trans EX569 E571
    have KP571 := Keep.ext KP569 E571
    obtain ⟨T572, h572, X572, e572, E572, A572, D572, -, st572⟩ := newO X571 hx hZ hown (own_q hw 63 rfl) (own_q hw 64 rfl) (own_q hw 40 rfl) e571 (g := (mkF m 208 #[.val (.int p0), .val (.int p1), .val (.int p2), .val (.int p3), .val (.int p4), .val (.int p5), .val (.int z), .val (.ref ca), .val (.ref tx), .val (.int ex9), .val (.ref bo), .val (.int r11), .val (.int (1 : Int32)), .val w13, .val w14, .unset, .unset] [])) rfl (hb hby at_208) (by decide) (by decide)
    obtain ⟨b572, g572⟩ : ∃ z, z = T571.heap.size := ⟨_, rfl⟩
    rw [← g572] at A572 D572 st572
    have sz_b572 : h0.size ≤ b572 := Nat.le_trans KP571.1 (Nat.le_of_eq g572.symm)
    have gn_b572 : n0 ≤ b572 := Nat.le_trans Z0 sz_b572
    have hSk572 := Nat.le_trans (Nat.le_refl T571.heap.size) E572.1
    have EX572 := own_ext_trans EX571 E572
    have KP572 := Keep.ext KP571 E572
    have F572_negative : Fld Z h572 b572 "com/example/rowstrata/rowstrata/type/Numeral" "negative" "Z" (.int (0 : Int32)) := D572 (Or.inr (own_q hw 75 rfl)) (ty := .boolean) (by decide)
    have F572_digits : Fld Z h572 b572 "com/example/rowstrata/rowstrata/type/Numeral" "digits" "Ljava/lang/String;" .null := D572 (Or.inr (own_q hw 77 rfl)) (ty := (.object "java/lang/String")) (by decide)
    have F572_fraction : Fld Z h572 b572 "com/example/rowstrata/rowstrata/type/Numeral" "fraction" "Ljava/lang/String;" .null := D572 (Or.inr (own_q hw 79 rfl)) (ty := (.object "java/lang/String")) (by decide)
    have F572_exponent : Fld Z h572 b572 "com/example/rowstrata/rowstrata/type/Numeral" "exponent" "Ljava/lang/String;" .null := D572 (Or.inr (own_q hw 81 rfl)) (ty := (.object "java/lang/String")) (by decide)
    have ck573 : ∀ t, Steps p.tables e below (T572.setTop (mkF m 212 #[.val (.int p0), .val (.int p1), .val (.int p2), .val (.int p3), .val (.int p4), .val (.int p5), .val (.int z), .val (.ref ca), .val (.ref tx), .val (.int ex9), .val (.ref bo), .val (.int r11), .val (.int (1 : Int32)), .val w13, .val w14, .unset, .unset] [(.ref b572), (.ref b572)])) t → Steps p.tables e below (s₁.setTop (entryFrame m #[(.int p0), (.int p1), (.int p2), (.int p3), (.int p4), (.int p5)] maxLocals)) t := by
      intro t kt
      refine ck570 _ ?_
      refine st571.trans ?_
      show Steps p.tables e below (T571.setTop (mkF m 206 #[.val (.int p0), .val (.int p1), .val (.int p2), .val (.int p3), .val (.int p4), .val (.int p5), .val (.int z), .val (.ref ca), .val (.ref tx), .val (.int ex9), .val (.ref bo), .val (.int r11), .val (.int (1 : Int32)), .val w13, .unset, .unset, .unset] [w14])) _
      refine XS.astore X571.here hx rfl (hb hby at_206) rfl (own_isR hPw14) (l' := #[.val (.int p0), .val (.int p1), .val (.int p2), .val (.int p3), .val (.int p4), .val (.int p5), .val (.int z), .val (.ref ca), .val (.ref tx), .val (.int ex9), .val (.ref bo), .val (.int r11), .val (.int (1 : Int32)), .val w13, .val w14, .unset, .unset]) (by rcases ref_cases (own_isR hPw14) with hq | ⟨_, hq⟩ <;> rw [hq] <;> rfl) ?_
      refine st572 _ ?_
      show Steps p.tables e below (T572.setTop (mkF m 211 #[.val (.int p0), .val (.int p1), .val (.int p2), .val (.int p3), .val (.int p4), .val (.int p5), .val (.int z), .val (.ref ca), .val (.ref tx), .val (.int ex9), .val (.ref bo), .val (.int r11), .val (.int (1 : Int32)), .val w13, .val w14, .unset, .unset] [(.ref b572)])) _
      refine XS.dup X572.here hx rfl (hb hby at_211) rfl rfl ?_
      exact kt
    (try clear st572); (try clear D572); (try clear KP571); (try clear EX571); (try clear e571); (try clear N571q); (try clear X571); (try clear st571); (try clear Lc571); (try clear n571); (try clear k571); (try clear L571); (try clear T571)
    obtain ⟨T575, L575, ng, X575, e575, N575, hj575_0, ck575⟩ : ∃ (TJ : State) (LJ : List Loc) (ng : Int32), Stand p l e room_1 (s.setVm T571.vm) m #[(.int p0), (.int p1), (.int p2), (.int p3), (.int p4), (.int p5)] below meth c TJ LJ 18 60 ∧ TJ.heap = h572 ∧ Fr n0 LJ ∧ (ng = (0 : Int32) ∨ ng = (1 : Int32)) ∧ (∀ t, Steps p.tables e below (TJ.setTop (mkF m 224 #[.val (.int p0), .val (.int p1), .val (.int p2), .val (.int p3), .val (.int p4), .val (.int p5), .val (.int z), .val (.ref ca), .val (.ref tx), .val (.int ex9), .val (.ref bo), .val (.int r11), .val (.int (1 : Int32)), .val w13, .val w14, .unset, .unset] [(.int ng), (.ref b572), (.ref b572)])) t → Steps p.tables e below (s₁.setTop (entryFrame m #[(.int p0), (.int p1), (.int p2), (.int p3), (.int p4), (.int p5)] maxLocals)) t) := by
      by_cases hc216_576 : (p5 &&& (1 : Int32)) = (0 : Int32)
      · -- pc 216: yes
        refine ⟨T572, _, (0 : Int32), X572, e572, N571, Or.inl rfl, fun t kt => ?_⟩
        refine ck573 _ ?_
        refine XS.iload X572.here hx rfl (hb hby at_212) rfl ?_
        refine XS.iconst X572.here hx rfl (hb hby at_214) ?_
        refine XS.iand X572.here hx rfl (hb hby at_215) rfl ?_
        refine XS.ifYes X572.here hx rfl (pc0 := 216) (pc' := 223) rfl (hb hby at_216) rfl ((if0 _ _).trans (teq hc216_576).1) (by decide) (by decide) ?_
        refine XS.iconst X572.here hx rfl (hb hby at_223) ?_
        exact kt
      · -- pc 216: no
        refine ⟨T572, _, (1 : Int32), X572, e572, N571, Or.inr rfl, fun t kt => ?_⟩
        refine ck573 _ ?_
        refine XS.iload X572.here hx rfl (hb hby at_212) rfl ?_
        refine XS.iconst X572.here hx rfl (hb hby at_214) ?_
        refine XS.iand X572.here hx rfl (hb hby at_215) rfl ?_
        refine XS.ifNo X572.here hx rfl (hb hby at_216) rfl ((if0 _ _).trans (feq hc216_576).1) ?_
        refine XS.iconst X572.here hx rfl (hb hby at_219) ?_
        refine XS.goto X572.here hx rfl (pc0 := 220) (pc' := 224) rfl (hb hby at_220) (by decide) (by decide) ?_
        exact kt
    have hng := hj575_0
    obtain ⟨_, _, ⟨T577, L577, k577, n577⟩, -, X577, ⟨Lc577, hQ577, l577, y577, z577⟩, st577⟩ := X575.specialBack hx (y := (⟨"com/example/rowstrata/rowstrata/type/Numeral", "<init>", "(ZLjava/lang/String;Ljava/lang/String;Ljava/lang/String;)V"⟩ : MethodName)) rfl hown (mvT hZ (own_q hw 65 rfl)) (mvT hZ (own_q hw 66 rfl)) (mvT hZ (own_q hw 67 rfl)) (by decide) (backOf (W := 1) (rm_nin l Z a0 hw [] b572 ng tx w13 w14 h572 n0 (Nat.le_trans Z0 EX572.1) hng (own_isR hPw13) (own_isR hPw14) A572 F572_negative F572_digits F572_fraction F572_exponent gn_b572) hZ (own_q hw 67 rfl) (own_q hw 40 rfl) (by decide) (by decide)) (g := (mkF m 230 #[.val (.int p0), .val (.int p1), .val (.int p2), .val (.int p3), .val (.int p4), .val (.int p5), .val (.int z), .val (.ref ca), .val (.ref tx), .val (.int ex9), .val (.ref bo), .val (.int r11), .val (.int (1 : Int32)), .val w13, .val w14, .unset, .unset] [w14, w13, (.ref tx), (.int ng), (.ref b572), (.ref b572)])) rfl (by rw [hml]; rfl) (Steps.refl _) (a := b572) (argsL := [(.int ng), (.ref tx), w13, w14]) (rest := [(.ref b572)]) (lenOf pd_500 rfl) rfl (by show 2 * 0 + _ ≤ _; exact Nat.le_of_eq rfl) (hb hby at_230) (fun _ _ => ⟨rfl, e575, (by decide : 18 + 0 ≤ _), (by decide : 60 + 0 ≤ _)⟩)
    dsimp only [Pt.U, Pt.locs, Pt.cells, Pt.slots] at X577 l577 y577 z577 st577 hQ577
    subst l577 y577 z577
    obtain ⟨rfl, N577q, K577, Ea577, Ff577, Fe577⟩ := hQ577
    have N577 := Fr.app N575 N577q
    have e577 : T577.heap = T577.heap := rfl
    have hSk577 := Nat.le_trans hSk572 K577.1
    have EX577 := own_ext_keep EX572 K577 (allS sz_b572 all0)
    have KP577 := Keep.trans KP572 K577 (allS (Or.inr sz_b572) all0)
    obtain ⟨r16, hr16⟩ := own_wex w13 w14
    obtain ⟨cq578, kq578, q578a, q578b, q578c⟩ := isOf hZ e577 (Ea577)
    obtain ⟨_, _, ⟨T578, L578, k578, n578⟩, -, X578, ⟨Lc578, hQ578, l578, y578, z578⟩, st578⟩ := X577.virtualBack hx (y := (⟨"com/example/rowstrata/rowstrata/type/Numeral", "isWhole", "()Z"⟩ : MethodName)) (z := (⟨"com/example/rowstrata/rowstrata/type/Numeral", "isWhole", "()Z"⟩ : MethodName)) hown (mvT hZ (own_q hw 82 rfl)) (mvT hZ (own_q hw 83 rfl)) (notFace_of_selects (args := #[]) (mvT hZ (own_q hw 85 rfl))) (mvT hZ (own_q hw 85 rfl)) (mvT hZ (own_q hw 84 rfl)) (by decide) (backOf (W := 0) (rm_iswV l Z a0 hw [] b572 T577.heap n0 (Nat.le_trans Z0 EX577.1) w13 w14 hPw13 hPw14 Ff577 Fe577 r16 hr16) hZ (own_q hw 86 rfl) (own_q hw 40 rfl) (by decide) (by decide)) q578a q578c (g := (mkF m 237 #[.val (.int p0), .val (.int p1), .val (.int p2), .val (.int p3), .val (.int p4), .val (.int p5), .val (.int z), .val (.ref ca), .val (.ref tx), .val (.int ex9), .val (.ref bo), .val (.int r11), .val (.int (1 : Int32)), .val w13, .val w14, .val (.ref b572), .unset] [(.ref b572)])) rfl (by rw [hml]; rfl) (Steps.refl _) (argsL := []) (rest := []) (lenOf pd_52 rfl) rfl (by show 2 * 0 + _ ≤ _; exact Nat.le_of_eq rfl) (hb hby at_237) (fun _ _ => ⟨rfl, e577, (by decide : 18 + 0 ≤ _), (by decide : 60 + 0 ≤ _)⟩)
    dsimp only [Pt.U, Pt.locs, Pt.cells, Pt.slots] at X578 l578 y578 z578 st578 hQ578
    subst l578 y578 z578
    obtain ⟨rfl, N578q, e578⟩ := hQ578
    have N578 := Fr.app N577 N578q
    have ck579 : ∀ t, Steps p.tables e below (T578.setTop (mkF m 240 #[.val (.int p0), .val (.int p1), .val (.int p2), .val (.int p3), .val (.int p4), .val (.int p5), .val (.int z), .val (.ref ca), .val (.ref tx), .val (.int ex9), .val (.ref bo), .val (.int r11), .val (.int (1 : Int32)), .val w13, .val w14, .val (.ref b572), .unset] [(.int r16)])) t → Steps p.tables e below (s₁.setTop (entryFrame m #[(.int p0), (.int p1), (.int p2), (.int p3), (.int p4), (.int p5)] maxLocals)) t := by
      intro t kt
      refine ck575 _ ?_
      refine XS.aload X575.here hx rfl (hb hby at_224) rfl rfl ?_
      refine XS.aload X575.here hx rfl (hb hby at_226) rfl (own_isR hPw13) ?_
      refine XS.aload X575.here hx rfl (hb hby at_228) rfl (own_isR hPw14) ?_
      refine st577.trans ?_
      show Steps p.tables e below (T577.setTop (mkF m 233 #[.val (.int p0), .val (.int p1), .val (.int p2), .val (.int p3), .val (.int p4), .val (.int p5), .val (.int z), .val (.ref ca), .val (.ref tx), .val (.int ex9), .val (.ref bo), .val (.int r11), .val (.int (1 : Int32)), .val w13, .val w14, .unset, .unset] [(.ref b572)])) _
      refine XS.astore X577.here hx rfl (hb hby at_233) rfl rfl (l' := #[.val (.int p0), .val (.int p1), .val (.int p2), .val (.int p3), .val (.int p4), .val (.int p5), .val (.int z), .val (.ref ca), .val (.ref tx), .val (.int ex9), .val (.ref bo), .val (.int r11), .val (.int (1 : Int32)), .val w13, .val w14, .val (.ref b572), .unset]) rfl ?_
      refine XS.aload X577.here hx rfl (hb hby at_235) rfl rfl ?_
      refine st578.trans ?_
      exact kt
    (try clear N578q); (try clear st578); (try clear Lc578); (try clear n578); (try clear k578); (try clear L578); (try clear q578c); (try clear q578b); (try clear q578a); (try clear kq578); (try clear cq578); (try clear e577); (try clear N577); (try clear N577q); (try clear st577); (try clear Lc577); (try clear X577); (try clear n577); (try clear k577); (try clear L577); (try clear T577)
    obtain ⟨T580, L580, q16, X580, e580, N580, hj580_0, ck580⟩ : ∃ (TJ : State) (LJ : List Loc) (q16 : Int32), Stand p l e room_1 (s.setVm T571.vm) m #[(.int p0), (.int p1), (.int p2), (.int p3), (.int p4), (.int p5)] below meth c TJ LJ 18 60 ∧ TJ.heap = T577.heap ∧ Fr n0 LJ ∧ (q16 = r16) ∧ (∀ t, Steps p.tables e below (TJ.setTop (mkF m 255 #[.val (.int p0), .val (.int p1), .val (.int p2), .val (.int p3), .val (.int p4), .val (.int p5), .val (.int z), .val (.ref ca), .val (.ref tx), .val (.int ex9), .val (.ref bo), .val (.int r11), .val (.int (1 : Int32)), .val w13, .val w14, .val (.ref b572), .unset] [(.int q16), (.int r16)])) t → Steps p.tables e below (s₁.setTop (entryFrame m #[(.int p0), (.int p1), (.int p2), (.int p3), (.int p4), (.int p5)] maxLocals)) t) := by
      rcases hPw13 with rfl | ⟨a13, rfl⟩
      · rcases hPw14 with rfl | ⟨a14, rfl⟩
        · -- 0 0
          refine ⟨T578, _, (1 : Int32), X578, e578, N578, hr16.elim (fun q => q.1.symm) (fun q => absurd ⟨rfl, rfl⟩ q.2), fun t kt => ?_⟩
          refine ck579 _ ?_
          refine XS.aload X578.here hx rfl (hb hby at_240) rfl rfl ?_
          refine XS.ifnonnullNo X578.here hx rfl (hb hby at_242) rfl ?_
          refine XS.aload X578.here hx rfl (hb hby at_245) rfl rfl ?_
          refine XS.ifnonnullNo X578.here hx rfl (hb hby at_247) rfl ?_
          refine XS.iconst X578.here hx rfl (hb hby at_250) ?_
          refine XS.goto X578.here hx rfl (pc0 := 251) (pc' := 255) rfl (hb hby at_251) (by decide) (by decide) ?_
          exact kt
        · -- 0 1
          refine ⟨T578, _, (0 : Int32), X578, e578, N578, hr16.elim (fun q => absurd q.2.2 nofun) (fun q => q.1.symm), fun t kt => ?_⟩
          refine ck579 _ ?_
          refine XS.aload X578.here hx rfl (hb hby at_240) rfl rfl ?_
          refine XS.ifnonnullNo X578.here hx rfl (hb hby at_242) rfl ?_
          refine XS.aload X578.here hx rfl (hb hby at_245) rfl rfl ?_
          refine XS.ifnonnullYes X578.here hx rfl (pc0 := 247) (pc' := 254) rfl (hb hby at_247) rfl (by decide) (by decide) ?_
          refine XS.iconst X578.here hx rfl (hb hby at_254) ?_
          exact kt
      · rcases hPw14 with rfl | ⟨a14, rfl⟩
        · -- 1 0
          refine ⟨T578, _, (0 : Int32), X578, e578, N578, hr16.elim (fun q => absurd q.2.1 nofun) (fun q => q.1.symm), fun t kt => ?_⟩
          refine ck579 _ ?_
          refine XS.aload X578.here hx rfl (hb hby at_240) rfl rfl ?_
          refine XS.ifnonnullYes X578.here hx rfl (pc0 := 242) (pc' := 254) rfl (hb hby at_242) rfl (by decide) (by decide) ?_
          refine XS.iconst X578.here hx rfl (hb hby at_254) ?_
          exact kt
        · -- 1 1
          refine ⟨T578, _, (0 : Int32), X578, e578, N578, hr16.elim (fun q => absurd q.2.1 nofun) (fun q => q.1.symm), fun t kt => ?_⟩
          refine ck579 _ ?_
          refine XS.aload X578.here hx rfl (hb hby at_240) rfl rfl ?_
          refine XS.ifnonnullYes X578.here hx rfl (pc0 := 242) (pc' := 254) rfl (hb hby at_242) rfl (by decide) (by decide) ?_
          refine XS.iconst X578.here hx rfl (hb hby at_254) ?_
          exact kt
    have hq16 := hj580_0
    obtain ⟨fs, hr, hrun, hended, hW⟩ := X580.leaveW hSi571 (show _ ≤ T580.heap.size by rw [e580]; exact hSk577) (v := some (.int (1 : Int32))) (fun h => by rw [Bd.returns] at h; cases h)
    refine ⟨_, _, ck580 _ ?_, hrun, hended, _, _, rfl, ?_, own_retW (k := 18) (n := 60) hW (by decide) (by decide)⟩
    · refine XS.icmpNo X580.here hx rfl (hb hby at_255) rfl (teq (hq16.symm : r16 = q16)).2 ?_
      refine XS.iconst X580.here hx rfl (hb hby at_258) ?_
      refine XS.goto X580.here hx rfl (pc0 := 259) (pc' := 263) rfl (hb hby at_259) (by decide) (by decide) ?_
      refine XS.istore X580.here hx rfl (hb hby at_263) rfl (l' := #[.val (.int p0), .val (.int p1), .val (.int p2), .val (.int p3), .val (.int p4), .val (.int p5), .val (.int z), .val (.ref ca), .val (.ref tx), .val (.int ex9), .val (.ref bo), .val (.int r11), .val (.int (1 : Int32)), .val w13, .val w14, .val (.ref b572), .val (.int (1 : Int32))]) rfl ?_
      refine XS.iload X580.here hx rfl (hb hby at_265) rfl ?_
      refine XS.ifNo X580.here hx rfl (hb hby at_267) rfl ((if0 _ _).trans (feq (by decide : ¬ ((1 : Int32) = (0 : Int32)))).1) ?_
      refine XS.iload X580.here hx rfl (hb hby at_270) rfl ?_
      refine XS.ifNo X580.here hx rfl (hb hby at_272) rfl ((if0 _ _).trans (feq (by decide : ¬ ((1 : Int32) = (0 : Int32)))).1) ?_
      refine XS.iconst X580.here hx rfl (hb hby at_275) ?_
      refine XS.goto X580.here hx rfl (pc0 := 276) (pc' := 280) rfl (hb hby at_276) (by decide) (by decide) ?_
      exact retN X580 hx (t := .boolean) Bd.returns (by simp) (hb hby at_280) hr
    · show own_Made (some (.int 1)) n0 _ T580.heap _
      rw [e580]
      exact ⟨rfl, N580, trivial⟩
set_option maxRecDepth 65536 in
set_option maxHeartbeats 40000000 in
theorem comes_1 {Post : Tables → Env → Array Value → State → Outcome → State → Prop} (hpost : ∀ tb e args s v u, (limb_1_1.after args s (.returned v) u = true ∧ limb_1_2.after args s (.returned v) u = true ∧ True) → ReturnedEndW s (.returned v) u (Jvm.fieldLocs frame_1_writes args s ++ Jvm.arrayLocs frame_1_arrays args s ++ Jvm.staticLocs frame_1_statics s) 40 3264 → Post tb e args s (.returned v) u) :
    ArmFor flags0 classFile x code maxLocals ret World_1 tables_1 room_1 Calls_1 rest_1 Pre_1 Post := by
  intro l hfl _ _ p e ha hc hk s m args below hf hA hF happ hP
  obtain ⟨hcalls, hrest, hpre⟩ := hP
  obtain ⟨-, -, -, hnamed, -, -, -, hat⟩ := (Spec.applies_iff hf).mp happ
  obtain ⟨hg, hn⟩ := and_e (Cond.before_iff.mp (show (Jvm.Cond.and given_1 narrow_1).before args s = true from hpre))
  obtain ⟨gg0, hh0⟩ := and_e hg
  obtain ⟨gg1, hh1⟩ := and_e hh0
  obtain ⟨gg2, hh2⟩ := and_e hh1
  obtain ⟨gg3, hh3⟩ := and_e hh2
  obtain ⟨gg4, hh4⟩ := and_e hh3
  obtain ⟨gg5, hh5⟩ := and_e hh4
  obtain ⟨w0, w1, w2, w3, w4, w5, rfl⟩ : ∃ w0 w1 w2 w3 w4 w5 : Value, args = #[w0, w1, w2, w3, w4, w5] := by
    have hs : args.size = 6 := by simpa [Cond.value, given_1] using gg0
    obtain ⟨L⟩ := args
    match L, hs with
    | [w0, w1, w2, w3, w4, w5], _ => exact ⟨w0, w1, w2, w3, w4, w5, rfl⟩
  have hw := fun d (hd : d ∈ tables_1) => atoms_spec (ws := Jvm.Cond.code x code maxLocals ret :: tables_1) hat d (List.mem_cons_of_mem _ hd)
  have hfit : Fit s := fun {y c} hc i hi => by
    obtain ⟨ha, rfl⟩ := Array.getElem?_eq_some_iff.mp hc
    have q := List.all_eq_true.mp ((Array.all_eq_true_iff_forall_mem.mp hF) _ (Array.getElem_mem ha)) i (List.mem_range.mpr hi)
    simpa [Array.getElem?_eq_getElem hi] using q
  obtain ⟨i0, ei0⟩ := is_v gg1
  obtain rfl : w0 = (.int i0) := Option.some.inj ei0
  obtain ⟨i1, ei1⟩ := is_v gg2
  obtain rfl : w1 = (.int i1) := Option.some.inj ei1
  obtain ⟨i2, ei2⟩ := is_v gg3
  obtain rfl : w2 = (.int i2) := Option.some.inj ei2
  obtain ⟨i3, ei3⟩ := is_v gg4
  obtain rfl : w3 = (.int i3) := Option.some.inj ei3
  obtain ⟨i4, ei4⟩ := is_v gg5
  obtain rfl : w4 = (.int i4) := Option.some.inj ei4
  obtain ⟨i5, ei5⟩ := is_v hh5
  obtain rfl : w5 = (.int i5) := Option.some.inj ei5
  have hrs := Cond.before_iff.mp (show rest_1_c.before _ s = true from hrest)
  obtain ⟨rr0, hrs⟩ := and_e hrs
  obtain ⟨rr1, hrs⟩ := and_e hrs
  obtain ⟨rr2, hrs⟩ := and_e hrs
  obtain ⟨rr3, hrs⟩ := and_e hrs
  obtain ⟨rr4, hrs⟩ := and_e hrs
  obtain ⟨rr5, hrs⟩ := and_e hrs
  obtain ⟨rr6, hrs⟩ := and_e hrs
  obtain ⟨rr7, hrs⟩ := and_e hrs
  obtain ⟨rr8, hrs⟩ := and_e hrs
  obtain ⟨cst, ecst⟩ := is_v rr1
  have hcst : ¬ cst = (0 : Int32) := by
    intro q
    rw [q] at ecst
    simp [Cond.value, ecst, Term.int_eval] at rr2
  obtain ⟨fmt, efm, hfm⟩ := isR_v rr8
  have hT0 : own_T s s.heap cst fmt := ⟨Sta.start ecst (Or.inl (Cond.before_iff.mpr rr0)), hcst, Sta.start efm (Or.inl (Cond.before_iff.mpr rr7)), ref_cases hfm⟩
  have hCH0 : Jvm.Lit.constHeld s "java/lang/String" 7 := hcalls.1 ("java/lang/String", 7) (List.mem_of_getElem? (i := 1) rfl)
  have hCW0 : Jvm.Lit.compactW.before #[(.int i0 : Value), .int i1, .int i2, .int i3, .int i4, .int i5] s = true := Cond.before_iff.mpr rr2
  obtain ⟨n, o, h1, h2, h3, _, L, rfl, hQ0, hq⟩ := rm_law l s _ hw tables_1 i0 i1 i2 i3 i4 i5 s.heap s.heap.size (Nat.le_refl _) cst fmt hT0 (own_ext_refl _) hCH0 hCW0 p e ha hc hk s m _ below hf ((Spec.applies_iff_loose hf).mp happ).1 ⟨rfl, State.Warmed39.refl s, rfl, rfl⟩ trivial
  have N := hQ0.2.1
  obtain rfl := hQ0.1
  refine ⟨n, _, h1, h2, h3, hpost _ _ _ _ _ _ ⟨Cond.after_iff.mpr rfl, Cond.after_iff.mpr (eq_i res_at (Term.int_eval (1)) rfl), trivial⟩ ⟨hq.1, hq.2.1, hq.2.2.1, (hq.2.2.2.sift fun y hy => Or.inr (N y hy)).mono (by decide) (by decide)⟩⟩
theorem main_1_1 : Claimed_1_1 := comes_1 fun _ _ _ _ _ _ h hF => ⟨h.1, hF⟩
theorem main_1_2 : Claimed_1_2 := comes_1 fun _ _ _ _ _ _ h hF => ⟨h.2.1, hF⟩
end Jvm.Pilot.@@N@@
namespace Jvm.Pilot.@@N@@
open Jvm Jvm.ClassFile Sem Op Lib Jvm.Free Jvm.Stand Jvm.Pilot.@@N@@.Jvm.D
/-! MADE BY PROGRAM (witnessworld.py) out of the Statement's table words and the real class files: 25 classes; the members and pool entries that the words name. The judged class is class 1, her method 4. -/
namespace start1
open Jvm.ClassFile
def u (s : String) : CpInfo := .utf8 (stringToUtf16 s)
/-- a pool by its gaps: so many unusable entries, then the entry; so many at the end -/
def gap : Nat → List CpInfo → List CpInfo
  | 0, r => r
  | n + 1, r => .unusable :: gap n r
def poolList (es : List (Nat × CpInfo)) (last : Nat) : List CpInfo := es.foldr (fun e r => gap e.1 (e.2 :: r)) (gap last [])
def pool (es : List (Nat × CpInfo)) (last : Nat) : Array CpInfo := ⟨poolList es last⟩
def fileOf (pool : Array CpInfo) (this : Nat) (attrs : Array Attribute := #[]) (ms : Array MethodInfo := #[]) (fl : Nat := 33) (sup : Nat := 0) (ifs : Array Nat := #[]) (fds : Array FieldInfo := #[]) : ClassFile where
  minorVersion := 0
  majorVersion := 65
  constantPool := pool
  accessFlags := fl
  thisClass := this
  superClass := sup
  interfaces := ifs
  fields := fds
  methods := ms
  attributes := attrs
def plain (name : String) (sup : Option ClassId) : Class where
  name := name
  kind := .ordinary
  loader := none
  accessFlags := 33
  super := sup
  interfaces := #[]
  cf := none
  fields := #[]
  methods := #[]
  instanceTypes := #[]
  staticTypes := #[]
  resolved := #[]
  callSites := []
  init := .initialized
  statics := none
  mirror := none

def pool0 : Array CpInfo := pool [(5, u "<init>"), (0, u "()V"), (1, .class_ 10), (1, u "java/lang/Object")] 113

def k0c0 : Code := { maxStack := 0, maxLocals := 1, code := object_method_1_code, exceptionTable := #[], attributes := #[] }
def k0m0 : Method := { name := "<init>", desc := "()V", sig := { parameters := [], returnType := none }, accessFlags := 1, code := some k0c0 }
/-- java/lang/Object -/
def k0 : Class := { plain "java/lang/Object" none with
  accessFlags := 33
  interfaces := #[]
  cf := some (fileOf pool0 8 #[] #[{ accessFlags := 1, nameIndex := 5, descriptorIndex := 6, attributes := #[] }] 33 0 #[] #[])
  fields := #[]
  methods := #[k0m0]
  instanceTypes := #[]
  staticTypes := #[]
  resolved := Array.replicate 124 none
  statics := none }

def pool1 : Array CpInfo := pool [(2, .class_ 4), (1, u "java/lang/Object"), (0, u "<init>"), (0, u "()V"), (0, .methodref 8 9), (0, .class_ 10), (0, .nameAndType 11 12), (0, u "java/lang/String"), (0, u "length"), (0, u "()I"), (0, .methodref 8 14), (0, .nameAndType 15 16), (0, u "charAt"), (0, u "(I)C"), (0, .string 18), (0, u ""), (0, .integer 2147483647), (0, .methodref 21 22), (0, .class_ 23), (0, .nameAndType 24 16), (0, u "com/example/rowstrata/rowstrata/type/NumeralIsWholePinLaw"), (0, u "chr"), (0, .methodref 8 26), (0, .nameAndType 5 27), (0, u "([C)V"), (0, .methodref 21 29), (0, .nameAndType 30 31), (0, u "marks"), (0, u "(Ljava/lang/String;I)Z"), (0, .methodref 33 34), (0, .class_ 35), (0, .nameAndType 36 37), (0, u "com/example/rowstrata/rowstrata/type/Numeral"), (0, u "of"), (0, u "(Ljava/lang/String;)Lcom/example/rowstrata/rowstrata/type/Numeral;"), (0, .methodref 33 39), (0, .nameAndType 40 41), (0, u "isWholeNumber"), (0, u "(Ljava/lang/String;)Z"), (0, .methodref 33 43), (0, .nameAndType 44 45), (0, u "isWhole"), (0, u "()Z"), (0, .methodref 21 47), (0, .nameAndType 48 49), (0, u "part"), (0, u "(ILjava/lang/String;)Ljava/lang/String;"), (0, .methodref 33 51), (0, .nameAndType 5 52), (0, u "(ZLjava/lang/String;Ljava/lang/String;Ljava/lang/String;)V"), (3, u "law"), (0, u "(IIIIII)Z")] 4

def k1m0 : Method := { name := "<init>", desc := "()V", sig := { parameters := [], returnType := none }, accessFlags := 1, code := none }
def k1c1 : Code := { maxStack := 3, maxLocals := 3, code := method_2_code, exceptionTable := #[], attributes := #[] }
def k1m1 : Method := { name := "chr", desc := "(I)C", sig := { parameters := [.int], returnType := some .char }, accessFlags := 10, code := some k1c1 }
def k1c2 : Code := { maxStack := 2, maxLocals := 3, code := method_3_code, exceptionTable := #[], attributes := #[] }
def k1m2 : Method := { name := "marks", desc := "(Ljava/lang/String;I)Z", sig := { parameters := [(.object "java/lang/String"), .int], returnType := some .boolean }, accessFlags := 10, code := some k1c2 }
def k1c3 : Code := { maxStack := 2, maxLocals := 3, code := method_4_code, exceptionTable := #[], attributes := #[] }
def k1m3 : Method := { name := "part", desc := "(ILjava/lang/String;)Ljava/lang/String;", sig := { parameters := [.int, (.object "java/lang/String")], returnType := some (.object "java/lang/String") }, accessFlags := 10, code := some k1c3 }
def k1c4 : Code := { maxStack := 6, maxLocals := 17, code := code, exceptionTable := #[], attributes := #[] }
def k1m4 : Method := { name := "law", desc := "(IIIIII)Z", sig := { parameters := [.int, .int, .int, .int, .int, .int], returnType := some .boolean }, accessFlags := 9, code := some k1c4 }
/-- com/example/rowstrata/rowstrata/type/NumeralIsWholePinLaw -/
def k1 : Class := { plain "com/example/rowstrata/rowstrata/type/NumeralIsWholePinLaw" (some 0) with
  accessFlags := 49
  interfaces := #[]
  cf := some (fileOf pool1 21 #[] #[{ accessFlags := 1, nameIndex := 5, descriptorIndex := 6, attributes := #[] }, { accessFlags := 10, nameIndex := 24, descriptorIndex := 16, attributes := #[] }, { accessFlags := 10, nameIndex := 30, descriptorIndex := 31, attributes := #[] }, { accessFlags := 10, nameIndex := 48, descriptorIndex := 49, attributes := #[] }, { accessFlags := 9, nameIndex := 56, descriptorIndex := 57, attributes := #[] }] 49 2 #[] #[])
  fields := #[]
  methods := #[k1m0, k1m1, k1m2, k1m3, k1m4]
  instanceTypes := #[]
  staticTypes := #[]
  resolved := Array.replicate 62 none
  statics := none }

def pool2 : Array CpInfo := pool [(1, .class_ 2), (0, u "java/io/Serializable"), (0, .class_ 4), (0, u "java/lang/Object")] 2

/-- java/io/Serializable -/
def k2 : Class := { plain "java/io/Serializable" (some 0) with
  accessFlags := 1537
  interfaces := #[]
  cf := some (fileOf pool2 1 #[] #[] 1537 3 #[] #[])
  fields := #[]
  methods := #[]
  instanceTypes := #[]
  staticTypes := #[]
  resolved := Array.replicate 7 none
  statics := none }

def pool3 : Array CpInfo := pool [(1, .class_ 2), (0, u "java/lang/Comparable"), (0, .class_ 4), (0, u "java/lang/Object")] 7

/-- java/lang/Comparable -/
def k3 : Class := { plain "java/lang/Comparable" (some 0) with
  accessFlags := 1537
  interfaces := #[]
  cf := some (fileOf pool3 1 #[] #[] 1537 3 #[] #[])
  fields := #[]
  methods := #[]
  instanceTypes := #[]
  staticTypes := #[]
  resolved := Array.replicate 12 none
  statics := none }

def pool4 : Array CpInfo := pool [(2, .class_ 4), (1, u "java/lang/CharSequence"), (0, u "length"), (0, u "()I"), (38, u "charAt"), (0, u "(I)C"), (0, .class_ 48), (0, u "java/lang/CharSequence$1CodePointIterator"), (10, .class_ 60), (0, u "java/lang/CharSequence$1CharIterator"), (5, .class_ 67), (0, u "java/lang/Object")] 63

def k4m0 : Method := { name := "length", desc := "()I", sig := { parameters := [], returnType := some .int }, accessFlags := 1025, code := none }
def k4m1 : Method := { name := "charAt", desc := "(I)C", sig := { parameters := [.int], returnType := some .char }, accessFlags := 1025, code := none }
/-- java/lang/CharSequence -/
def k4 : Class := { plain "java/lang/CharSequence" (some 0) with
  accessFlags := 1537
  interfaces := #[]
  cf := some (fileOf pool4 2 #[.nestMembers #[47, 59]] #[{ accessFlags := 1025, nameIndex := 5, descriptorIndex := 6, attributes := #[] }, { accessFlags := 1025, nameIndex := 45, descriptorIndex := 46, attributes := #[] }] 1537 66 #[] #[])
  fields := #[]
  methods := #[k4m0, k4m1]
  instanceTypes := #[]
  staticTypes := #[]
  resolved := Array.replicate 131 none
  statics := none }

def pool5 : Array CpInfo := pool [(1, .class_ 2), (0, u "java/lang/constant/Constable"), (0, .class_ 4), (0, u "java/lang/Object")] 6

/-- java/lang/constant/Constable -/
def k5 : Class := { plain "java/lang/constant/Constable" (some 0) with
  accessFlags := 1537
  interfaces := #[]
  cf := some (fileOf pool5 1 #[] #[] 1537 3 #[] #[])
  fields := #[]
  methods := #[]
  instanceTypes := #[]
  staticTypes := #[]
  resolved := Array.replicate 11 none
  statics := none }

def pool6 : Array CpInfo := pool [(1, .class_ 2), (0, u "java/lang/constant/ConstantDesc"), (0, .class_ 4), (0, u "java/lang/Object")] 32

/-- java/lang/constant/ConstantDesc -/
def k6 : Class := { plain "java/lang/constant/ConstantDesc" (some 0) with
  accessFlags := 1537
  interfaces := #[]
  cf := some (fileOf pool6 1 #[] #[] 1537 3 #[] #[])
  fields := #[]
  methods := #[]
  instanceTypes := #[]
  staticTypes := #[]
  resolved := Array.replicate 37 none
  statics := none }

def pool7 : Array CpInfo := pool [(1, .methodref 2 3), (0, .class_ 4), (0, .nameAndType 5 6), (0, u "java/lang/Object"), (0, u "<init>"), (0, u "()V"), (0, .string 8), (0, u ""), (0, .fieldref 10 11), (0, .class_ 12), (0, .nameAndType 13 14), (0, u "java/lang/String"), (0, u "value"), (0, u "[B"), (0, .fieldref 10 16), (0, .nameAndType 17 18), (0, u "coder"), (0, u "B"), (2, u "hash"), (0, u "I"), (2, u "hashIsZero"), (0, u "Z"), (0, .methodref 10 28), (0, .nameAndType 5 29), (0, u "([CIILjava/lang/Void;)V"), (8, .fieldref 10 39), (0, .nameAndType 40 26), (0, u "COMPACT_STRINGS"), (1, .class_ 44), (1, u "java/lang/StringUTF16"), (0, u "compress"), (1, .methodref 42 48), (0, .nameAndType 49 50), (0, u "coderFromArrayLen"), (0, u "([BI)B"), (56, .class_ 109), (1, u "java/lang/StringLatin1"), (32, u "()Z"), (34, .methodref 42 178), (0, .nameAndType 45 179), (0, u "([CII)[B"), (31, u "([BB)V"), (122, u "()I"), (0, .methodref 10 336), (0, .nameAndType 17 337), (0, u "()B"), (25, u "([BI)C"), (27, u "(II)V"), (35, u "(I)C"), (64, .methodref 10 493), (0, .nameAndType 494 142), (0, u "isLatin1"), (0, .methodref 107 496), (0, .nameAndType 497 363), (0, u "charAt"), (3, u "checkIndex"), (3, .methodref 10 506), (0, .nameAndType 507 334), (0, u "length"), (5, u "checkFromToIndex"), (7, .methodref 10 522), (0, .nameAndType 523 524), (0, u "checkBoundsBeginEnd"), (0, u "(III)V"), (50, .class_ 576), (0, u "java/lang/CharSequence"), (22, u "CASE_INSENSITIVE_ORDER"), (0, u "Ljava/util/Comparator;"), (82, u "substring"), (0, u "(II)Ljava/lang/String;"), (0, .methodref 107 686), (0, .nameAndType 687 688), (0, u "newString"), (0, u "([BII)Ljava/lang/String;"), (321, u "([C)V"), (42, .fieldref 1054 1055), (0, .class_ 1056), (0, .nameAndType 1057 1058), (0, u "jdk/internal/util/Preconditions"), (0, u "SIOOBE_FORMATTER"), (0, u "Ljava/util/function/BiFunction;"), (0, .methodref 1054 1060), (0, .nameAndType 501 1061), (0, u "(IILjava/util/function/BiFunction;)I"), (0, .methodref 1054 1063), (0, .nameAndType 513 1064), (0, u "(IIILjava/util/function/BiFunction;)I"), (36, u "serialPersistentFields"), (0, u "[Ljava/io/ObjectStreamField;"), (0, .class_ 1104), (0, u "java/lang/String$CaseInsensitiveComparator"), (1, .class_ 1107), (0, u "java/io/Serializable"), (0, .class_ 1109), (0, u "java/lang/Comparable"), (0, .class_ 1111), (0, u "java/lang/constant/Constable"), (0, .class_ 1113), (0, u "java/lang/constant/ConstantDesc"), (2, u "serialVersionUID"), (0, u "J"), (3, u "REPL"), (0, u "C"), (2, u "LATIN1"), (1, u "UTF16")] 323

def k7m0 : Method := { name := "<init>", desc := "()V", sig := { parameters := [], returnType := none }, accessFlags := 1, code := none }
def k7c1 : Code := { maxStack := 5, maxLocals := 2, code := jdk_42_method_3_code, exceptionTable := #[], attributes := #[] }
def k7m1 : Method := { name := "<init>", desc := "([C)V", sig := { parameters := [(.array .char)], returnType := none }, accessFlags := 1, code := some k7c1 }
def k7c2 : Code := { maxStack := 2, maxLocals := 1, code := jdk_42_method_54_code, exceptionTable := #[], attributes := #[] }
def k7m2 : Method := { name := "length", desc := "()I", sig := { parameters := [], returnType := some .int }, accessFlags := 1, code := some k7c2 }
def k7c3 : Code := { maxStack := 2, maxLocals := 2, code := jdk_42_method_56_code, exceptionTable := #[], attributes := #[] }
def k7m3 : Method := { name := "charAt", desc := "(I)C", sig := { parameters := [.int], returnType := some .char }, accessFlags := 1, code := some k7c3 }
def k7c4 : Code := { maxStack := 3, maxLocals := 5, code := jdk_42_method_92_code, exceptionTable := #[], attributes := #[] }
def k7m4 : Method := { name := "substring", desc := "(II)Ljava/lang/String;", sig := { parameters := [.int, .int], returnType := some (.object "java/lang/String") }, accessFlags := 1, code := some k7c4 }
def k7c5 : Code := { maxStack := 4, maxLocals := 6, code := jdk_42_method_149_code, exceptionTable := #[], attributes := #[] }
def k7m5 : Method := { name := "<init>", desc := "([CIILjava/lang/Void;)V", sig := { parameters := [(.array .char), .int, .int, (.object "java/lang/Void")], returnType := none }, accessFlags := 2, code := some k7c5 }
def k7c6 : Code := { maxStack := 2, maxLocals := 3, code := jdk_42_method_151_code, exceptionTable := #[], attributes := #[] }
def k7m6 : Method := { name := "<init>", desc := "([BB)V", sig := { parameters := [(.array .byte), .byte], returnType := none }, accessFlags := 0, code := some k7c6 }
def k7c7 : Code := { maxStack := 1, maxLocals := 1, code := jdk_42_method_152_code, exceptionTable := #[], attributes := #[] }
def k7m7 : Method := { name := "coder", desc := "()B", sig := { parameters := [], returnType := some .byte }, accessFlags := 0, code := some k7c7 }
def k7c8 : Code := { maxStack := 1, maxLocals := 1, code := jdk_42_method_154_code, exceptionTable := #[], attributes := #[] }
def k7m8 : Method := { name := "isLatin1", desc := "()Z", sig := { parameters := [], returnType := some .boolean }, accessFlags := 0, code := some k7c8 }
def k7c9 : Code := { maxStack := 3, maxLocals := 2, code := jdk_42_method_155_code, exceptionTable := #[], attributes := #[] }
def k7m9 : Method := { name := "checkIndex", desc := "(II)V", sig := { parameters := [.int, .int], returnType := none }, accessFlags := 8, code := some k7c9 }
def k7c10 : Code := { maxStack := 4, maxLocals := 3, code := jdk_42_method_158_code, exceptionTable := #[], attributes := #[] }
def k7m10 : Method := { name := "checkBoundsBeginEnd", desc := "(III)V", sig := { parameters := [.int, .int, .int], returnType := none }, accessFlags := 8, code := some k7c10 }
/-- java/lang/String -/
def k7 : Class := { plain "java/lang/String" (some 0) with
  accessFlags := 49
  interfaces := #[2, 3, 4, 5, 6]
  cf := some (fileOf pool7 10 #[.nestMembers #[1103]] #[{ accessFlags := 1, nameIndex := 5, descriptorIndex := 6, attributes := #[] }, { accessFlags := 1, nameIndex := 5, descriptorIndex := 1010, attributes := #[] }, { accessFlags := 1, nameIndex := 507, descriptorIndex := 334, attributes := #[] }, { accessFlags := 1, nameIndex := 497, descriptorIndex := 427, attributes := #[] }, { accessFlags := 1, nameIndex := 683, descriptorIndex := 684, attributes := #[] }, { accessFlags := 2, nameIndex := 5, descriptorIndex := 29, attributes := #[] }, { accessFlags := 0, nameIndex := 5, descriptorIndex := 211, attributes := #[] }, { accessFlags := 0, nameIndex := 17, descriptorIndex := 337, attributes := #[] }, { accessFlags := 0, nameIndex := 494, descriptorIndex := 142, attributes := #[] }, { accessFlags := 8, nameIndex := 501, descriptorIndex := 391, attributes := #[] }, { accessFlags := 8, nameIndex := 523, descriptorIndex := 524, attributes := #[] }] 49 2 #[1106, 1108, 575, 1110, 1112] #[{ accessFlags := 18, nameIndex := 13, descriptorIndex := 14, attributes := #[] }, { accessFlags := 18, nameIndex := 17, descriptorIndex := 18, attributes := #[] }, { accessFlags := 2, nameIndex := 21, descriptorIndex := 22, attributes := #[] }, { accessFlags := 2, nameIndex := 25, descriptorIndex := 26, attributes := #[] }, { accessFlags := 26, nameIndex := 1116, descriptorIndex := 1117, attributes := #[] }, { accessFlags := 24, nameIndex := 40, descriptorIndex := 26, attributes := #[] }, { accessFlags := 26, nameIndex := 1101, descriptorIndex := 1102, attributes := #[] }, { accessFlags := 26, nameIndex := 1121, descriptorIndex := 1122, attributes := #[] }, { accessFlags := 25, nameIndex := 599, descriptorIndex := 600, attributes := #[] }, { accessFlags := 24, nameIndex := 1125, descriptorIndex := 18, attributes := #[] }, { accessFlags := 24, nameIndex := 1127, descriptorIndex := 18, attributes := #[] }])
  fields := #[{ name := "value", type := (.array .byte), accessFlags := 18, slot := 0, constantValue := 0 }, { name := "coder", type := .byte, accessFlags := 18, slot := 1, constantValue := 0 }, { name := "hash", type := .int, accessFlags := 2, slot := 2, constantValue := 0 }, { name := "hashIsZero", type := .boolean, accessFlags := 2, slot := 3, constantValue := 0 }, { name := "serialVersionUID", type := .long, accessFlags := 26, slot := 0, constantValue := 0 }, { name := "COMPACT_STRINGS", type := .boolean, accessFlags := 24, slot := 1, constantValue := 0 }, { name := "serialPersistentFields", type := (.array (.object "java/io/ObjectStreamField")), accessFlags := 26, slot := 2, constantValue := 0 }, { name := "REPL", type := .char, accessFlags := 26, slot := 3, constantValue := 0 }, { name := "CASE_INSENSITIVE_ORDER", type := (.object "java/util/Comparator"), accessFlags := 25, slot := 4, constantValue := 0 }, { name := "LATIN1", type := .byte, accessFlags := 24, slot := 5, constantValue := 0 }, { name := "UTF16", type := .byte, accessFlags := 24, slot := 6, constantValue := 0 }]
  methods := #[k7m0, k7m1, k7m2, k7m3, k7m4, k7m5, k7m6, k7m7, k7m8, k7m9, k7m10]
  instanceTypes := #[(.array .byte), .byte, .int, .boolean]
  staticTypes := #[.long, .boolean, (.array (.object "java/io/ObjectStreamField")), .char, (.object "java/util/Comparator"), .byte, .byte]
  resolved := Array.replicate 1451 none
  statics := some 0 }

def pool8 : Array CpInfo := pool [(1, .methodref 2 3), (0, .class_ 4), (0, .nameAndType 5 6), (0, u "java/lang/Object"), (0, u "<init>"), (0, u "()V"), (0, .class_ 8), (0, u "java/lang/Record")] 13

def k8c0 : Code := { maxStack := 1, maxLocals := 1, code := jdk_30_method_1_code, exceptionTable := #[], attributes := #[] }
def k8m0 : Method := { name := "<init>", desc := "()V", sig := { parameters := [], returnType := none }, accessFlags := 4, code := some k8c0 }
/-- java/lang/Record -/
def k8 : Class := { plain "java/lang/Record" (some 0) with
  accessFlags := 1057
  interfaces := #[]
  cf := some (fileOf pool8 7 #[] #[{ accessFlags := 4, nameIndex := 5, descriptorIndex := 6, attributes := #[] }] 1057 2 #[] #[])
  fields := #[]
  methods := #[k8m0]
  instanceTypes := #[]
  staticTypes := #[]
  resolved := Array.replicate 22 none
  statics := none }

def pool9 : Array CpInfo := pool [(1, .methodref 2 3), (0, .class_ 4), (0, .nameAndType 5 6), (0, u "java/lang/Record"), (0, u "<init>"), (0, u "()V"), (0, .fieldref 8 9), (0, .class_ 10), (0, .nameAndType 11 12), (0, u "com/example/rowstrata/rowstrata/type/Numeral"), (0, u "negative"), (0, u "Z"), (0, .fieldref 8 14), (0, .nameAndType 15 16), (0, u "digits"), (0, u "Ljava/lang/String;"), (0, .fieldref 8 18), (0, .nameAndType 19 16), (0, u "fraction"), (0, .fieldref 8 21), (0, .nameAndType 22 16), (0, u "exponent"), (0, .methodref 24 25), (0, .class_ 26), (0, .nameAndType 27 28), (0, u "com/example/rowstrata/rowstrata/type/Numeral$Bounds"), (0, u "of"), (0, u "(Ljava/lang/CharSequence;I)Lcom/example/rowstrata/rowstrata/type/Numeral$Bounds;"), (0, .fieldref 24 30), (0, .nameAndType 31 32), (0, u "end"), (0, u "I"), (0, .methodref 34 35), (0, .class_ 36), (0, .nameAndType 37 38), (0, u "java/lang/String"), (0, u "length"), (0, u "()I"), (0, .fieldref 24 40), (0, .nameAndType 41 32), (0, u "fractionEnd"), (0, .fieldref 24 43), (0, .nameAndType 44 32), (0, u "digitsEnd"), (0, .fieldref 24 46), (0, .nameAndType 47 32), (0, u "start"), (0, .methodref 34 49), (0, .nameAndType 50 51), (0, u "charAt"), (0, u "(I)C"), (0, .methodref 34 53), (0, .nameAndType 54 55), (0, u "substring"), (0, u "(II)Ljava/lang/String;"), (0, .methodref 8 57), (0, .nameAndType 5 58), (0, u "(ZLjava/lang/String;Ljava/lang/String;Ljava/lang/String;)V"), (15, u "(Ljava/lang/String;)Lcom/example/rowstrata/rowstrata/type/Numeral;"), (1, u "isWholeNumber"), (0, u "(Ljava/lang/String;)Z"), (1, u "isWhole"), (0, u "()Z")] 27

def k9c0 : Code := { maxStack := 2, maxLocals := 5, code := prog_32_method_1_code, exceptionTable := #[], attributes := #[] }
def k9m0 : Method := { name := "<init>", desc := "(ZLjava/lang/String;Ljava/lang/String;Ljava/lang/String;)V", sig := { parameters := [.boolean, (.object "java/lang/String"), (.object "java/lang/String"), (.object "java/lang/String")], returnType := none }, accessFlags := 1, code := some k9c0 }
def k9c1 : Code := { maxStack := 8, maxLocals := 3, code := prog_32_method_2_code, exceptionTable := #[], attributes := #[] }
def k9m1 : Method := { name := "of", desc := "(Ljava/lang/String;)Lcom/example/rowstrata/rowstrata/type/Numeral;", sig := { parameters := [(.object "java/lang/String")], returnType := some (.object "com/example/rowstrata/rowstrata/type/Numeral") }, accessFlags := 9, code := some k9c1 }
def k9c2 : Code := { maxStack := 2, maxLocals := 2, code := prog_32_method_3_code, exceptionTable := #[], attributes := #[] }
def k9m2 : Method := { name := "isWholeNumber", desc := "(Ljava/lang/String;)Z", sig := { parameters := [(.object "java/lang/String")], returnType := some .boolean }, accessFlags := 9, code := some k9c2 }
def k9c3 : Code := { maxStack := 1, maxLocals := 1, code := prog_32_method_5_code, exceptionTable := #[], attributes := #[] }
def k9m3 : Method := { name := "isWhole", desc := "()Z", sig := { parameters := [], returnType := some .boolean }, accessFlags := 1, code := some k9c3 }
/-- com/example/rowstrata/rowstrata/type/Numeral -/
def k9 : Class := { plain "com/example/rowstrata/rowstrata/type/Numeral" (some 8) with
  accessFlags := 49
  interfaces := #[]
  cf := some (fileOf pool9 8 #[.nestMembers #[24]] #[{ accessFlags := 1, nameIndex := 5, descriptorIndex := 58, attributes := #[] }, { accessFlags := 9, nameIndex := 27, descriptorIndex := 74, attributes := #[] }, { accessFlags := 9, nameIndex := 76, descriptorIndex := 77, attributes := #[] }, { accessFlags := 1, nameIndex := 79, descriptorIndex := 80, attributes := #[] }] 49 2 #[] #[{ accessFlags := 18, nameIndex := 11, descriptorIndex := 12, attributes := #[] }, { accessFlags := 18, nameIndex := 15, descriptorIndex := 16, attributes := #[] }, { accessFlags := 18, nameIndex := 19, descriptorIndex := 16, attributes := #[] }, { accessFlags := 18, nameIndex := 22, descriptorIndex := 16, attributes := #[] }])
  fields := #[{ name := "negative", type := .boolean, accessFlags := 18, slot := 0, constantValue := 0 }, { name := "digits", type := (.object "java/lang/String"), accessFlags := 18, slot := 1, constantValue := 0 }, { name := "fraction", type := (.object "java/lang/String"), accessFlags := 18, slot := 2, constantValue := 0 }, { name := "exponent", type := (.object "java/lang/String"), accessFlags := 18, slot := 3, constantValue := 0 }]
  methods := #[k9m0, k9m1, k9m2, k9m3]
  instanceTypes := #[.boolean, (.object "java/lang/String"), (.object "java/lang/String"), (.object "java/lang/String")]
  staticTypes := #[]
  resolved := ((((Array.replicate 108 none).set! 29 (some (.field 10 3))).set! 39 (some (.field 10 2))).set! 42 (some (.field 10 1))).set! 45 (some (.field 10 0))
  statics := none }

def pool10 : Array CpInfo := pool [(1, .methodref 2 3), (0, .class_ 4), (0, .nameAndType 5 6), (0, u "java/lang/Record"), (0, u "<init>"), (0, u "()V"), (0, .fieldref 8 9), (0, .class_ 10), (0, .nameAndType 11 12), (0, u "com/example/rowstrata/rowstrata/type/Numeral$Bounds"), (0, u "start"), (0, u "I"), (0, .fieldref 8 14), (0, .nameAndType 15 12), (0, u "digitsEnd"), (0, .fieldref 8 17), (0, .nameAndType 18 12), (0, u "fractionEnd"), (0, .fieldref 8 20), (0, .nameAndType 21 12), (0, u "end"), (0, .interfaceMethodref 23 24), (0, .class_ 25), (0, .nameAndType 26 27), (0, u "java/lang/CharSequence"), (0, u "length"), (0, u "()I"), (0, .interfaceMethodref 23 29), (0, .nameAndType 30 31), (0, u "charAt"), (0, u "(I)C"), (0, .methodref 8 33), (0, .nameAndType 34 35), (0, u "isSign"), (0, u "(C)Z"), (0, .methodref 8 37), (0, .nameAndType 15 38), (0, u "(Ljava/lang/CharSequence;I)I"), (0, .methodref 8 40), (0, .nameAndType 41 38), (0, u "exponentEnd"), (0, .methodref 8 43), (0, .nameAndType 5 44), (0, u "(IIII)V"), (15, u "of"), (0, u "(Ljava/lang/CharSequence;I)Lcom/example/rowstrata/rowstrata/type/Numeral$Bounds;"), (6, .class_ 69), (0, u "com/example/rowstrata/rowstrata/type/Numeral")] 22

def k10c0 : Code := { maxStack := 2, maxLocals := 5, code := prog_33_method_1_code, exceptionTable := #[], attributes := #[] }
def k10m0 : Method := { name := "<init>", desc := "(IIII)V", sig := { parameters := [.int, .int, .int, .int], returnType := none }, accessFlags := 2, code := some k10c0 }
def k10c1 : Code := { maxStack := 7, maxLocals := 5, code := prog_33_method_2_code, exceptionTable := #[], attributes := #[] }
def k10m1 : Method := { name := "of", desc := "(Ljava/lang/CharSequence;I)Lcom/example/rowstrata/rowstrata/type/Numeral$Bounds;", sig := { parameters := [(.object "java/lang/CharSequence"), .int], returnType := some (.object "com/example/rowstrata/rowstrata/type/Numeral$Bounds") }, accessFlags := 8, code := some k10c1 }
def k10c2 : Code := { maxStack := 3, maxLocals := 4, code := prog_33_method_3_code, exceptionTable := #[], attributes := #[] }
def k10m2 : Method := { name := "exponentEnd", desc := "(Ljava/lang/CharSequence;I)I", sig := { parameters := [(.object "java/lang/CharSequence"), .int], returnType := some .int }, accessFlags := 10, code := some k10c2 }
def k10c3 : Code := { maxStack := 2, maxLocals := 3, code := prog_33_method_4_code, exceptionTable := #[], attributes := #[] }
def k10m3 : Method := { name := "digitsEnd", desc := "(Ljava/lang/CharSequence;I)I", sig := { parameters := [(.object "java/lang/CharSequence"), .int], returnType := some .int }, accessFlags := 10, code := some k10c3 }
def k10c4 : Code := { maxStack := 2, maxLocals := 1, code := prog_33_method_5_code, exceptionTable := #[], attributes := #[] }
def k10m4 : Method := { name := "isSign", desc := "(C)Z", sig := { parameters := [.char], returnType := some .boolean }, accessFlags := 10, code := some k10c4 }
/-- com/example/rowstrata/rowstrata/type/Numeral$Bounds -/
def k10 : Class := { plain "com/example/rowstrata/rowstrata/type/Numeral$Bounds" (some 8) with
  accessFlags := 48
  interfaces := #[]
  cf := some (fileOf pool10 8 #[.nestHost 68] #[{ accessFlags := 2, nameIndex := 5, descriptorIndex := 44, attributes := #[] }, { accessFlags := 8, nameIndex := 60, descriptorIndex := 61, attributes := #[] }, { accessFlags := 10, nameIndex := 41, descriptorIndex := 38, attributes := #[] }, { accessFlags := 10, nameIndex := 15, descriptorIndex := 38, attributes := #[] }, { accessFlags := 10, nameIndex := 34, descriptorIndex := 35, attributes := #[] }] 48 2 #[] #[{ accessFlags := 18, nameIndex := 11, descriptorIndex := 12, attributes := #[] }, { accessFlags := 18, nameIndex := 15, descriptorIndex := 12, attributes := #[] }, { accessFlags := 18, nameIndex := 18, descriptorIndex := 12, attributes := #[] }, { accessFlags := 18, nameIndex := 21, descriptorIndex := 12, attributes := #[] }])
  fields := #[{ name := "start", type := .int, accessFlags := 18, slot := 0, constantValue := 0 }, { name := "digitsEnd", type := .int, accessFlags := 18, slot := 1, constantValue := 0 }, { name := "fractionEnd", type := .int, accessFlags := 18, slot := 2, constantValue := 0 }, { name := "end", type := .int, accessFlags := 18, slot := 3, constantValue := 0 }]
  methods := #[k10m0, k10m1, k10m2, k10m3, k10m4]
  instanceTypes := #[.int, .int, .int, .int]
  staticTypes := #[]
  resolved := Array.replicate 92 none
  statics := none }

def pool11 : Array CpInfo := pool [(6, .class_ 8), (1, u "java/lang/Object"), (0, u "<init>"), (0, u "()V"), (1, .class_ 14), (1, u "java/lang/StringUTF16"), (31, u "$assertionsDisabled"), (0, u "Z"), (13, u "HI_BYTE_SHIFT"), (0, u "I"), (2, u "LO_BYTE_SHIFT"), (49, .methodref 12 116), (0, .nameAndType 117 118), (0, u "compress"), (0, u "([CI[BII)I"), (3, u "([CII)[B"), (138, u "coderFromArrayLen"), (0, u "([BI)B"), (106, .class_ 371), (1, u "java/lang/StringUTF16$LinesSpliterator"), (58, u "MAX_LENGTH"), (196, .class_ 628), (0, u "java/lang/StringUTF16$CodePointsSpliterator"), (0, .class_ 630), (0, u "java/lang/StringUTF16$CharsSpliterator")] 4

def k11m0 : Method := { name := "<init>", desc := "()V", sig := { parameters := [], returnType := none }, accessFlags := 0, code := none }
def k11c1 : Code := { maxStack := 2, maxLocals := 2, code := jdk_52_method_15_code, exceptionTable := #[], attributes := #[] }
def k11m1 : Method := { name := "coderFromArrayLen", desc := "([BI)B", sig := { parameters := [(.array .byte), .int], returnType := some .byte }, accessFlags := 8, code := some k11c1 }
def k11c2 : Code := { maxStack := 5, maxLocals := 6, code := jdk_52_method_16_code, exceptionTable := #[], attributes := #[] }
def k11m2 : Method := { name := "compress", desc := "([CII)[B", sig := { parameters := [(.array .char), .int, .int], returnType := some (.array .byte) }, accessFlags := 9, code := some k11c2 }
def k11c3 : Code := { maxStack := 3, maxLocals := 7, code := jdk_52_method_21_code, exceptionTable := #[], attributes := #[] }
def k11m3 : Method := { name := "compress", desc := "([CI[BII)I", sig := { parameters := [(.array .char), .int, (.array .byte), .int, .int], returnType := some .int }, accessFlags := 9, code := some k11c3 }
/-- java/lang/StringUTF16 -/
def k11 : Class := { plain "java/lang/StringUTF16" (some 0) with
  accessFlags := 48
  interfaces := #[]
  cf := some (fileOf pool11 12 #[.nestMembers #[627, 629, 369]] #[{ accessFlags := 0, nameIndex := 9, descriptorIndex := 10, attributes := #[] }, { accessFlags := 8, nameIndex := 261, descriptorIndex := 262, attributes := #[] }, { accessFlags := 9, nameIndex := 117, descriptorIndex := 122, attributes := #[] }, { accessFlags := 9, nameIndex := 117, descriptorIndex := 118, attributes := #[] }] 48 6 #[] #[{ accessFlags := 26, nameIndex := 61, descriptorIndex := 62, attributes := #[] }, { accessFlags := 26, nameIndex := 65, descriptorIndex := 62, attributes := #[] }, { accessFlags := 24, nameIndex := 430, descriptorIndex := 62, attributes := #[] }, { accessFlags := 4120, nameIndex := 46, descriptorIndex := 47, attributes := #[] }])
  fields := #[{ name := "HI_BYTE_SHIFT", type := .int, accessFlags := 26, slot := 0, constantValue := 0 }, { name := "LO_BYTE_SHIFT", type := .int, accessFlags := 26, slot := 1, constantValue := 0 }, { name := "MAX_LENGTH", type := .int, accessFlags := 24, slot := 2, constantValue := 0 }, { name := "$assertionsDisabled", type := .boolean, accessFlags := 4120, slot := 3, constantValue := 0 }]
  methods := #[k11m0, k11m1, k11m2, k11m3]
  instanceTypes := #[]
  staticTypes := #[.int, .int, .int, .boolean]
  resolved := Array.replicate 635 none
  statics := none }

def pool12 : Array CpInfo := pool [(1, .class_ 2), (0, u "java/lang/String"), (1, .class_ 6), (1, u "java/lang/Object"), (0, u "<init>"), (0, u "()V"), (0, .methodref 1 10), (0, .nameAndType 11 12), (0, u "checkIndex"), (0, u "(II)V"), (1, .class_ 16), (1, u "java/lang/StringLatin1"), (36, u "([BI)C"), (58, .methodref 1 113), (0, .nameAndType 7 114), (0, u "([BB)V"), (6, u "$assertionsDisabled"), (0, u "Z"), (8, .class_ 133), (1, u "java/util/Arrays"), (17, .string 152), (0, u ""), (43, u "newString"), (0, u "([BII)Ljava/lang/String;"), (23, .class_ 223), (1, u "java/lang/StringLatin1$LinesSpliterator"), (8, .methodref 131 233), (0, .nameAndType 234 235), (0, u "copyOfRange"), (0, u "([BII)[B"), (16, u "charAt"), (137, .class_ 391), (0, u "java/lang/StringLatin1$CharsSpliterator")] 3

def k12m0 : Method := { name := "<init>", desc := "()V", sig := { parameters := [], returnType := none }, accessFlags := 0, code := none }
def k12c1 : Code := { maxStack := 2, maxLocals := 2, code := jdk_43_method_2_code, exceptionTable := #[], attributes := #[] }
def k12m1 : Method := { name := "charAt", desc := "([BI)C", sig := { parameters := [(.array .byte), .int], returnType := some .char }, accessFlags := 9, code := some k12c1 }
def k12c2 : Code := { maxStack := 6, maxLocals := 3, code := jdk_43_method_47_code, exceptionTable := #[], attributes := #[] }
def k12m2 : Method := { name := "newString", desc := "([BII)Ljava/lang/String;", sig := { parameters := [(.array .byte), .int, .int], returnType := some (.object "java/lang/String") }, accessFlags := 9, code := some k12c2 }
/-- java/lang/StringLatin1 -/
def k12 : Class := { plain "java/lang/StringLatin1" (some 0) with
  accessFlags := 48
  interfaces := #[]
  cf := some (fileOf pool12 14 #[.nestMembers #[390, 221]] #[{ accessFlags := 0, nameIndex := 7, descriptorIndex := 8, attributes := #[] }, { accessFlags := 9, nameIndex := 252, descriptorIndex := 53, attributes := #[] }, { accessFlags := 9, nameIndex := 196, descriptorIndex := 197, attributes := #[] }] 48 4 #[] #[{ accessFlags := 4120, nameIndex := 121, descriptorIndex := 122, attributes := #[] }])
  fields := #[{ name := "$assertionsDisabled", type := .boolean, accessFlags := 4120, slot := 0, constantValue := 0 }]
  methods := #[k12m0, k12m1, k12m2]
  instanceTypes := #[]
  staticTypes := #[.boolean]
  resolved := Array.replicate 395 none
  statics := none }

def pool13 : Array CpInfo := pool [(2, .class_ 4), (1, u "java/lang/Object"), (0, u "<init>"), (0, u "()V"), (17, .class_ 26), (1, u "jdk/internal/util/Preconditions"), (6, u "checkIndex"), (13, u "checkFromToIndex"), (7, .class_ 56), (0, u "jdk/internal/util/Preconditions$4"), (57, .class_ 115), (0, u "jdk/internal/util/Preconditions$1"), (7, u "SIOOBE_FORMATTER"), (0, u "Ljava/util/function/BiFunction;"), (0, .class_ 126), (0, u "jdk/internal/util/Preconditions$2"), (3, u "AIOOBE_FORMATTER"), (0, .class_ 132), (0, u "jdk/internal/util/Preconditions$3"), (3, u "IOOBE_FORMATTER"), (41, u "(IILjava/util/function/BiFunction;)I"), (4, u "(IIILjava/util/function/BiFunction;)I")] 10

def k13m0 : Method := { name := "<init>", desc := "()V", sig := { parameters := [], returnType := none }, accessFlags := 1, code := none }
def k13c1 : Code := { maxStack := 3, maxLocals := 3, code := jdk_41_method_11_code, exceptionTable := #[], attributes := #[] }
def k13m1 : Method := { name := "checkIndex", desc := "(IILjava/util/function/BiFunction;)I", sig := { parameters := [.int, .int, (.object "java/util/function/BiFunction")], returnType := some .int }, accessFlags := 9, code := some k13c1 }
def k13c2 : Code := { maxStack := 4, maxLocals := 4, code := jdk_41_method_12_code, exceptionTable := #[], attributes := #[] }
def k13m2 : Method := { name := "checkFromToIndex", desc := "(IIILjava/util/function/BiFunction;)I", sig := { parameters := [.int, .int, .int, (.object "java/util/function/BiFunction")], returnType := some .int }, accessFlags := 9, code := some k13c2 }
/-- jdk/internal/util/Preconditions -/
def k13 : Class := { plain "jdk/internal/util/Preconditions" (some 0) with
  accessFlags := 33
  interfaces := #[]
  cf := some (fileOf pool13 24 #[.nestMembers #[55, 131, 125, 114]] #[{ accessFlags := 1, nameIndex := 5, descriptorIndex := 6, attributes := #[] }, { accessFlags := 9, nameIndex := 33, descriptorIndex := 178, attributes := #[] }, { accessFlags := 9, nameIndex := 47, descriptorIndex := 183, attributes := #[] }] 33 2 #[] #[{ accessFlags := 25, nameIndex := 123, descriptorIndex := 124, attributes := #[] }, { accessFlags := 25, nameIndex := 130, descriptorIndex := 124, attributes := #[] }, { accessFlags := 25, nameIndex := 136, descriptorIndex := 124, attributes := #[] }])
  fields := #[{ name := "SIOOBE_FORMATTER", type := (.object "java/util/function/BiFunction"), accessFlags := 25, slot := 0, constantValue := 0 }, { name := "AIOOBE_FORMATTER", type := (.object "java/util/function/BiFunction"), accessFlags := 25, slot := 1, constantValue := 0 }, { name := "IOOBE_FORMATTER", type := (.object "java/util/function/BiFunction"), accessFlags := 25, slot := 2, constantValue := 0 }]
  methods := #[k13m0, k13m1, k13m2]
  instanceTypes := #[]
  staticTypes := #[(.object "java/util/function/BiFunction"), (.object "java/util/function/BiFunction"), (.object "java/util/function/BiFunction")]
  resolved := Array.replicate 194 none
  statics := some 1 }

def pool14 : Array CpInfo := pool [(2, .class_ 4), (1, u "java/lang/Object"), (0, u "<init>"), (0, u "()V"), (7, .class_ 16), (1, u "java/util/Arrays"), (57, .class_ 76), (1, u "java/util/Arrays$NaturalOrder"), (36, .class_ 115), (1, u "java/util/Arrays$LegacyMergeSort"), (1, u "Z"), (21, u "copyOfRange"), (10, .methodref 151 152), (0, .class_ 153), (0, .nameAndType 154 155), (0, u "java/lang/System"), (0, u "arraycopy"), (0, u "(Ljava/lang/Object;ILjava/lang/Object;II)V"), (148, .methodref 305 306), (0, .class_ 307), (0, .nameAndType 308 309), (0, u "java/lang/Math"), (0, u "min"), (0, u "(II)I"), (29, .methodref 14 340), (0, .nameAndType 341 342), (0, u "copyOfRangeByte"), (0, u "([BII)[B"), (0, .methodref 14 344), (0, .nameAndType 345 346), (0, u "checkLength"), (0, u "(II)V"), (28, .class_ 376), (0, u "java/util/Arrays$ArrayList"), (68, u "$assertionsDisabled"), (269, u "MIN_ARRAY_SORT_GRAN"), (0, u "I"), (2, u "INSERTIONSORT_THRESHOLD"), (255, .class_ 976), (0, u "java/util/Arrays$ArrayItr")] 52

def k14m0 : Method := { name := "<init>", desc := "()V", sig := { parameters := [], returnType := none }, accessFlags := 2, code := none }
def k14c1 : Code := { maxStack := 4, maxLocals := 2, code := jdk_65_method_131_code, exceptionTable := #[], attributes := #[] }
def k14m1 : Method := { name := "checkLength", desc := "(II)V", sig := { parameters := [.int, .int], returnType := none }, accessFlags := 10, code := some k14c1 }
def k14c2 : Code := { maxStack := 3, maxLocals := 3, code := jdk_65_method_132_code, exceptionTable := #[], attributes := #[] }
def k14m2 : Method := { name := "copyOfRange", desc := "([BII)[B", sig := { parameters := [(.array .byte), .int, .int], returnType := some (.array .byte) }, accessFlags := 9, code := some k14c2 }
def k14c3 : Code := { maxStack := 6, maxLocals := 5, code := jdk_65_method_133_code, exceptionTable := #[], attributes := #[] }
def k14m3 : Method := { name := "copyOfRangeByte", desc := "([BII)[B", sig := { parameters := [(.array .byte), .int, .int], returnType := some (.array .byte) }, accessFlags := 10, code := some k14c3 }
/-- java/util/Arrays -/
def k14 : Class := { plain "java/util/Arrays" (some 0) with
  accessFlags := 49
  interfaces := #[]
  cf := some (fileOf pool14 14 #[.nestMembers #[975, 375, 113, 74]] #[{ accessFlags := 2, nameIndex := 5, descriptorIndex := 6, attributes := #[] }, { accessFlags := 10, nameIndex := 345, descriptorIndex := 346, attributes := #[] }, { accessFlags := 9, nameIndex := 139, descriptorIndex := 342, attributes := #[] }, { accessFlags := 10, nameIndex := 341, descriptorIndex := 342, attributes := #[] }] 49 2 #[] #[{ accessFlags := 26, nameIndex := 715, descriptorIndex := 716, attributes := #[] }, { accessFlags := 26, nameIndex := 719, descriptorIndex := 716, attributes := #[] }, { accessFlags := 4120, nameIndex := 445, descriptorIndex := 117, attributes := #[] }])
  fields := #[{ name := "MIN_ARRAY_SORT_GRAN", type := .int, accessFlags := 26, slot := 0, constantValue := 0 }, { name := "INSERTIONSORT_THRESHOLD", type := .int, accessFlags := 26, slot := 1, constantValue := 0 }, { name := "$assertionsDisabled", type := .boolean, accessFlags := 4120, slot := 2, constantValue := 0 }]
  methods := #[k14m0, k14m1, k14m2, k14m3]
  instanceTypes := #[]
  staticTypes := #[.int, .int, .boolean]
  resolved := Array.replicate 1029 none
  statics := none }

def pool15 : Array CpInfo := pool [(1, .class_ 2), (0, u "java/lang/Math"), (1, .class_ 6), (1, u "java/lang/Object"), (0, u "<init>"), (0, u "()V"), (89, .class_ 100), (1, u "java/lang/Math$RandomNumberGeneratorHolder"), (71, u "negativeZeroFloatBits"), (0, u "J"), (2, u "negativeZeroDoubleBits"), (24, u "min"), (43, u "$assertionsDisabled"), (0, u "Z"), (88, u "(II)I"), (2, u "twoToTheDoubleScaleDown"), (0, u "D"), (4, u "twoToTheDoubleScaleUp"), (9, u "E"), (3, u "PI"), (2, u "TAU"), (2, u "DEGREES_TO_RADIANS"), (0, u "RADIANS_TO_DEGREES")] 94

def k15m0 : Method := { name := "<init>", desc := "()V", sig := { parameters := [], returnType := none }, accessFlags := 2, code := none }
def k15c1 : Code := { maxStack := 2, maxLocals := 2, code := jdk_29_method_69_code, exceptionTable := #[], attributes := #[] }
def k15m1 : Method := { name := "min", desc := "(II)I", sig := { parameters := [.int, .int], returnType := some .int }, accessFlags := 9, code := some k15c1 }
/-- java/lang/Math -/
def k15 : Class := { plain "java/lang/Math" (some 0) with
  accessFlags := 49
  interfaces := #[]
  cf := some (fileOf pool15 1 #[.nestMembers #[98]] #[{ accessFlags := 2, nameIndex := 7, descriptorIndex := 8, attributes := #[] }, { accessFlags := 9, nameIndex := 201, descriptorIndex := 335, attributes := #[] }] 49 4 #[] #[{ accessFlags := 25, nameIndex := 354, descriptorIndex := 339, attributes := #[] }, { accessFlags := 25, nameIndex := 358, descriptorIndex := 339, attributes := #[] }, { accessFlags := 25, nameIndex := 361, descriptorIndex := 339, attributes := #[] }, { accessFlags := 26, nameIndex := 364, descriptorIndex := 339, attributes := #[] }, { accessFlags := 26, nameIndex := 365, descriptorIndex := 339, attributes := #[] }, { accessFlags := 26, nameIndex := 172, descriptorIndex := 173, attributes := #[] }, { accessFlags := 26, nameIndex := 176, descriptorIndex := 173, attributes := #[] }, { accessFlags := 8, nameIndex := 344, descriptorIndex := 339, attributes := #[] }, { accessFlags := 8, nameIndex := 338, descriptorIndex := 339, attributes := #[] }, { accessFlags := 4120, nameIndex := 245, descriptorIndex := 246, attributes := #[] }])
  fields := #[{ name := "E", type := .double, accessFlags := 25, slot := 0, constantValue := 0 }, { name := "PI", type := .double, accessFlags := 25, slot := 1, constantValue := 0 }, { name := "TAU", type := .double, accessFlags := 25, slot := 2, constantValue := 0 }, { name := "DEGREES_TO_RADIANS", type := .double, accessFlags := 26, slot := 3, constantValue := 0 }, { name := "RADIANS_TO_DEGREES", type := .double, accessFlags := 26, slot := 4, constantValue := 0 }, { name := "negativeZeroFloatBits", type := .long, accessFlags := 26, slot := 5, constantValue := 0 }, { name := "negativeZeroDoubleBits", type := .long, accessFlags := 26, slot := 6, constantValue := 0 }, { name := "twoToTheDoubleScaleUp", type := .double, accessFlags := 8, slot := 7, constantValue := 0 }, { name := "twoToTheDoubleScaleDown", type := .double, accessFlags := 8, slot := 8, constantValue := 0 }, { name := "$assertionsDisabled", type := .boolean, accessFlags := 4120, slot := 9, constantValue := 0 }]
  methods := #[k15m0, k15m1]
  instanceTypes := #[]
  staticTypes := #[.double, .double, .double, .double, .double, .long, .long, .double, .double, .boolean]
  resolved := Array.replicate 460 none
  statics := none }

def pool16 : Array CpInfo := pool [(2, .class_ 4), (1, u "java/lang/Object"), (0, u "<init>"), (0, u "()V"), (1, .class_ 10), (1, u "java/lang/System"), (0, u "allowSecurityManager"), (0, u "I"), (16, u "cons"), (0, u "Ljava/io/Console;"), (77, .class_ 110), (1, u "java/lang/System$CallersHolder"), (43, u "initialErrStream"), (0, u "Ljava/io/PrintStream;"), (19, u "security"), (0, u "Ljava/lang/SecurityManager;"), (31, .class_ 209), (0, u "java/lang/System$1"), (7, u "props"), (0, u "Ljava/util/Properties;"), (2, u "lineSeparator"), (0, u "Ljava/lang/String;"), (96, .class_ 321), (1, u "java/lang/System$LoggerFinder"), (5, .class_ 328), (0, u "java/lang/System$Logger"), (67, u "err"), (2, u "out"), (91, u "notSupportedJnuEncoding"), (15, u "in"), (17, u "initialIn"), (0, u "Ljava/io/InputStream;"), (35, u "bootLayer"), (0, u "Ljava/lang/ModuleLayer;"), (99, .class_ 664), (0, u "java/lang/System$2"), (9, u "NEVER"), (2, u "MAYBE"), (49, u "arraycopy"), (0, u "(Ljava/lang/Object;ILjava/lang/Object;II)V"), (72, .class_ 802), (0, u "java/lang/System$Logger$Level")] 31

def k16m0 : Method := { name := "<init>", desc := "()V", sig := { parameters := [], returnType := none }, accessFlags := 2, code := none }
def k16m1 : Method := { name := "arraycopy", desc := "(Ljava/lang/Object;ILjava/lang/Object;II)V", sig := { parameters := [(.object "java/lang/Object"), .int, (.object "java/lang/Object"), .int, .int], returnType := none }, accessFlags := 265, code := none }
/-- java/lang/System -/
def k16 : Class := { plain "java/lang/System" (some 0) with
  accessFlags := 49
  interfaces := #[]
  cf := some (fileOf pool16 8 #[.nestMembers #[319, 327, 801, 108, 663, 208]] #[{ accessFlags := 2, nameIndex := 5, descriptorIndex := 6, attributes := #[] }, { accessFlags := 265, nameIndex := 727, descriptorIndex := 728, attributes := #[] }] 49 2 #[] #[{ accessFlags := 25, nameIndex := 507, descriptorIndex := 526, attributes := #[] }, { accessFlags := 25, nameIndex := 399, descriptorIndex := 155, attributes := #[] }, { accessFlags := 25, nameIndex := 396, descriptorIndex := 155, attributes := #[] }, { accessFlags := 10, nameIndex := 525, descriptorIndex := 526, attributes := #[] }, { accessFlags := 26, nameIndex := 674, descriptorIndex := 12, attributes := #[] }, { accessFlags := 26, nameIndex := 677, descriptorIndex := 12, attributes := #[] }, { accessFlags := 10, nameIndex := 11, descriptorIndex := 12, attributes := #[] }, { accessFlags := 74, nameIndex := 175, descriptorIndex := 176, attributes := #[] }, { accessFlags := 10, nameIndex := 491, descriptorIndex := 222, attributes := #[] }, { accessFlags := 74, nameIndex := 29, descriptorIndex := 30, attributes := #[] }, { accessFlags := 74, nameIndex := 154, descriptorIndex := 155, attributes := #[] }, { accessFlags := 10, nameIndex := 217, descriptorIndex := 218, attributes := #[] }, { accessFlags := 10, nameIndex := 221, descriptorIndex := 222, attributes := #[] }, { accessFlags := 8, nameIndex := 562, descriptorIndex := 563, attributes := #[] }])
  fields := #[{ name := "in", type := (.object "java/io/InputStream"), accessFlags := 25, slot := 0, constantValue := 0 }, { name := "out", type := (.object "java/io/PrintStream"), accessFlags := 25, slot := 1, constantValue := 0 }, { name := "err", type := (.object "java/io/PrintStream"), accessFlags := 25, slot := 2, constantValue := 0 }, { name := "initialIn", type := (.object "java/io/InputStream"), accessFlags := 10, slot := 3, constantValue := 0 }, { name := "NEVER", type := .int, accessFlags := 26, slot := 4, constantValue := 0 }, { name := "MAYBE", type := .int, accessFlags := 26, slot := 5, constantValue := 0 }, { name := "allowSecurityManager", type := .int, accessFlags := 10, slot := 6, constantValue := 0 }, { name := "security", type := (.object "java/lang/SecurityManager"), accessFlags := 74, slot := 7, constantValue := 0 }, { name := "notSupportedJnuEncoding", type := (.object "java/lang/String"), accessFlags := 10, slot := 8, constantValue := 0 }, { name := "cons", type := (.object "java/io/Console"), accessFlags := 74, slot := 9, constantValue := 0 }, { name := "initialErrStream", type := (.object "java/io/PrintStream"), accessFlags := 74, slot := 10, constantValue := 0 }, { name := "props", type := (.object "java/util/Properties"), accessFlags := 10, slot := 11, constantValue := 0 }, { name := "lineSeparator", type := (.object "java/lang/String"), accessFlags := 10, slot := 12, constantValue := 0 }, { name := "bootLayer", type := (.object "java/lang/ModuleLayer"), accessFlags := 8, slot := 13, constantValue := 0 }]
  methods := #[k16m0, k16m1]
  instanceTypes := #[]
  staticTypes := #[(.object "java/io/InputStream"), (.object "java/io/PrintStream"), (.object "java/io/PrintStream"), (.object "java/io/InputStream"), .int, .int, .int, (.object "java/lang/SecurityManager"), (.object "java/lang/String"), (.object "java/io/Console"), (.object "java/io/PrintStream"), (.object "java/util/Properties"), (.object "java/lang/String"), (.object "java/lang/ModuleLayer")]
  resolved := Array.replicate 834 none
  statics := none }

def pool17 : Array CpInfo := pool [(9, u "<init>"), (6, .class_ 18), (1, u "java/lang/Object"), (0, u "()V"), (1, .class_ 23), (1, u "jdk/internal/util/ArraysSupport"), (0, u "LOG2_ARRAY_LONG_INDEX_SCALE"), (0, u "I"), (2, u "U"), (0, u "Ljdk/internal/misc/Unsafe;"), (8, u "BIG_ENDIAN"), (0, u "Z"), (8, u "LOG2_BYTE_BIT_SIZE"), (4, u "LOG2_ARRAY_INT_INDEX_SCALE"), (54, u "JLA"), (0, u "Ljdk/internal/access/JavaLangAccess;"), (11, u "LOG2_ARRAY_BOOLEAN_INDEX_SCALE"), (9, u "LOG2_ARRAY_BYTE_INDEX_SCALE"), (5, u "LOG2_ARRAY_CHAR_INDEX_SCALE"), (5, u "LOG2_ARRAY_SHORT_INDEX_SCALE"), (18, u "LOG2_ARRAY_FLOAT_INDEX_SCALE"), (24, u "LOG2_ARRAY_DOUBLE_INDEX_SCALE"), (89, u "T_BOOLEAN"), (2, u "T_CHAR"), (1, u "T_FLOAT"), (1, u "T_DOUBLE"), (1, u "T_BYTE"), (1, u "T_SHORT"), (1, u "T_INT"), (1, u "T_LONG"), (1, u "SOFT_MAX_ARRAY_LENGTH")] 83

def k17m0 : Method := { name := "<init>", desc := "()V", sig := { parameters := [], returnType := none }, accessFlags := 2, code := none }
/-- jdk/internal/util/ArraysSupport -/
def k17 : Class := { plain "jdk/internal/util/ArraysSupport" (some 0) with
  accessFlags := 33
  interfaces := #[]
  cf := some (fileOf pool17 21 #[] #[{ accessFlags := 2, nameIndex := 9, descriptorIndex := 19, attributes := #[] }] 33 16 #[] #[{ accessFlags := 24, nameIndex := 28, descriptorIndex := 29, attributes := #[] }, { accessFlags := 26, nameIndex := 38, descriptorIndex := 39, attributes := #[] }, { accessFlags := 25, nameIndex := 121, descriptorIndex := 25, attributes := #[] }, { accessFlags := 25, nameIndex := 131, descriptorIndex := 25, attributes := #[] }, { accessFlags := 25, nameIndex := 137, descriptorIndex := 25, attributes := #[] }, { accessFlags := 25, nameIndex := 143, descriptorIndex := 25, attributes := #[] }, { accessFlags := 25, nameIndex := 53, descriptorIndex := 25, attributes := #[] }, { accessFlags := 25, nameIndex := 24, descriptorIndex := 25, attributes := #[] }, { accessFlags := 25, nameIndex := 162, descriptorIndex := 25, attributes := #[] }, { accessFlags := 25, nameIndex := 187, descriptorIndex := 25, attributes := #[] }, { accessFlags := 26, nameIndex := 48, descriptorIndex := 25, attributes := #[] }, { accessFlags := 25, nameIndex := 277, descriptorIndex := 25, attributes := #[] }, { accessFlags := 25, nameIndex := 280, descriptorIndex := 25, attributes := #[] }, { accessFlags := 25, nameIndex := 282, descriptorIndex := 25, attributes := #[] }, { accessFlags := 25, nameIndex := 284, descriptorIndex := 25, attributes := #[] }, { accessFlags := 25, nameIndex := 286, descriptorIndex := 25, attributes := #[] }, { accessFlags := 25, nameIndex := 288, descriptorIndex := 25, attributes := #[] }, { accessFlags := 25, nameIndex := 290, descriptorIndex := 25, attributes := #[] }, { accessFlags := 25, nameIndex := 292, descriptorIndex := 25, attributes := #[] }, { accessFlags := 26, nameIndex := 108, descriptorIndex := 109, attributes := #[] }, { accessFlags := 25, nameIndex := 294, descriptorIndex := 25, attributes := #[] }])
  fields := #[{ name := "U", type := (.object "jdk/internal/misc/Unsafe"), accessFlags := 24, slot := 0, constantValue := 0 }, { name := "BIG_ENDIAN", type := .boolean, accessFlags := 26, slot := 1, constantValue := 0 }, { name := "LOG2_ARRAY_BOOLEAN_INDEX_SCALE", type := .int, accessFlags := 25, slot := 2, constantValue := 0 }, { name := "LOG2_ARRAY_BYTE_INDEX_SCALE", type := .int, accessFlags := 25, slot := 3, constantValue := 0 }, { name := "LOG2_ARRAY_CHAR_INDEX_SCALE", type := .int, accessFlags := 25, slot := 4, constantValue := 0 }, { name := "LOG2_ARRAY_SHORT_INDEX_SCALE", type := .int, accessFlags := 25, slot := 5, constantValue := 0 }, { name := "LOG2_ARRAY_INT_INDEX_SCALE", type := .int, accessFlags := 25, slot := 6, constantValue := 0 }, { name := "LOG2_ARRAY_LONG_INDEX_SCALE", type := .int, accessFlags := 25, slot := 7, constantValue := 0 }, { name := "LOG2_ARRAY_FLOAT_INDEX_SCALE", type := .int, accessFlags := 25, slot := 8, constantValue := 0 }, { name := "LOG2_ARRAY_DOUBLE_INDEX_SCALE", type := .int, accessFlags := 25, slot := 9, constantValue := 0 }, { name := "LOG2_BYTE_BIT_SIZE", type := .int, accessFlags := 26, slot := 10, constantValue := 0 }, { name := "T_BOOLEAN", type := .int, accessFlags := 25, slot := 11, constantValue := 0 }, { name := "T_CHAR", type := .int, accessFlags := 25, slot := 12, constantValue := 0 }, { name := "T_FLOAT", type := .int, accessFlags := 25, slot := 13, constantValue := 0 }, { name := "T_DOUBLE", type := .int, accessFlags := 25, slot := 14, constantValue := 0 }, { name := "T_BYTE", type := .int, accessFlags := 25, slot := 15, constantValue := 0 }, { name := "T_SHORT", type := .int, accessFlags := 25, slot := 16, constantValue := 0 }, { name := "T_INT", type := .int, accessFlags := 25, slot := 17, constantValue := 0 }, { name := "T_LONG", type := .int, accessFlags := 25, slot := 18, constantValue := 0 }, { name := "JLA", type := (.object "jdk/internal/access/JavaLangAccess"), accessFlags := 26, slot := 19, constantValue := 0 }, { name := "SOFT_MAX_ARRAY_LENGTH", type := .int, accessFlags := 25, slot := 20, constantValue := 0 }]
  methods := #[k17m0]
  instanceTypes := #[]
  staticTypes := #[(.object "jdk/internal/misc/Unsafe"), .boolean, .int, .int, .int, .int, .int, .int, .int, .int, .int, .int, .int, .int, .int, .int, .int, .int, .int, (.object "jdk/internal/access/JavaLangAccess"), .int]
  resolved := Array.replicate 378 none
  statics := none }

def pool18 : Array CpInfo := pool [(1, u "java/lang/Cloneable"), (0, .class_ 1), (0, u "java/lang/Object"), (0, .class_ 3)] 3

/-- java/lang/Cloneable -/
def k18 : Class := { plain "java/lang/Cloneable" (some 0) with
  accessFlags := 1537
  interfaces := #[]
  cf := some (fileOf pool18 2 #[] #[] 1537 4 #[] #[])
  fields := #[]
  methods := #[]
  instanceTypes := #[]
  staticTypes := #[]
  resolved := Array.replicate 8 none
  statics := none }

/-- the primitive byte -/
def k19 : Class := { plain "byte" none with kind := .primitive 'B', accessFlags := 0x411 }
/-- [B -/
def k20 : Class := { plain "[B" (some 0) with kind := .array 19 .byte, interfaces := #[18, 2], accessFlags := 1041 }

/-- the primitive char -/
def k21 : Class := { plain "char" none with kind := .primitive 'C', accessFlags := 0x411 }
/-- [C -/
def k22 : Class := { plain "[C" (some 0) with kind := .array 21 .char, interfaces := #[18, 2], accessFlags := 1041 }

/-- the primitive int -/
def k23 : Class := { plain "int" none with kind := .primitive 'I', accessFlags := 0x411 }
/-- [I -/
def k24 : Class := { plain "[I" (some 0) with kind := .array 23 .int, interfaces := #[18, 2], accessFlags := 1041 }

def heap : Heap := #[{ cls := 7, slots := #[.long 0, .int 1, .null, .int 0, .null, .int 0, .int 0], vm := .statics 7 },
  { cls := 13, slots := #[.null, .null, .null], vm := .statics 13 }]
def classes : Array Class := #[k0, k1, k2, k3, k4, k5, k6, k7, k8, k9, k10, k11, k12, k13, k14, k15, k16, k17, k18, k19, k20, k21, k22, k23, k24]
def interned : List (Array UInt16 × Addr) := []
def slotsUsed : Nat := 10
def theMethod : MethodId := ⟨1, 4⟩
def args0 : Array Value := #[.int 3, .int 49, .int 50, .int 51, .int 52, .int 5]
def aboutOver (below : List Frame) : State where
  vm := { classes := classes, interned := interned.toArray }
  heap := heap
  slotsUsed := slotsUsed
  threads := #[{ frames := .invoking theMethod args0 :: below }]
def below0 : List Frame := [.native { method := ⟨0, 0⟩, args := #[] }]
def about1 : State := aboutOver below0
def p0 : Program := .bare "" "" ""
def e0 : Env := launch0.env 0 0 0
theorem w_frames : about1.frames = Frame.invoking theMethod args0 :: below0 := rfl
set_option maxRecDepth 65536 in
theorem w_args : argsFit about1.vm theMethod args0 = true := by decide +kernel
set_option maxRecDepth 65536 in
theorem w_heap : heapFits about1 = true := by decide +kernel
set_option maxRecDepth 65536 in
theorem w_runnable : about1.curStatus? = some .runnable := by decide +kernel
set_option maxRecDepth 65536 in
theorem w_alone : about1.alone = true := by decide +kernel
set_option maxRecDepth 65536 in
theorem w_named : about1.methodNamed? x = some theMethod := by decide +kernel
set_option maxRecDepth 65536 in
theorem w_hears : about1.hears theMethod below0 = true := by decide +kernel
set_option maxRecDepth 65536 in
theorem w_ripe : about1.ripe theMethod args0 below0 = true := by decide +kernel
theorem w_running : about1.status = .running := rfl
set_option maxRecDepth 65536 in
theorem w_room : about1.hasRoom e0.platform room_1 = true :=
  launch0.hasRoom_least _ room_1 (by decide +kernel) (by decide +kernel) (by decide +kernel) (by decide +kernel) (by decide +kernel) (by decide +kernel)
theorem allAtoms_all (ts : List Jvm.Cond) (a : Array Jvm.Value) (st : Jvm.State) : (allAtoms ts).before a st = ts.all (fun c => c.before a st) := by
  induction ts with
  | nil => rfl
  | cons c t ih =>
    show (Jvm.Cond.and c (allAtoms t)).before a st = _
    rw [Jvm.Cond.before_and, ih, List.all_cons]
def words1 : List Jvm.Cond := Jvm.Cond.code x code maxLocals ret :: tables_1
/-- a 'code' word, met by the world's own term for the bytes: nothing is compared byte by byte -/
theorem code_word {y : MethodName} {bytes : ByteArray} {mx : Nat} {rt : Option FieldType} {a : Array Value} {s : State} {m : MethodId} {meth : Method} {c : Code} (h1 : s.methodNamed? y = some m) (h2 : s.vm.method? m = some meth) (h3 : meth.code = some c) (h4 : c.code = bytes)
    (h5 : (c.maxLocals == mx && c.exceptionTable.isEmpty && decide (c.maxStack ≤ mostOperands) && decide (meth.sig.returnType = rt) && !meth.locks && decide (parseMethodDescriptor y.desc = some meth.sig)) = true) : (Jvm.Cond.code y bytes mx rt).before a s = true := by
  simp only [Bool.and_eq_true, beq_iff_eq, Bool.not_eq_true', decide_eq_true_eq] at h5
  obtain ⟨⟨⟨⟨⟨g1, g2⟩, g3⟩, g4⟩, g5⟩, g6⟩ := h5
  simp [Cond.before, Cond.holds, Cond.value, h1, h2, h3, h4, g1, g2, g3, g4, g5, g6]
def isCode : Jvm.Cond → Bool
  | .code _ _ _ _ => true
  | _ => false
theorem all_split {L : List Jvm.Cond} {P : Jvm.Cond → Bool} (h1 : L.all (fun c => isCode c || P c) = true) (h2 : ∀ c ∈ L.filter isCode, P c = true) : L.all P = true := by
  refine List.all_eq_true.mpr fun c hc => ?_
  have h := List.all_eq_true.mp h1 c hc
  rcases Bool.eq_false_or_eq_true (isCode c) with hi | hi
  · exact h2 c (List.mem_filter.mpr ⟨hc, hi⟩)
  · simpa [hi] using h
set_option maxRecDepth 65536 in
theorem w_c0 : (Jvm.Cond.code x code maxLocals ret).before args0 about1 = true := code_word (m := ⟨1, 4⟩) (meth := k1m4) (c := k1c4) (by decide +kernel) rfl rfl rfl (by decide +kernel)
set_option maxRecDepth 65536 in
theorem w_c1 : (Jvm.Cond.code ({ cls := "java/lang/String", name := "<init>", desc := "([C)V" } : Jvm.MethodName) jdk_42_method_3_code (2 : Nat) (Option.none : Option Jvm.ClassFile.FieldType)).before args0 about1 = true := code_word (m := ⟨7, 1⟩) (meth := k7m1) (c := k7c1) (by decide +kernel) rfl rfl rfl (by decide +kernel)
set_option maxRecDepth 65536 in
theorem w_c2 : (Jvm.Cond.code ({ cls := "java/lang/String", name := "<init>", desc := "([CIILjava/lang/Void;)V" } : Jvm.MethodName) jdk_42_method_149_code (6 : Nat) (Option.none : Option Jvm.ClassFile.FieldType)).before args0 about1 = true := code_word (m := ⟨7, 5⟩) (meth := k7m5) (c := k7c5) (by decide +kernel) rfl rfl rfl (by decide +kernel)
set_option maxRecDepth 65536 in
theorem w_c3 : (Jvm.Cond.code ({ cls := "java/lang/Object", name := "<init>", desc := "()V" } : Jvm.MethodName) object_method_1_code (1 : Nat) (Option.none : Option Jvm.ClassFile.FieldType)).before args0 about1 = true := code_word (m := ⟨0, 0⟩) (meth := k0m0) (c := k0c0) (by decide +kernel) rfl rfl rfl (by decide +kernel)
set_option maxRecDepth 65536 in
theorem w_c4 : (Jvm.Cond.code ({ cls := "com/example/rowstrata/rowstrata/type/NumeralIsWholePinLaw", name := "marks", desc := "(Ljava/lang/String;I)Z" } : Jvm.MethodName) method_3_code (3 : Nat) (Option.some Jvm.ClassFile.FieldType.boolean)).before args0 about1 = true := code_word (m := ⟨1, 2⟩) (meth := k1m2) (c := k1c2) (by decide +kernel) rfl rfl rfl (by decide +kernel)
set_option maxRecDepth 65536 in
theorem w_c5 : (Jvm.Cond.code ({ cls := "java/lang/String", name := "length", desc := "()I" } : Jvm.MethodName) jdk_42_method_54_code (1 : Nat) (Option.some Jvm.ClassFile.FieldType.int)).before args0 about1 = true := code_word (m := ⟨7, 2⟩) (meth := k7m2) (c := k7c2) (by decide +kernel) rfl rfl rfl (by decide +kernel)
set_option maxRecDepth 65536 in
theorem w_c6 : (Jvm.Cond.code ({ cls := "java/lang/String", name := "coder", desc := "()B" } : Jvm.MethodName) jdk_42_method_152_code (1 : Nat) (Option.some Jvm.ClassFile.FieldType.byte)).before args0 about1 = true := code_word (m := ⟨7, 7⟩) (meth := k7m7) (c := k7c7) (by decide +kernel) rfl rfl rfl (by decide +kernel)
set_option maxRecDepth 65536 in
theorem w_c7 : (Jvm.Cond.code ({ cls := "com/example/rowstrata/rowstrata/type/Numeral", name := "of", desc := "(Ljava/lang/String;)Lcom/example/rowstrata/rowstrata/type/Numeral;" } : Jvm.MethodName) prog_32_method_2_code (3 : Nat) (Option.some (Jvm.ClassFile.FieldType.object "com/example/rowstrata/rowstrata/type/Numeral"))).before args0 about1 = true := code_word (m := ⟨9, 1⟩) (meth := k9m1) (c := k9c1) (by decide +kernel) rfl rfl rfl (by decide +kernel)
set_option maxRecDepth 65536 in
theorem w_c8 : (Jvm.Cond.code ({ cls := "com/example/rowstrata/rowstrata/type/Numeral$Bounds", name := "of", desc := "(Ljava/lang/CharSequence;I)Lcom/example/rowstrata/rowstrata/type/Numeral$Bounds;" } : Jvm.MethodName) prog_33_method_2_code (5 : Nat) (Option.some (Jvm.ClassFile.FieldType.object "com/example/rowstrata/rowstrata/type/Numeral$Bounds"))).before args0 about1 = true := code_word (m := ⟨10, 1⟩) (meth := k10m1) (c := k10c1) (by decide +kernel) rfl rfl rfl (by decide +kernel)
set_option maxRecDepth 65536 in
theorem w_c9 : (Jvm.Cond.code ({ cls := "com/example/rowstrata/rowstrata/type/Numeral$Bounds", name := "digitsEnd", desc := "(Ljava/lang/CharSequence;I)I" } : Jvm.MethodName) prog_33_method_4_code (3 : Nat) (Option.some Jvm.ClassFile.FieldType.int)).before args0 about1 = true := code_word (m := ⟨10, 3⟩) (meth := k10m3) (c := k10c3) (by decide +kernel) rfl rfl rfl (by decide +kernel)
set_option maxRecDepth 65536 in
theorem w_c10 : (Jvm.Cond.code ({ cls := "com/example/rowstrata/rowstrata/type/Numeral", name := "isWholeNumber", desc := "(Ljava/lang/String;)Z" } : Jvm.MethodName) prog_32_method_3_code (2 : Nat) (Option.some Jvm.ClassFile.FieldType.boolean)).before args0 about1 = true := code_word (m := ⟨9, 2⟩) (meth := k9m2) (c := k9c2) (by decide +kernel) rfl rfl rfl (by decide +kernel)
set_option maxRecDepth 65536 in
theorem w_c11 : (Jvm.Cond.code ({ cls := "com/example/rowstrata/rowstrata/type/NumeralIsWholePinLaw", name := "part", desc := "(ILjava/lang/String;)Ljava/lang/String;" } : Jvm.MethodName) method_4_code (3 : Nat) (Option.some (Jvm.ClassFile.FieldType.object "java/lang/String"))).before args0 about1 = true := code_word (m := ⟨1, 3⟩) (meth := k1m3) (c := k1c3) (by decide +kernel) rfl rfl rfl (by decide +kernel)
set_option maxRecDepth 65536 in
theorem w_c12 : (Jvm.Cond.code ({ cls := "com/example/rowstrata/rowstrata/type/Numeral", name := "<init>", desc := "(ZLjava/lang/String;Ljava/lang/String;Ljava/lang/String;)V" } : Jvm.MethodName) prog_32_method_1_code (5 : Nat) (Option.none : Option Jvm.ClassFile.FieldType)).before args0 about1 = true := code_word (m := ⟨9, 0⟩) (meth := k9m0) (c := k9c0) (by decide +kernel) rfl rfl rfl (by decide +kernel)
set_option maxRecDepth 65536 in
theorem w_c13 : (Jvm.Cond.code ({ cls := "java/lang/Record", name := "<init>", desc := "()V" } : Jvm.MethodName) jdk_30_method_1_code (1 : Nat) (Option.none : Option Jvm.ClassFile.FieldType)).before args0 about1 = true := code_word (m := ⟨8, 0⟩) (meth := k8m0) (c := k8c0) (by decide +kernel) rfl rfl rfl (by decide +kernel)
set_option maxRecDepth 65536 in
theorem w_c14 : (Jvm.Cond.code ({ cls := "com/example/rowstrata/rowstrata/type/Numeral", name := "isWhole", desc := "()Z" } : Jvm.MethodName) prog_32_method_5_code (1 : Nat) (Option.some Jvm.ClassFile.FieldType.boolean)).before args0 about1 = true := code_word (m := ⟨9, 3⟩) (meth := k9m3) (c := k9c3) (by decide +kernel) rfl rfl rfl (by decide +kernel)
set_option maxRecDepth 65536 in
theorem w_c15 : (Jvm.Cond.code ({ cls := "com/example/rowstrata/rowstrata/type/NumeralIsWholePinLaw", name := "chr", desc := "(I)C" } : Jvm.MethodName) method_2_code (3 : Nat) (Option.some Jvm.ClassFile.FieldType.char)).before args0 about1 = true := code_word (m := ⟨1, 1⟩) (meth := k1m1) (c := k1c1) (by decide +kernel) rfl rfl rfl (by decide +kernel)
set_option maxRecDepth 65536 in
theorem w_c16 : (Jvm.Cond.code ({ cls := "java/lang/StringUTF16", name := "compress", desc := "([CII)[B" } : Jvm.MethodName) jdk_52_method_16_code (6 : Nat) (Option.some (Jvm.ClassFile.FieldType.array Jvm.ClassFile.FieldType.byte))).before args0 about1 = true := code_word (m := ⟨11, 2⟩) (meth := k11m2) (c := k11c2) (by decide +kernel) rfl rfl rfl (by decide +kernel)
set_option maxRecDepth 65536 in
theorem w_c17 : (Jvm.Cond.code ({ cls := "java/lang/StringUTF16", name := "compress", desc := "([CI[BII)I" } : Jvm.MethodName) jdk_52_method_21_code (7 : Nat) (Option.some Jvm.ClassFile.FieldType.int)).before args0 about1 = true := code_word (m := ⟨11, 3⟩) (meth := k11m3) (c := k11c3) (by decide +kernel) rfl rfl rfl (by decide +kernel)
set_option maxRecDepth 65536 in
theorem w_c18 : (Jvm.Cond.code ({ cls := "java/lang/StringUTF16", name := "coderFromArrayLen", desc := "([BI)B" } : Jvm.MethodName) jdk_52_method_15_code (2 : Nat) (Option.some Jvm.ClassFile.FieldType.byte)).before args0 about1 = true := code_word (m := ⟨11, 1⟩) (meth := k11m1) (c := k11c1) (by decide +kernel) rfl rfl rfl (by decide +kernel)
set_option maxRecDepth 65536 in
theorem w_c19 : (Jvm.Cond.code ({ cls := "java/lang/String", name := "charAt", desc := "(I)C" } : Jvm.MethodName) jdk_42_method_56_code (2 : Nat) (Option.some Jvm.ClassFile.FieldType.char)).before args0 about1 = true := code_word (m := ⟨7, 3⟩) (meth := k7m3) (c := k7c3) (by decide +kernel) rfl rfl rfl (by decide +kernel)
set_option maxRecDepth 65536 in
theorem w_c20 : (Jvm.Cond.code ({ cls := "java/lang/String", name := "isLatin1", desc := "()Z" } : Jvm.MethodName) jdk_42_method_154_code (1 : Nat) (Option.some Jvm.ClassFile.FieldType.boolean)).before args0 about1 = true := code_word (m := ⟨7, 8⟩) (meth := k7m8) (c := k7c8) (by decide +kernel) rfl rfl rfl (by decide +kernel)
set_option maxRecDepth 65536 in
theorem w_c21 : (Jvm.Cond.code ({ cls := "java/lang/StringLatin1", name := "charAt", desc := "([BI)C" } : Jvm.MethodName) jdk_43_method_2_code (2 : Nat) (Option.some Jvm.ClassFile.FieldType.char)).before args0 about1 = true := code_word (m := ⟨12, 1⟩) (meth := k12m1) (c := k12c1) (by decide +kernel) rfl rfl rfl (by decide +kernel)
set_option maxRecDepth 65536 in
theorem w_c22 : (Jvm.Cond.code ({ cls := "java/lang/String", name := "checkIndex", desc := "(II)V" } : Jvm.MethodName) jdk_42_method_155_code (2 : Nat) (Option.none : Option Jvm.ClassFile.FieldType)).before args0 about1 = true := code_word (m := ⟨7, 9⟩) (meth := k7m9) (c := k7c9) (by decide +kernel) rfl rfl rfl (by decide +kernel)
set_option maxRecDepth 65536 in
theorem w_c23 : (Jvm.Cond.code ({ cls := "jdk/internal/util/Preconditions", name := "checkIndex", desc := "(IILjava/util/function/BiFunction;)I" } : Jvm.MethodName) jdk_41_method_11_code (3 : Nat) (Option.some Jvm.ClassFile.FieldType.int)).before args0 about1 = true := code_word (m := ⟨13, 1⟩) (meth := k13m1) (c := k13c1) (by decide +kernel) rfl rfl rfl (by decide +kernel)
set_option maxRecDepth 65536 in
theorem w_c24 : (Jvm.Cond.code ({ cls := "com/example/rowstrata/rowstrata/type/Numeral$Bounds", name := "isSign", desc := "(C)Z" } : Jvm.MethodName) prog_33_method_5_code (1 : Nat) (Option.some Jvm.ClassFile.FieldType.boolean)).before args0 about1 = true := code_word (m := ⟨10, 4⟩) (meth := k10m4) (c := k10c4) (by decide +kernel) rfl rfl rfl (by decide +kernel)
set_option maxRecDepth 65536 in
theorem w_c25 : (Jvm.Cond.code ({ cls := "com/example/rowstrata/rowstrata/type/Numeral$Bounds", name := "exponentEnd", desc := "(Ljava/lang/CharSequence;I)I" } : Jvm.MethodName) prog_33_method_3_code (4 : Nat) (Option.some Jvm.ClassFile.FieldType.int)).before args0 about1 = true := code_word (m := ⟨10, 2⟩) (meth := k10m2) (c := k10c2) (by decide +kernel) rfl rfl rfl (by decide +kernel)
set_option maxRecDepth 65536 in
theorem w_c26 : (Jvm.Cond.code ({ cls := "com/example/rowstrata/rowstrata/type/Numeral$Bounds", name := "<init>", desc := "(IIII)V" } : Jvm.MethodName) prog_33_method_1_code (5 : Nat) (Option.none : Option Jvm.ClassFile.FieldType)).before args0 about1 = true := code_word (m := ⟨10, 0⟩) (meth := k10m0) (c := k10c0) (by decide +kernel) rfl rfl rfl (by decide +kernel)
set_option maxRecDepth 65536 in
theorem w_c27 : (Jvm.Cond.code ({ cls := "java/lang/String", name := "substring", desc := "(II)Ljava/lang/String;" } : Jvm.MethodName) jdk_42_method_92_code (5 : Nat) (Option.some (Jvm.ClassFile.FieldType.object "java/lang/String"))).before args0 about1 = true := code_word (m := ⟨7, 4⟩) (meth := k7m4) (c := k7c4) (by decide +kernel) rfl rfl rfl (by decide +kernel)
set_option maxRecDepth 65536 in
theorem w_c28 : (Jvm.Cond.code ({ cls := "java/lang/String", name := "checkBoundsBeginEnd", desc := "(III)V" } : Jvm.MethodName) jdk_42_method_158_code (3 : Nat) (Option.none : Option Jvm.ClassFile.FieldType)).before args0 about1 = true := code_word (m := ⟨7, 10⟩) (meth := k7m10) (c := k7c10) (by decide +kernel) rfl rfl rfl (by decide +kernel)
set_option maxRecDepth 65536 in
theorem w_c29 : (Jvm.Cond.code ({ cls := "jdk/internal/util/Preconditions", name := "checkFromToIndex", desc := "(IIILjava/util/function/BiFunction;)I" } : Jvm.MethodName) jdk_41_method_12_code (4 : Nat) (Option.some Jvm.ClassFile.FieldType.int)).before args0 about1 = true := code_word (m := ⟨13, 2⟩) (meth := k13m2) (c := k13c2) (by decide +kernel) rfl rfl rfl (by decide +kernel)
set_option maxRecDepth 65536 in
theorem w_c30 : (Jvm.Cond.code ({ cls := "java/lang/StringLatin1", name := "newString", desc := "([BII)Ljava/lang/String;" } : Jvm.MethodName) jdk_43_method_47_code (3 : Nat) (Option.some (Jvm.ClassFile.FieldType.object "java/lang/String"))).before args0 about1 = true := code_word (m := ⟨12, 2⟩) (meth := k12m2) (c := k12c2) (by decide +kernel) rfl rfl rfl (by decide +kernel)
set_option maxRecDepth 65536 in
theorem w_c31 : (Jvm.Cond.code ({ cls := "java/util/Arrays", name := "copyOfRange", desc := "([BII)[B" } : Jvm.MethodName) jdk_65_method_132_code (3 : Nat) (Option.some (Jvm.ClassFile.FieldType.array Jvm.ClassFile.FieldType.byte))).before args0 about1 = true := code_word (m := ⟨14, 2⟩) (meth := k14m2) (c := k14c2) (by decide +kernel) rfl rfl rfl (by decide +kernel)
set_option maxRecDepth 65536 in
theorem w_c32 : (Jvm.Cond.code ({ cls := "java/util/Arrays", name := "copyOfRangeByte", desc := "([BII)[B" } : Jvm.MethodName) jdk_65_method_133_code (5 : Nat) (Option.some (Jvm.ClassFile.FieldType.array Jvm.ClassFile.FieldType.byte))).before args0 about1 = true := code_word (m := ⟨14, 3⟩) (meth := k14m3) (c := k14c3) (by decide +kernel) rfl rfl rfl (by decide +kernel)
set_option maxRecDepth 65536 in
theorem w_c33 : (Jvm.Cond.code ({ cls := "java/util/Arrays", name := "checkLength", desc := "(II)V" } : Jvm.MethodName) jdk_65_method_131_code (2 : Nat) (Option.none : Option Jvm.ClassFile.FieldType)).before args0 about1 = true := code_word (m := ⟨14, 1⟩) (meth := k14m1) (c := k14c1) (by decide +kernel) rfl rfl rfl (by decide +kernel)
set_option maxRecDepth 65536 in
theorem w_c34 : (Jvm.Cond.code ({ cls := "java/lang/Math", name := "min", desc := "(II)I" } : Jvm.MethodName) jdk_29_method_69_code (2 : Nat) (Option.some Jvm.ClassFile.FieldType.int)).before args0 about1 = true := code_word (m := ⟨15, 1⟩) (meth := k15m1) (c := k15c1) (by decide +kernel) rfl rfl rfl (by decide +kernel)
set_option maxRecDepth 65536 in
theorem w_c35 : (Jvm.Cond.code ({ cls := "java/lang/String", name := "<init>", desc := "([BB)V" } : Jvm.MethodName) jdk_42_method_151_code (3 : Nat) (Option.none : Option Jvm.ClassFile.FieldType)).before args0 about1 = true := code_word (m := ⟨7, 6⟩) (meth := k7m6) (c := k7c6) (by decide +kernel) rfl rfl rfl (by decide +kernel)
def codes1 : List Jvm.Cond := [Jvm.Cond.code x code maxLocals ret, Jvm.Cond.code ({ cls := "java/lang/String", name := "<init>", desc := "([C)V" } : Jvm.MethodName) jdk_42_method_3_code (2 : Nat) (Option.none : Option Jvm.ClassFile.FieldType), Jvm.Cond.code ({ cls := "java/lang/String", name := "<init>", desc := "([CIILjava/lang/Void;)V" } : Jvm.MethodName) jdk_42_method_149_code (6 : Nat) (Option.none : Option Jvm.ClassFile.FieldType), Jvm.Cond.code ({ cls := "java/lang/Object", name := "<init>", desc := "()V" } : Jvm.MethodName) object_method_1_code (1 : Nat) (Option.none : Option Jvm.ClassFile.FieldType), Jvm.Cond.code ({ cls := "com/example/rowstrata/rowstrata/type/NumeralIsWholePinLaw", name := "marks", desc := "(Ljava/lang/String;I)Z" } : Jvm.MethodName) method_3_code (3 : Nat) (Option.some Jvm.ClassFile.FieldType.boolean), Jvm.Cond.code ({ cls := "java/lang/String", name := "length", desc := "()I" } : Jvm.MethodName) jdk_42_method_54_code (1 : Nat) (Option.some Jvm.ClassFile.FieldType.int), Jvm.Cond.code ({ cls := "java/lang/String", name := "coder", desc := "()B" } : Jvm.MethodName) jdk_42_method_152_code (1 : Nat) (Option.some Jvm.ClassFile.FieldType.byte), Jvm.Cond.code ({ cls := "com/example/rowstrata/rowstrata/type/Numeral", name := "of", desc := "(Ljava/lang/String;)Lcom/example/rowstrata/rowstrata/type/Numeral;" } : Jvm.MethodName) prog_32_method_2_code (3 : Nat) (Option.some (Jvm.ClassFile.FieldType.object "com/example/rowstrata/rowstrata/type/Numeral")), Jvm.Cond.code ({ cls := "com/example/rowstrata/rowstrata/type/Numeral$Bounds", name := "of", desc := "(Ljava/lang/CharSequence;I)Lcom/example/rowstrata/rowstrata/type/Numeral$Bounds;" } : Jvm.MethodName) prog_33_method_2_code (5 : Nat) (Option.some (Jvm.ClassFile.FieldType.object "com/example/rowstrata/rowstrata/type/Numeral$Bounds")), Jvm.Cond.code ({ cls := "com/example/rowstrata/rowstrata/type/Numeral$Bounds", name := "digitsEnd", desc := "(Ljava/lang/CharSequence;I)I" } : Jvm.MethodName) prog_33_method_4_code (3 : Nat) (Option.some Jvm.ClassFile.FieldType.int), Jvm.Cond.code ({ cls := "com/example/rowstrata/rowstrata/type/Numeral", name := "isWholeNumber", desc := "(Ljava/lang/String;)Z" } : Jvm.MethodName) prog_32_method_3_code (2 : Nat) (Option.some Jvm.ClassFile.FieldType.boolean), Jvm.Cond.code ({ cls := "com/example/rowstrata/rowstrata/type/NumeralIsWholePinLaw", name := "part", desc := "(ILjava/lang/String;)Ljava/lang/String;" } : Jvm.MethodName) method_4_code (3 : Nat) (Option.some (Jvm.ClassFile.FieldType.object "java/lang/String")), Jvm.Cond.code ({ cls := "com/example/rowstrata/rowstrata/type/Numeral", name := "<init>", desc := "(ZLjava/lang/String;Ljava/lang/String;Ljava/lang/String;)V" } : Jvm.MethodName) prog_32_method_1_code (5 : Nat) (Option.none : Option Jvm.ClassFile.FieldType), Jvm.Cond.code ({ cls := "java/lang/Record", name := "<init>", desc := "()V" } : Jvm.MethodName) jdk_30_method_1_code (1 : Nat) (Option.none : Option Jvm.ClassFile.FieldType), Jvm.Cond.code ({ cls := "com/example/rowstrata/rowstrata/type/Numeral", name := "isWhole", desc := "()Z" } : Jvm.MethodName) prog_32_method_5_code (1 : Nat) (Option.some Jvm.ClassFile.FieldType.boolean), Jvm.Cond.code ({ cls := "com/example/rowstrata/rowstrata/type/NumeralIsWholePinLaw", name := "chr", desc := "(I)C" } : Jvm.MethodName) method_2_code (3 : Nat) (Option.some Jvm.ClassFile.FieldType.char), Jvm.Cond.code ({ cls := "java/lang/StringUTF16", name := "compress", desc := "([CII)[B" } : Jvm.MethodName) jdk_52_method_16_code (6 : Nat) (Option.some (Jvm.ClassFile.FieldType.array Jvm.ClassFile.FieldType.byte)), Jvm.Cond.code ({ cls := "java/lang/StringUTF16", name := "compress", desc := "([CI[BII)I" } : Jvm.MethodName) jdk_52_method_21_code (7 : Nat) (Option.some Jvm.ClassFile.FieldType.int), Jvm.Cond.code ({ cls := "java/lang/StringUTF16", name := "coderFromArrayLen", desc := "([BI)B" } : Jvm.MethodName) jdk_52_method_15_code (2 : Nat) (Option.some Jvm.ClassFile.FieldType.byte), Jvm.Cond.code ({ cls := "java/lang/String", name := "charAt", desc := "(I)C" } : Jvm.MethodName) jdk_42_method_56_code (2 : Nat) (Option.some Jvm.ClassFile.FieldType.char), Jvm.Cond.code ({ cls := "java/lang/String", name := "isLatin1", desc := "()Z" } : Jvm.MethodName) jdk_42_method_154_code (1 : Nat) (Option.some Jvm.ClassFile.FieldType.boolean), Jvm.Cond.code ({ cls := "java/lang/StringLatin1", name := "charAt", desc := "([BI)C" } : Jvm.MethodName) jdk_43_method_2_code (2 : Nat) (Option.some Jvm.ClassFile.FieldType.char), Jvm.Cond.code ({ cls := "java/lang/String", name := "checkIndex", desc := "(II)V" } : Jvm.MethodName) jdk_42_method_155_code (2 : Nat) (Option.none : Option Jvm.ClassFile.FieldType), Jvm.Cond.code ({ cls := "jdk/internal/util/Preconditions", name := "checkIndex", desc := "(IILjava/util/function/BiFunction;)I" } : Jvm.MethodName) jdk_41_method_11_code (3 : Nat) (Option.some Jvm.ClassFile.FieldType.int), Jvm.Cond.code ({ cls := "com/example/rowstrata/rowstrata/type/Numeral$Bounds", name := "isSign", desc := "(C)Z" } : Jvm.MethodName) prog_33_method_5_code (1 : Nat) (Option.some Jvm.ClassFile.FieldType.boolean), Jvm.Cond.code ({ cls := "com/example/rowstrata/rowstrata/type/Numeral$Bounds", name := "exponentEnd", desc := "(Ljava/lang/CharSequence;I)I" } : Jvm.MethodName) prog_33_method_3_code (4 : Nat) (Option.some Jvm.ClassFile.FieldType.int), Jvm.Cond.code ({ cls := "com/example/rowstrata/rowstrata/type/Numeral$Bounds", name := "<init>", desc := "(IIII)V" } : Jvm.MethodName) prog_33_method_1_code (5 : Nat) (Option.none : Option Jvm.ClassFile.FieldType), Jvm.Cond.code ({ cls := "java/lang/String", name := "substring", desc := "(II)Ljava/lang/String;" } : Jvm.MethodName) jdk_42_method_92_code (5 : Nat) (Option.some (Jvm.ClassFile.FieldType.object "java/lang/String")), Jvm.Cond.code ({ cls := "java/lang/String", name := "checkBoundsBeginEnd", desc := "(III)V" } : Jvm.MethodName) jdk_42_method_158_code (3 : Nat) (Option.none : Option Jvm.ClassFile.FieldType), Jvm.Cond.code ({ cls := "jdk/internal/util/Preconditions", name := "checkFromToIndex", desc := "(IIILjava/util/function/BiFunction;)I" } : Jvm.MethodName) jdk_41_method_12_code (4 : Nat) (Option.some Jvm.ClassFile.FieldType.int), Jvm.Cond.code ({ cls := "java/lang/StringLatin1", name := "newString", desc := "([BII)Ljava/lang/String;" } : Jvm.MethodName) jdk_43_method_47_code (3 : Nat) (Option.some (Jvm.ClassFile.FieldType.object "java/lang/String")), Jvm.Cond.code ({ cls := "java/util/Arrays", name := "copyOfRange", desc := "([BII)[B" } : Jvm.MethodName) jdk_65_method_132_code (3 : Nat) (Option.some (Jvm.ClassFile.FieldType.array Jvm.ClassFile.FieldType.byte)), Jvm.Cond.code ({ cls := "java/util/Arrays", name := "copyOfRangeByte", desc := "([BII)[B" } : Jvm.MethodName) jdk_65_method_133_code (5 : Nat) (Option.some (Jvm.ClassFile.FieldType.array Jvm.ClassFile.FieldType.byte)), Jvm.Cond.code ({ cls := "java/util/Arrays", name := "checkLength", desc := "(II)V" } : Jvm.MethodName) jdk_65_method_131_code (2 : Nat) (Option.none : Option Jvm.ClassFile.FieldType), Jvm.Cond.code ({ cls := "java/lang/Math", name := "min", desc := "(II)I" } : Jvm.MethodName) jdk_29_method_69_code (2 : Nat) (Option.some Jvm.ClassFile.FieldType.int), Jvm.Cond.code ({ cls := "java/lang/String", name := "<init>", desc := "([BB)V" } : Jvm.MethodName) jdk_42_method_151_code (3 : Nat) (Option.none : Option Jvm.ClassFile.FieldType)]
set_option maxRecDepth 65536 in
theorem codes_eq : words1.filter isCode = codes1 := rfl
theorem w_codes : ∀ c ∈ words1.filter isCode, c.before args0 about1 = true := by
  rw [codes_eq]
  intro c hc
  simp only [codes1, List.mem_cons, List.not_mem_nil, or_false] at hc
  rcases hc with rfl | rfl | rfl | rfl | rfl | rfl | rfl | rfl | rfl | rfl | rfl | rfl | rfl | rfl | rfl | rfl | rfl | rfl | rfl | rfl | rfl | rfl | rfl | rfl | rfl | rfl | rfl | rfl | rfl | rfl | rfl | rfl | rfl | rfl | rfl | rfl
  · exact w_c0
  · exact w_c1
  · exact w_c2
  · exact w_c3
  · exact w_c4
  · exact w_c5
  · exact w_c6
  · exact w_c7
  · exact w_c8
  · exact w_c9
  · exact w_c10
  · exact w_c11
  · exact w_c12
  · exact w_c13
  · exact w_c14
  · exact w_c15
  · exact w_c16
  · exact w_c17
  · exact w_c18
  · exact w_c19
  · exact w_c20
  · exact w_c21
  · exact w_c22
  · exact w_c23
  · exact w_c24
  · exact w_c25
  · exact w_c26
  · exact w_c27
  · exact w_c28
  · exact w_c29
  · exact w_c30
  · exact w_c31
  · exact w_c32
  · exact w_c33
  · exact w_c34
  · exact w_c35
set_option maxRecDepth 65536 in
theorem w_t1 : (words1.take 24).all (fun c => isCode c || c.before args0 about1) = true := by decide +kernel
set_option maxRecDepth 65536 in
theorem w_t2 : ((words1.drop 24).take 24).all (fun c => isCode c || c.before args0 about1) = true := by decide +kernel
set_option maxRecDepth 65536 in
theorem w_t3 : (((words1.drop 24).drop 24).take 24).all (fun c => isCode c || c.before args0 about1) = true := by decide +kernel
set_option maxRecDepth 65536 in
theorem w_t4 : ((((words1.drop 24).drop 24).drop 24).take 24).all (fun c => isCode c || c.before args0 about1) = true := by decide +kernel
set_option maxRecDepth 65536 in
theorem w_t5 : (((((words1.drop 24).drop 24).drop 24).drop 24).take 24).all (fun c => isCode c || c.before args0 about1) = true := by decide +kernel
set_option maxRecDepth 65536 in
theorem w_t6 : ((((((words1.drop 24).drop 24).drop 24).drop 24).drop 24).take 24).all (fun c => isCode c || c.before args0 about1) = true := by decide +kernel
set_option maxRecDepth 65536 in
theorem w_t7 : (((((((words1.drop 24).drop 24).drop 24).drop 24).drop 24).drop 24).take 24).all (fun c => isCode c || c.before args0 about1) = true := by decide +kernel
set_option maxRecDepth 65536 in
theorem w_t8 : ((((((((words1.drop 24).drop 24).drop 24).drop 24).drop 24).drop 24).drop 24).take 24).all (fun c => isCode c || c.before args0 about1) = true := by decide +kernel
set_option maxRecDepth 65536 in
theorem w_t9 : ((((((((words1.drop 24).drop 24).drop 24).drop 24).drop 24).drop 24).drop 24).drop 24).all (fun c => isCode c || c.before args0 about1) = true := by decide +kernel
theorem w_tables : (allAtoms (Jvm.Cond.code x code maxLocals ret :: tables_1)).before args0 about1 = true := by
  rw [allAtoms_all]
  show words1.all (fun c => c.before args0 about1) = true
  refine all_split ?_ w_codes
  rw [← List.take_append_drop 24 words1, List.all_append, w_t1, ← List.take_append_drop 24 (words1.drop 24), List.all_append, w_t2, ← List.take_append_drop 24 ((words1.drop 24).drop 24), List.all_append, w_t3, ← List.take_append_drop 24 (((words1.drop 24).drop 24).drop 24), List.all_append, w_t4, ← List.take_append_drop 24 ((((words1.drop 24).drop 24).drop 24).drop 24), List.all_append, w_t5, ← List.take_append_drop 24 (((((words1.drop 24).drop 24).drop 24).drop 24).drop 24), List.all_append, w_t6, ← List.take_append_drop 24 ((((((words1.drop 24).drop 24).drop 24).drop 24).drop 24).drop 24), List.all_append, w_t7, ← List.take_append_drop 24 (((((((words1.drop 24).drop 24).drop 24).drop 24).drop 24).drop 24).drop 24), List.all_append, w_t8, w_t9]
  rfl
set_option maxRecDepth 65536 in
theorem w_rest : rest_1_c.before args0 about1 = true := by decide +kernel
set_option maxRecDepth 65536 in
theorem w_case : (Jvm.Cond.and given_1 narrow_1).before args0 about1 = true := by decide +kernel
set_option maxRecDepth 65536 in
theorem w_consts : constsHeld consts_1 about1 := Jvm.Lit.constsHeldB_iff.mp (by decide +kernel)
theorem w_applies : (headSpec (Jvm.Cond.code x code maxLocals ret :: tables_1) room_1).applies x e0.platform about1 = true :=
  (Spec.applies_iff w_frames).mpr ⟨w_running, w_runnable, w_alone, w_named, w_hears, w_ripe, w_room, w_tables⟩
theorem atStart : AtStart classFile x code maxLocals ret World_1 tables_1 room_1 Calls_1 rest_1 Pre_1 launch0 p0 e0 about1 theMethod args0 below0 :=
  ⟨lists_1, trivial, launch0.admits_env _ _ _, launch0.least_env, fairChoices_fair.cas, fairChoices_fair.clock, w_frames, w_args, w_heap, w_applies, ⟨w_consts, trivial⟩, w_rest, w_case⟩
end start1
theorem witness_1 : WitnessClaimed_1 := ⟨start1.p0, start1.e0, start1.about1, start1.theMethod, start1.args0, start1.below0, start1.atStart⟩
end Jvm.Pilot.@@N@@
