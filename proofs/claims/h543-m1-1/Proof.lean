import JvmDerived
import JvmDerived.Pilot.@@N@@Statement
import JvmDerived.Pilot.@@N@@Code
set_option linter.unusedVariables false
set_option linter.unusedSimpArgs false
@@BLOCK:LamKit.lean.txt@@
namespace Jvm.Pilot.@@N@@
open Jvm Jvm.ClassFile Sem Op Lib Jvm.Free Jvm.Stand Jvm.LawKit Jvm.RoadKit Bundle Jvm.Pilot.@@N@@.Jvm.D
theorem own_q {a0 : Array Value} {Z : State} (hw : ∀ d ∈ tables_1, d.before a0 Z = true) (i : Nat) {d : Jvm.Cond} (h : tables_1[i]? = some d) : d.before a0 Z = true := hw d (List.mem_of_getElem? h)
theorem own_isR {w : Value} (h : w = .null ∨ ∃ a : Addr, w = .ref a) : w.isRef = true := by rcases h with rfl | ⟨a, rfl⟩ <;> rfl
theorem own_narR {c : String} {w : Value} (h : w.isRef = true) : narrow (.object c) w = w := by rcases ref_cases h with rfl | ⟨a, rfl⟩ <;> rfl
theorem own_fitR {c : String} {w : Value} (h : w.isRef = true) : fits (.object c) w = true := by rcases ref_cases h with rfl | ⟨a, rfl⟩ <;> rfl
/-- a body that writes nothing and returns r -/
def own_Pure (r : Option Value) (h0 : Heap) (n0 : Nat) (v : Option Value) (h : Heap) (L : List Loc) : Prop := v = r ∧ Fr n0 L ∧ h = h0
theorem own_ext_refl (h : Heap) : Ext h h := ⟨Nat.le_refl _, fun _ _ q => q⟩
theorem own_ext_trans {h0 h h' : Heap} (A : Ext h0 h) (B : Ext h h') : Ext h0 h' := ⟨Nat.le_trans A.1 B.1, fun a c q => B.2 a c (A.2 a c q)⟩
theorem own_ext_keep {h0 h h' : Heap} {ws : List Addr} (A : Ext h0 h) (K : Keep h h' ws) (q : ∀ x ∈ ws, h0.size ≤ x) : Ext h0 h' :=
  ⟨Nat.le_trans A.1 K.1, fun a c r => K.2.1 a c (A.2 a c r) fun z => Nat.lt_irrefl _ (Nat.lt_of_lt_of_le (Array.getElem?_eq_some_iff.mp r).1 (q a z))⟩
theorem own_ext_wr {h0 h h' : Heap} {a : Addr} {sl : Nat} {v : Value} (A : Ext h0 h) (W : Wr h h' a sl v) (q : h0.size ≤ a) : Ext h0 h' := own_ext_keep A (Keep.of_wr W) (allS q all0)
/-- a law that may make cells -/
def own_Made (r : Option Value) (n0 : Nat) (v : Option Value) (h : Heap) (L : List Loc) : Prop := v = r ∧ Fr n0 L ∧ True
theorem own_lc_ge {x y : Int64} (h : y.toInt ≤ x.toInt) : ¬ ((lcmpW x y) < (0 : Int32)) := by
  rw [lw_lt, Int64.lt_iff_toInt_lt]; omega
theorem own_lc_lt {x y : Int64} (h : x.toInt < y.toInt) : (lcmpW x y) < (0 : Int32) := by
  rw [lw_lt, Int64.lt_iff_toInt_lt]; omega
theorem own_lc_le {x y : Int64} (h : x.toInt ≤ y.toInt) : ¬ ((0 : Int32) < (lcmpW x y)) := by
  rw [lw_gt, Int64.lt_iff_toInt_lt]; omega
theorem own_lc_gt {x y : Int64} (h : y.toInt < x.toInt) : (0 : Int32) < (lcmpW x y) := by
  rw [lw_gt, Int64.lt_iff_toInt_lt]; omega
theorem own_lc_eq {x y : Int64} (h : x.toInt = y.toInt) : (lcmpW x y) = (0 : Int32) := by
  rw [lw_eq]; exact Int64.toInt_inj.mp h
theorem own_lc_ne {x y : Int64} (h : x.toInt ≠ y.toInt) : ¬ ((lcmpW x y) = (0 : Int32)) := by
  rw [lw_eq]; intro q; exact h (congrArg Int64.toInt q)
theorem own_lt_lc {x y : Int64} (h : (lcmpW x y) < (0 : Int32)) : x.toInt < y.toInt := by
  rw [lw_lt, Int64.lt_iff_toInt_lt] at h; exact h
theorem own_ge_lc {x y : Int64} (h : ¬ ((lcmpW x y) < (0 : Int32))) : y.toInt ≤ x.toInt := by
  rw [lw_lt, Int64.lt_iff_toInt_lt] at h; omega
theorem own_gt_lc {x y : Int64} (h : (0 : Int32) < (lcmpW x y)) : y.toInt < x.toInt := by
  rw [lw_gt, Int64.lt_iff_toInt_lt] at h; exact h
theorem own_le_lc {x y : Int64} (h : ¬ ((0 : Int32) < (lcmpW x y))) : x.toInt ≤ y.toInt := by
  rw [lw_gt, Int64.lt_iff_toInt_lt] at h; omega
theorem own_eq_lc {x y : Int64} (h : (lcmpW x y) = (0 : Int32)) : x.toInt = y.toInt := by
  rw [lw_eq] at h; rw [h]
theorem own_ne_lc {x y : Int64} (h : ¬ ((lcmpW x y) = (0 : Int32))) : x.toInt ≠ y.toInt := by
  rw [lw_eq] at h; exact fun q => h (Int64.toInt_inj.mp q)
theorem own_lrem {x y : Int64} (hx : 0 ≤ x.toInt) (hy : 0 < y.toInt) : 0 ≤ (x % y).toInt ∧ (x % y).toInt < y.toInt := by
  rw [Int64.toInt_mod]; exact ⟨Int.tmod_nonneg _ hx, Int.tmod_lt_of_pos _ hy⟩
theorem own_nz {x : Int64} (h : 1 ≤ x.toInt) : x ≠ 0 := fun q => by
  rw [q] at h; exact absurd h (by decide)
theorem own_elem {args : Array Value} {s : State} {t u : Term} {a : Addr} {cl : Cell} {ty : FieldType} {j : Int32} {v : Value} (ht : t.eval args s none [] s = some (.ref a)) (A : Arr s s.heap a cl ty)
    (hu : u.eval args s none [] s = some v) (h : (Cond.eq (.elem t (.int j)) u).value args s none s [] = some true) : cl.slots[j.toNatClampNeg]? = some v := by
  simp only [Cond.value] at h
  cases hx : (Term.elem t (.int j)).eval args s none [] s with
  | none => simp [hx] at h
  | some w =>
    have e := (elem_in hx ht (Term.int_eval j) A.1).2
    rw [e]
    cases w <;> cases v <;> simp [hx, hu] at h ⊢ <;> exact h
theorem own_len {args : Array Value} {s : State} {t : Term} {a : Addr} {cl : Cell} {ty : FieldType} {z : Int32} (ht : t.eval args s none [] s = some (.ref a)) (A : Arr s s.heap a cl ty)
    (h : (Cond.eq (.length t) (.int z)).value args s none s [] = some true) : cl.slots.size < 2 ^ 31 ∧ cl.slots.size.toInt32 = z := by
  have ha : s.arrayAt? a = some cl := Arr.fin (Vm.Alike.refl _) A
  by_cases hl : cl.slots.size < 2 ^ 31
  · refine ⟨hl, ?_⟩
    have e := len_f ht ha hl
    have e2 : (Term.int z).eval args s none [] s = some (.int z) := Term.int_eval z
    simpa [Cond.value, e, e2] using h
  · exfalso
    have e : (Term.length t).eval args s none [] s = none := by simp [Term.eval, ht, ha, hl]
    simp [Cond.value, e] at h
theorem own_arvL {args : Array Value} {s : State} {t : Term} {a : Addr} {cl : Cell} {ty : FieldType} {z : Int32} {vs : List Value} {dv : Value} (hf : Fit s) (ht : t.eval args s none [] s = some (.ref a)) (A : Arr s s.heap a cl ty)
    (hl : (Cond.eq (.length t) (.int z)).value args s none s [] = some true) (hz : ¬ z < 0) (hv : z.toNatClampNeg = vs.length) (H : HasL cl 0 vs) : Arv s s.heap a cl.cls ty z vs dv :=
  Arv.start hf A (own_len ht A hl).1 (own_len ht A hl).2 hz hv H
theorem own_fld_eq {args : Array Value} {Z : State} {t : Term} {a : Addr} {C n d : String} {k : Int32} (ht : t.eval args Z none [] Z = some (.ref a))
    (h : (Cond.eq (.field t C n d) (.int k)).value args Z none Z [] = some true) : Fld Z Z.heap a C n d (.int k) := by
  apply Fld.start
  have e1 : (Term.field t C n d).eval args Z none [] Z = Z.fieldOf? a C n d := fld_at ht
  rw [← e1]
  have e2 : (Term.int k).eval args Z none [] Z = some (.int k) := Term.int_eval k
  simp only [Cond.value] at h
  cases hx : (Term.field t C n d).eval args Z none [] Z with
  | none => simp [hx] at h
  | some v => cases v <;> simp [hx, e2] at h ⊢; exact h
def own_AL (Z : State) (h : Heap) (a : Addr) (ed : Value) (sz mc : Int32) : Prop := Exa Z h a "java/util/ArrayList" ∧ Fld Z h a "java/util/ArrayList" "elementData" "[Ljava/lang/Object;" ed ∧ Fld Z h a "java/util/ArrayList" "size" "I" (.int sz) ∧ Fld Z h a "java/util/AbstractList" "modCount" "I" (.int mc)
theorem own_AL.ext {Z : State} {h h' : Heap} {a : Addr} {ed : Value} {sz mc : Int32} (H : own_AL Z h a ed sz mc) (E : Ext h h') : own_AL Z h' a ed sz mc := by obtain ⟨f0, f1, f2, f3⟩ := H; exact ⟨f0.ext E, f1.ext E, f2.ext E, f3.ext E⟩
theorem own_AL.lt {Z : State} {h : Heap} {a : Addr} {ed : Value} {sz mc : Int32} (H : own_AL Z h a ed sz mc) : a < h.size := H.1.lt
theorem own_AL.keep {Z : State} {h h' : Heap} {a : Addr} {ws : List Addr} {ed : Value} {sz mc : Int32} (H : own_AL Z h a ed sz mc) (K : Keep h h' ws) (q : a ∉ ws) : own_AL Z h' a ed sz mc := by obtain ⟨f0, f1, f2, f3⟩ := H; exact ⟨f0.keep K, f1.keep K q, f2.keep K q, f3.keep K q⟩
theorem own_AL.other {Z : State} {h h' : Heap} {a b : Addr} {sl : Nat} {v : Value} {ed : Value} {sz mc : Int32} (H : own_AL Z h a ed sz mc) (W : Wr h h' b sl v) (q : a ≠ b) : own_AL Z h' a ed sz mc := by obtain ⟨f0, f1, f2, f3⟩ := H; exact ⟨f0.wr W, f1.other W (Or.inl q), f2.other W (Or.inl q), f3.other W (Or.inl q)⟩
def own_It (Z : State) (h : Heap) (a : Addr) (ls : Addr) (cu lr mc : Int32) : Prop := Exa Z h a "java/util/ArrayList$Itr" ∧ Fld Z h a "java/util/ArrayList$Itr" "this$0" "Ljava/util/ArrayList;" (.ref ls) ∧ Fld Z h a "java/util/ArrayList$Itr" "cursor" "I" (.int cu) ∧ Fld Z h a "java/util/ArrayList$Itr" "lastRet" "I" (.int lr) ∧ Fld Z h a "java/util/ArrayList$Itr" "expectedModCount" "I" (.int mc)
theorem own_It.ext {Z : State} {h h' : Heap} {a : Addr} {ls : Addr} {cu lr mc : Int32} (H : own_It Z h a ls cu lr mc) (E : Ext h h') : own_It Z h' a ls cu lr mc := by obtain ⟨f0, f1, f2, f3, f4⟩ := H; exact ⟨f0.ext E, f1.ext E, f2.ext E, f3.ext E, f4.ext E⟩
theorem own_It.lt {Z : State} {h : Heap} {a : Addr} {ls : Addr} {cu lr mc : Int32} (H : own_It Z h a ls cu lr mc) : a < h.size := H.1.lt
theorem own_It.keep {Z : State} {h h' : Heap} {a : Addr} {ws : List Addr} {ls : Addr} {cu lr mc : Int32} (H : own_It Z h a ls cu lr mc) (K : Keep h h' ws) (q : a ∉ ws) : own_It Z h' a ls cu lr mc := by obtain ⟨f0, f1, f2, f3, f4⟩ := H; exact ⟨f0.keep K, f1.keep K q, f2.keep K q, f3.keep K q, f4.keep K q⟩
theorem own_It.other {Z : State} {h h' : Heap} {a b : Addr} {sl : Nat} {v : Value} {ls : Addr} {cu lr mc : Int32} (H : own_It Z h a ls cu lr mc) (W : Wr h h' b sl v) (q : a ≠ b) : own_It Z h' a ls cu lr mc := by obtain ⟨f0, f1, f2, f3, f4⟩ := H; exact ⟨f0.wr W, f1.other W (Or.inl q), f2.other W (Or.inl q), f3.other W (Or.inl q), f4.other W (Or.inl q)⟩
def own_FS (Z : State) (h : Heap) (a : Addr) (f : Int32) (oe : Addr) : Prop := Exa Z h a "com/example/parley/parley/floor/FloorSettings" ∧ Fld Z h a "com/example/parley/parley/floor/FloorSettings" "id" "I" (.int f) ∧ Fld Z h a "com/example/parley/parley/floor/FloorSettings" "chair" "Ljava/util/OptionalInt;" (.ref oe)
theorem own_FS.ext {Z : State} {h h' : Heap} {a : Addr} {f : Int32} {oe : Addr} (H : own_FS Z h a f oe) (E : Ext h h') : own_FS Z h' a f oe := by obtain ⟨f0, f1, f2⟩ := H; exact ⟨f0.ext E, f1.ext E, f2.ext E⟩
theorem own_FS.lt {Z : State} {h : Heap} {a : Addr} {f : Int32} {oe : Addr} (H : own_FS Z h a f oe) : a < h.size := H.1.lt
theorem own_FS.keep {Z : State} {h h' : Heap} {a : Addr} {ws : List Addr} {f : Int32} {oe : Addr} (H : own_FS Z h a f oe) (K : Keep h h' ws) (q : a ∉ ws) : own_FS Z h' a f oe := by obtain ⟨f0, f1, f2⟩ := H; exact ⟨f0.keep K, f1.keep K q, f2.keep K q⟩
theorem own_FS.other {Z : State} {h h' : Heap} {a b : Addr} {sl : Nat} {v : Value} {f : Int32} {oe : Addr} (H : own_FS Z h a f oe) (W : Wr h h' b sl v) (q : a ≠ b) : own_FS Z h' a f oe := by obtain ⟨f0, f1, f2⟩ := H; exact ⟨f0.wr W, f1.other W (Or.inl q), f2.other W (Or.inl q)⟩
/-- the JDK's statics: the empty array, the empty OptionalInt -/
def own_Wd (Z : State) (h : Heap) (dE : Addr) (kD : ClassId) (oe : Addr) : Prop := Sta Z h "java/util/ArrayList" "DEFAULTCAPACITY_EMPTY_ELEMENTDATA" "[Ljava/lang/Object;" (.ref dE) ∧ Arv Z h dE kD (.object "java/lang/Object") (0 : Int32) [] .null ∧ Sta Z h "java/util/OptionalInt" "EMPTY" "Ljava/util/OptionalInt;" (.ref oe) ∧ Exa Z h oe "java/util/OptionalInt" ∧ Fld Z h oe "java/util/OptionalInt" "isPresent" "Z" (.int (0 : Int32))
theorem own_Wd.ext {Z : State} {h h' : Heap} {dE oe : Addr} {kD : ClassId} (H : own_Wd Z h dE kD oe) (E : Ext h h') : own_Wd Z h' dE kD oe := by
  obtain ⟨f0, f1, f2, f3, f4⟩ := H; exact ⟨f0.ext E, f1.ext E, f2.ext E, f3.ext E, f4.ext E⟩
/-- a constructor that writes its own object alone -/
def own_Ini (a : Addr) (h0 : Heap) (n0 : Nat) (v : Option Value) (h : Heap) (L : List Loc) : Prop := v = none ∧ Fr n0 L ∧ Keep h0 h [a]
/-- it returns r, writes ws alone, and P holds at its end -/
def own_Do (r : Option Value) (ws : List Addr) (P : Heap → Prop) (h0 : Heap) (n0 : Nat) (v : Option Value) (h : Heap) (L : List Loc) : Prop := v = r ∧ Fr n0 L ∧ Keep h0 h ws ∧ P h
/-- it returns a fresh object of which P holds -/
def own_New (P : Heap → Addr → Prop) (h0 : Heap) (n0 : Nat) (v : Option Value) (h : Heap) (L : List Loc) : Prop := ∃ b : Addr, v = some (.ref b) ∧ Fr n0 L ∧ Ext h0 h ∧ h0.size ≤ b ∧ P h b
def own_Gr (Z : State) (a : Addr) (mc : Int32) (h0 : Heap) (n0 : Nat) (v : Option Value) (h : Heap) (L : List Loc) : Prop := ∃ (b : Addr) (k : ClassId), v = some (.ref b) ∧ Fr n0 L ∧ Keep h0 h [a] ∧ h0.size ≤ b ∧ own_AL Z h a (.ref b) (0 : Int32) mc ∧ Arv Z h b k (.object "java/lang/Object") (10 : Int32) [.null, .null, .null, .null, .null, .null, .null, .null, .null, .null] .null ∧ Ovr Z k "java/lang/Object"
section
variable {p : Program} {l : Launch} {e : Env} {R : Room} {s : State} {m : MethodId} {args : Array Value} {below : List Frame} {meth : Method} {c : Code} {T : State} {locs : List Loc} {cells slots : Nat} {Z : State} {a0 : Array Value}
theorem own_lam (X : Stand p l e R s m args below meth c T locs cells slots) (hx : p.tables.exec = Jvm.exec) (hZ : Z.Warmed39 s.vm) {x : MethodName} {pc index : Nat} {sh : Lambda.Shape} (hnm : s.methodNamed? x = some m) (w : (Cond.lambdaSite x pc index sh).before a0 Z = true) (hc : sh.captured = [])
    {g : JFrame} (hg : g.method = m) (hsize : g.locals.size = c.maxLocals) (hpc : g.pc = pc) (hd : decode c.code g.pc = .ok (.invokedynamic index, 5)) {W : Nat} (hW : 2 * g.monitorRoom + (g.stack.map fun v => v.category).sum ≤ W) (hl : W + 3072 ≤ R.locals) :
    ∃ a : Addr, ∀ target, Steps p.tables e below (T.setTop { g with pc := g.pc + 5, stack := .ref a :: g.stack }) target → Steps p.tables e below (T.setTop g) target := by
  obtain ⟨cK, one, hat⟩ := Cond.lambdaSite_spec w
  obtain ⟨m', kS, cfS, i0, p0, lk, hm', hkS, hcfS, -, -, hfind, hmade, hcan, hlk⟩ := State.lambdaAt?_spec hat
  have hmm : (Z.setVm s.vm).methodNamed? x = some m' := (State.methodNamed?_setVm hZ.alike x).trans hm'
  cases hnm.symm.trans (show s.methodNamed? x = some m' from hmm)
  obtain ⟨k', hk', he⟩ := hZ.alike.2.2 _ _ hkS
  rcases hlk with ⟨a, cell, rfl, -, -, -, -, -, -⟩ | ⟨-, -, h3⟩
  · refine ⟨a, fun target hr => X.lambdaConstant hx hg hsize hd hk' (i0 := i0) (p0 := p0) (by rw [he, hpc]; exact hfind) ?_ hr⟩
    have e0 : e.platform.lambdaLinkWords = 3072 := by rw [X.admits.platform]
    omega
  · exact absurd hc h3
end
theorem own_le_m {x : Int64} (h : 0 ≤ x.toInt) : ¬ ((lcmpW x (0 : Int64)) < (0 : Int32)) := by
  have e : (0 : Int64).toInt = 0 := by decide
  exact own_lc_ge (by omega)
theorem own_le_M {x : Int64} (h : x.toInt ≤ 4294967295) : ¬ ((0 : Int32) < (lcmpW x (4294967295 : Int64))) := by
  have e : (4294967295 : Int64).toInt = 4294967295 := by decide
  exact own_lc_le (by omega)
theorem own_and16 (x : Int32) : 0 ≤ (x &&& (65535 : Int32)).toInt ∧ (x &&& (65535 : Int32)).toInt ≤ 65535 := by
  have h1 : (x &&& (65535 : Int32)).toInt = x.toInt % 65536 := c_mask x 65535 16 (by decide) (by decide)
  omega
theorem own_r16 {x : Int32} (h : 0 ≤ x.toInt ∧ x.toInt ≤ 65535) : (¬ x < (0 : Int32)) ∧ (¬ (65535 : Int32) < x) ∧ x < (65536 : Int32) := by
  have e0 : (0 : Int32).toInt = 0 := by decide
  have e1 : (65535 : Int32).toInt = 65535 := by decide
  have e2 : (65536 : Int32).toInt = 65536 := by decide
  rw [Int32.lt_iff_toInt_lt, Int32.lt_iff_toInt_lt, Int32.lt_iff_toInt_lt]; omega
theorem own_lt6 {x : Int32} (h : ¬ (65535 : Int32) < x) : x < (65536 : Int32) := by
  have e1 : (65535 : Int32).toInt = 65535 := by decide
  have e2 : (65536 : Int32).toInt = 65536 := by decide
  rw [Int32.lt_iff_toInt_lt] at h ⊢; omega
theorem own_tn {x : Int32} (h : ¬ x < 0) : (x.toNatClampNeg : Int) = x.toInt := (nat_of h).symm
theorem own_gHm {f q : Int32} {v : Value} {hs : List (Int32 × Value)} (h0 : ¬ f < 0) (e : q = f) : getH ((f, v) :: hs) [] .null q.toNatClampNeg = v := by
  subst e; simp only [getH]; exact if_pos (own_tn h0).symm
theorem own_gHs {f q : Int32} {v : Value} {hs : List (Int32 × Value)} (h0 : ¬ q < 0) (e : ¬ q = f) : getH ((f, v) :: hs) [] .null q.toNatClampNeg = getH hs [] .null q.toNatClampNeg := by
  simp only [getH]; exact if_neg fun z => e (Int32.toInt_inj.mp ((own_tn h0).symm.trans z.symm))
theorem own_lt12 {x : Int32} (h : x < (1 : Int32)) : x < (2 : Int32) := by
  have e1 : (1 : Int32).toInt = 1 := by decide
  have e2 : (2 : Int32).toInt = 2 := by decide
  rw [Int32.lt_iff_toInt_lt] at h ⊢; omega
theorem own_and32 (x : Int64) : 0 ≤ (x &&& (4294967295 : Int64)).toInt ∧ (x &&& (4294967295 : Int64)).toInt ≤ 4294967295 := by
  have h1 : (x &&& (4294967295 : Int64)).toInt = x.toInt % 4294967296 := c_maskL x 4294967295 32 (by decide) (by decide)
  omega
/-- what a road's answer asks of hasFloor -/
theorem own_hr1 {q f : Int32} {w : Value} (hf : 0 ≤ f.toInt ∧ f.toInt ≤ 65535) (e : q = f) (hw : w ≠ .null) : (q < (0 : Int32) → (1 : Int32) = (0 : Int32)) ∧ ((65535 : Int32) < q → (1 : Int32) = (0 : Int32)) ∧ (¬ q < (0 : Int32) → ¬ (65535 : Int32) < q → w = .null → (1 : Int32) = (0 : Int32)) ∧ (¬ q < (0 : Int32) → ¬ (65535 : Int32) < q → w ≠ .null → (1 : Int32) = (1 : Int32)) := by
  subst e; exact ⟨fun z => absurd z (own_r16 hf).1, fun z => absurd z (own_r16 hf).2.1, fun _ _ z => absurd z hw, fun _ _ _ => rfl⟩
theorem own_atoms {a0 : Array Value} {Z : State} (hw : ∀ d ∈ tables_1, d.before a0 Z = true) : ∀ a ∈ Bundle.stringAtoms, a.before a0 Z = true := by
  intro a ha
  simp only [Bundle.stringAtoms, List.mem_cons, List.not_mem_nil, or_false] at ha
  rcases ha with rfl | rfl | rfl | rfl | rfl | rfl | rfl
  · exact own_q hw 162 rfl
  · exact own_q hw 163 rfl
  · exact own_q hw 164 rfl
  · exact own_q hw 165 rfl
  · exact own_q hw 166 rfl
  · exact own_q hw 167 rfl
  · exact own_q hw 168 rfl
theorem own_retW {s t : State} {o : Outcome} {L : List Loc} {k n k' n' : Nat} (h : ReturnedEndW s o t L k n) (h1 : k ≤ k') (h2 : n ≤ n') : ReturnedEndW s o t L k' n' := ⟨h.1, h.2.1, h.2.2.1, h.2.2.2.mono h1 h2⟩
theorem d3_0 : decode jdk_22_method_1_code 0 = .ok (.aload_n 0, 1) := by decide +kernel
theorem d3_1 : decode jdk_22_method_1_code 1 = .ok (.invokespecial 1, 3) := by decide +kernel
theorem d3_4 : decode jdk_22_method_1_code 4 = .ok (.return_, 1) := by decide +kernel
theorem pn_3 : plainName "java/util/AbstractCollection" = true := by first | (simp [plainName, overriddenIn]; done) | decide +kernel
theorem ef_rm_abc (m : MethodId) (x0 : Addr) : entryFrame m #[(.ref x0)] 1 = mkF m 0 #[.val (.ref x0)] [] := by first | (simp [entryFrame, mkF, argsToLocals, Value.category]; done) | rfl
set_option maxRecDepth 65536 in
set_option maxHeartbeats 40000000 in
theorem rm_abc (l : Launch) (Z : State) (a0 : Array Value) (hw : ∀ d ∈ tables_1, d.before a0 Z = true) (ws : List Jvm.Cond) (a1 : Addr) (h0 : Heap) (n0 : Nat) (Z0 : n0 ≤ h0.size)  :
    MetFree l (⟨"java/util/AbstractCollection", "<init>", "()V"⟩ : MethodName) (head1 (Jvm.Cond.code (⟨"java/util/AbstractCollection", "<init>", "()V"⟩ : MethodName) jdk_22_method_1_code 1 none :: ws) ({ frames := 1, cells := 0, slots := 0, locals := 12 } : Room)) (fun aQ UQ => aQ = #[(.ref a1)] ∧ Z.Warmed39 UQ.vm ∧ UQ.heap = h0) (fun _ _ _ _ _ => True) (fun _ UQ oQ UR => ∃ vQ LQ, oQ = .returned vQ ∧ own_Pure none h0 n0 vQ UR.heap LQ ∧ FrameEnd UQ oQ UR LQ ({ frames := 1, cells := 0, slots := 0, locals := 12 } : Room).cells ({ frames := 1, cells := 0, slots := 0, locals := 12 } : Room).slots) := by
  refine MetFree.of_bodySF (plainFor_of_name pn_3) hisR ?_
  intro p e s m args below meth c s₁ Bd hml0 hP hK
  obtain ⟨rfl, hZ, hh⟩ := hP
  have hx := Bd.exec
  have hby := Bd.bytes
  have hml : c.maxLocals = 1 := hml0
  have hown : s.vm.findClass "java/util/AbstractCollection" = some m.cls := findClass_of_methodNamed Bd.named
  have hnm := (name_of_methodNamed Bd.named Bd.method).1
  have X0 : Stand p l e ({ frames := 1, cells := 0, slots := 0, locals := 12 } : Room) s m #[(.ref a1)] below meth c s₁ [] 0 0 := Stand.of_body Bd
  have e0 : s₁.heap = h0 := by rw [← hh, Bd.state]; rfl
  have N0 := Fr.nil n0
  have pre0 : ∀ t, Steps p.tables e below (s₁.setTop (mkF m 0 #[.val (.ref a1)] [])) t → Steps p.tables e below (s₁.setTop (entryFrame m #[(.ref a1)] 1)) t := fun t kq => castTop (ef_rm_abc m a1) kq
  obtain ⟨T1, X1, e1, st1⟩ := initO X0 hx hZ hown (own_q hw 19 rfl) (own_q hw 20 rfl) (own_q hw 21 rfl) e0 (g := (mkF m 1 #[.val (.ref a1)] [(.ref a1)])) rfl (by rw [hml]; rfl) rfl (hb hby d3_1) (by decide) (W := 0) (by show 2 * 0 + _ ≤ _; exact Nat.le_of_eq rfl) (by decide)
  obtain ⟨fs, hr, hrun, hended, hW, hsame⟩ := X1.leave (v := none) (fun _ => rfl)
  refine ⟨_, _, pre0 _ ?_, hrun, hended, _, _, rfl, ?_, ⟨_, rfl⟩, hW, hsame.mono (by decide) (by decide)⟩
  · refine XS.aloadN X0.here hx rfl (hb hby d3_0) rfl rfl ?_
    refine st1 _ ?_
    show Steps p.tables e below (T1.setTop (mkF m 4 #[.val (.ref a1)] [])) _
    exact X1.returnOut hx Bd.returns (hb hby d3_4) hr
  · show own_Pure none h0 n0 _ T1.heap _
    rw [e1]
    exact ⟨rfl, N0, rfl⟩
theorem d7_0 : decode jdk_71_method_1_code 0 = .ok (.aload_n 0, 1) := by decide +kernel
theorem d7_1 : decode jdk_71_method_1_code 1 = .ok (.invokespecial 1, 3) := by decide +kernel
theorem d7_4 : decode jdk_71_method_1_code 4 = .ok (.return_, 1) := by decide +kernel
theorem pn_7 : plainName "java/util/AbstractMap" = true := by first | (simp [plainName, overriddenIn]; done) | decide +kernel
theorem ef_rm_abm (m : MethodId) (x0 : Addr) : entryFrame m #[(.ref x0)] 1 = mkF m 0 #[.val (.ref x0)] [] := by first | (simp [entryFrame, mkF, argsToLocals, Value.category]; done) | rfl
set_option maxRecDepth 65536 in
set_option maxHeartbeats 40000000 in
theorem rm_abm (l : Launch) (Z : State) (a0 : Array Value) (hw : ∀ d ∈ tables_1, d.before a0 Z = true) (ws : List Jvm.Cond) (a1 : Addr) (h0 : Heap) (n0 : Nat) (Z0 : n0 ≤ h0.size)  :
    MetFree l (⟨"java/util/AbstractMap", "<init>", "()V"⟩ : MethodName) (head1 (Jvm.Cond.code (⟨"java/util/AbstractMap", "<init>", "()V"⟩ : MethodName) jdk_71_method_1_code 1 none :: ws) ({ frames := 1, cells := 0, slots := 0, locals := 12 } : Room)) (fun aQ UQ => aQ = #[(.ref a1)] ∧ Z.Warmed39 UQ.vm ∧ UQ.heap = h0) (fun _ _ _ _ _ => True) (fun _ UQ oQ UR => ∃ vQ LQ, oQ = .returned vQ ∧ own_Pure none h0 n0 vQ UR.heap LQ ∧ FrameEnd UQ oQ UR LQ ({ frames := 1, cells := 0, slots := 0, locals := 12 } : Room).cells ({ frames := 1, cells := 0, slots := 0, locals := 12 } : Room).slots) := by
  refine MetFree.of_bodySF (plainFor_of_name pn_7) hisR ?_
  intro p e s m args below meth c s₁ Bd hml0 hP hK
  obtain ⟨rfl, hZ, hh⟩ := hP
  have hx := Bd.exec
  have hby := Bd.bytes
  have hml : c.maxLocals = 1 := hml0
  have hown : s.vm.findClass "java/util/AbstractMap" = some m.cls := findClass_of_methodNamed Bd.named
  have hnm := (name_of_methodNamed Bd.named Bd.method).1
  have X0 : Stand p l e ({ frames := 1, cells := 0, slots := 0, locals := 12 } : Room) s m #[(.ref a1)] below meth c s₁ [] 0 0 := Stand.of_body Bd
  have e0 : s₁.heap = h0 := by rw [← hh, Bd.state]; rfl
  have N0 := Fr.nil n0
  have pre0 : ∀ t, Steps p.tables e below (s₁.setTop (mkF m 0 #[.val (.ref a1)] [])) t → Steps p.tables e below (s₁.setTop (entryFrame m #[(.ref a1)] 1)) t := fun t kq => castTop (ef_rm_abm m a1) kq
  obtain ⟨T2, X2, e2, st2⟩ := initO X0 hx hZ hown (own_q hw 52 rfl) (own_q hw 20 rfl) (own_q hw 21 rfl) e0 (g := (mkF m 1 #[.val (.ref a1)] [(.ref a1)])) rfl (by rw [hml]; rfl) rfl (hb hby d7_1) (by decide) (W := 0) (by show 2 * 0 + _ ≤ _; exact Nat.le_of_eq rfl) (by decide)
  obtain ⟨fs, hr, hrun, hended, hW, hsame⟩ := X2.leave (v := none) (fun _ => rfl)
  refine ⟨_, _, pre0 _ ?_, hrun, hended, _, _, rfl, ?_, ⟨_, rfl⟩, hW, hsame.mono (by decide) (by decide)⟩
  · refine XS.aloadN X0.here hx rfl (hb hby d7_0) rfl rfl ?_
    refine st2 _ ?_
    show Steps p.tables e below (T2.setTop (mkF m 4 #[.val (.ref a1)] [])) _
    exact X2.returnOut hx Bd.returns (hb hby d7_4) hr
  · show own_Pure none h0 n0 _ T2.heap _
    rw [e2]
    exact ⟨rfl, N0, rfl⟩
theorem d18_0 : decode jdk_30_method_1_code 0 = .ok (.aload_n 0, 1) := by decide +kernel
theorem d18_1 : decode jdk_30_method_1_code 1 = .ok (.invokespecial 1, 3) := by decide +kernel
theorem d18_4 : decode jdk_30_method_1_code 4 = .ok (.return_, 1) := by decide +kernel
theorem pn_11 : plainName "java/lang/Record" = true := by first | (simp [plainName, overriddenIn]; done) | decide +kernel
theorem ef_rm_rec (m : MethodId) (x0 : Addr) : entryFrame m #[(.ref x0)] 1 = mkF m 0 #[.val (.ref x0)] [] := by first | (simp [entryFrame, mkF, argsToLocals, Value.category]; done) | rfl
set_option maxRecDepth 65536 in
set_option maxHeartbeats 40000000 in
theorem rm_rec (l : Launch) (Z : State) (a0 : Array Value) (hw : ∀ d ∈ tables_1, d.before a0 Z = true) (ws : List Jvm.Cond) (a1 : Addr) (h0 : Heap) (n0 : Nat) (Z0 : n0 ≤ h0.size)  :
    MetFree l (⟨"java/lang/Record", "<init>", "()V"⟩ : MethodName) (head1 (Jvm.Cond.code (⟨"java/lang/Record", "<init>", "()V"⟩ : MethodName) jdk_30_method_1_code 1 none :: ws) ({ frames := 1, cells := 0, slots := 0, locals := 12 } : Room)) (fun aQ UQ => aQ = #[(.ref a1)] ∧ Z.Warmed39 UQ.vm ∧ UQ.heap = h0) (fun _ _ _ _ _ => True) (fun _ UQ oQ UR => ∃ vQ LQ, oQ = .returned vQ ∧ own_Pure none h0 n0 vQ UR.heap LQ ∧ FrameEnd UQ oQ UR LQ ({ frames := 1, cells := 0, slots := 0, locals := 12 } : Room).cells ({ frames := 1, cells := 0, slots := 0, locals := 12 } : Room).slots) := by
  refine MetFree.of_bodySF (plainFor_of_name pn_11) hisR ?_
  intro p e s m args below meth c s₁ Bd hml0 hP hK
  obtain ⟨rfl, hZ, hh⟩ := hP
  have hx := Bd.exec
  have hby := Bd.bytes
  have hml : c.maxLocals = 1 := hml0
  have hown : s.vm.findClass "java/lang/Record" = some m.cls := findClass_of_methodNamed Bd.named
  have hnm := (name_of_methodNamed Bd.named Bd.method).1
  have X0 : Stand p l e ({ frames := 1, cells := 0, slots := 0, locals := 12 } : Room) s m #[(.ref a1)] below meth c s₁ [] 0 0 := Stand.of_body Bd
  have e0 : s₁.heap = h0 := by rw [← hh, Bd.state]; rfl
  have N0 := Fr.nil n0
  have pre0 : ∀ t, Steps p.tables e below (s₁.setTop (mkF m 0 #[.val (.ref a1)] [])) t → Steps p.tables e below (s₁.setTop (entryFrame m #[(.ref a1)] 1)) t := fun t kq => castTop (ef_rm_rec m a1) kq
  obtain ⟨T3, X3, e3, st3⟩ := initO X0 hx hZ hown (own_q hw 160 rfl) (own_q hw 20 rfl) (own_q hw 21 rfl) e0 (g := (mkF m 1 #[.val (.ref a1)] [(.ref a1)])) rfl (by rw [hml]; rfl) rfl (hb hby d18_1) (by decide) (W := 0) (by show 2 * 0 + _ ≤ _; exact Nat.le_of_eq rfl) (by decide)
  obtain ⟨fs, hr, hrun, hended, hW, hsame⟩ := X3.leave (v := none) (fun _ => rfl)
  refine ⟨_, _, pre0 _ ?_, hrun, hended, _, _, rfl, ?_, ⟨_, rfl⟩, hW, hsame.mono (by decide) (by decide)⟩
  · refine XS.aloadN X0.here hx rfl (hb hby d18_0) rfl rfl ?_
    refine st3 _ ?_
    show Steps p.tables e below (T3.setTop (mkF m 4 #[.val (.ref a1)] [])) _
    exact X3.returnOut hx Bd.returns (hb hby d18_4) hr
  · show own_Pure none h0 n0 _ T3.heap _
    rw [e3]
    exact ⟨rfl, N0, rfl⟩
theorem d9_0 : decode jdk_91_method_1_code 0 = .ok (.aload_n 0, 1) := by decide +kernel
theorem pd_13 : parseMethodDescriptor "()V" = some ⟨[], none⟩ := by decide +kernel
theorem d9_1 : decode jdk_91_method_1_code 1 = .ok (.invokespecial 1, 3) := by decide +kernel
theorem d9_4 : decode jdk_91_method_1_code 4 = .ok (.return_, 1) := by decide +kernel
theorem pn_16 : plainName "java/util/AbstractSet" = true := by first | (simp [plainName, overriddenIn]; done) | decide +kernel
theorem ef_rm_abs (m : MethodId) (x0 : Addr) : entryFrame m #[(.ref x0)] 1 = mkF m 0 #[.val (.ref x0)] [] := by first | (simp [entryFrame, mkF, argsToLocals, Value.category]; done) | rfl
set_option maxRecDepth 65536 in
set_option maxHeartbeats 40000000 in
theorem rm_abs (l : Launch) (Z : State) (a0 : Array Value) (hw : ∀ d ∈ tables_1, d.before a0 Z = true) (ws : List Jvm.Cond) (a1 : Addr) (h0 : Heap) (n0 : Nat) (Z0 : n0 ≤ h0.size)  :
    MetFree l (⟨"java/util/AbstractSet", "<init>", "()V"⟩ : MethodName) (head1 (Jvm.Cond.code (⟨"java/util/AbstractSet", "<init>", "()V"⟩ : MethodName) jdk_91_method_1_code 1 none :: ws) ({ frames := 2, cells := 0, slots := 0, locals := 24 } : Room)) (fun aQ UQ => aQ = #[(.ref a1)] ∧ Z.Warmed39 UQ.vm ∧ UQ.heap = h0) (fun _ _ _ _ _ => True) (fun _ UQ oQ UR => ∃ vQ LQ, oQ = .returned vQ ∧ own_Pure none h0 n0 vQ UR.heap LQ ∧ FrameEnd UQ oQ UR LQ ({ frames := 2, cells := 0, slots := 0, locals := 24 } : Room).cells ({ frames := 2, cells := 0, slots := 0, locals := 24 } : Room).slots) := by
  refine MetFree.of_bodySF (plainFor_of_name pn_16) hisR ?_
  intro p e s m args below meth c s₁ Bd hml0 hP hK
  obtain ⟨rfl, hZ, hh⟩ := hP
  have hx := Bd.exec
  have hby := Bd.bytes
  have hml : c.maxLocals = 1 := hml0
  have hown : s.vm.findClass "java/util/AbstractSet" = some m.cls := findClass_of_methodNamed Bd.named
  have hnm := (name_of_methodNamed Bd.named Bd.method).1
  have X0 : Stand p l e ({ frames := 2, cells := 0, slots := 0, locals := 24 } : Room) s m #[(.ref a1)] below meth c s₁ [] 0 0 := Stand.of_body Bd
  have e0 : s₁.heap = h0 := by rw [← hh, Bd.state]; rfl
  have N0 := Fr.nil n0
  have pre0 : ∀ t, Steps p.tables e below (s₁.setTop (mkF m 0 #[.val (.ref a1)] [])) t → Steps p.tables e below (s₁.setTop (entryFrame m #[(.ref a1)] 1)) t := fun t kq => castTop (ef_rm_abs m a1) kq
  obtain ⟨_, _, ⟨T4, L4, k4, n4⟩, -, X4, ⟨Lc4, hQ4, l4, y4, z4⟩, st4⟩ := X0.specialBack hx (y := (⟨"java/util/AbstractCollection", "<init>", "()V"⟩ : MethodName)) rfl hown (mvT hZ (own_q hw 70 rfl)) (mvT hZ (own_q hw 14 rfl)) (mvT hZ (own_q hw 18 rfl)) (by decide) (backOf (W := 0) (rm_abc l Z a0 hw [] a1 h0 n0 Z0) hZ (own_q hw 18 rfl) (own_q hw 17 rfl) (by decide) (by decide)) (g := (mkF m 1 #[.val (.ref a1)] [(.ref a1)])) rfl (by rw [hml]; rfl) (Steps.refl _) (a := a1) (argsL := []) (rest := []) (lenOf pd_13 rfl) rfl (by show 2 * 0 + _ ≤ _; exact Nat.le_of_eq rfl) (hb hby d9_1) (fun _ _ => ⟨rfl, e0, (by decide : 0 + 0 ≤ _), (by decide : 0 + 0 ≤ _)⟩)
  dsimp only [Pt.U, Pt.locs, Pt.cells, Pt.slots] at X4 l4 y4 z4 st4 hQ4
  obtain rfl : k4 = 0 := y4; obtain rfl : n4 = 0 := z4
  obtain ⟨rfl, N4q, e4⟩ := hQ4
  have N4 : Fr n0 L4 := by rw [l4]; exact Fr.app N0 N4q
  obtain ⟨fs, hr, hrun, hended, hW, hsame⟩ := X4.leave (v := none) (fun _ => rfl)
  refine ⟨_, _, pre0 _ ?_, hrun, hended, _, _, rfl, ?_, ⟨_, rfl⟩, hW, hsame.mono (by decide) (by decide)⟩
  · refine XS.aloadN X0.here hx rfl (hb hby d9_0) rfl rfl ?_
    refine st4.trans ?_
    show Steps p.tables e below (T4.setTop (mkF m 4 #[.val (.ref a1)] [])) _
    exact X4.returnOut hx Bd.returns (hb hby d9_4) hr
  · show own_Pure none h0 n0 _ T4.heap _
    rw [e4]
    exact ⟨rfl, N4, rfl⟩
theorem d2_0 : decode jdk_39_method_1_code 0 = .ok (.aload_n 0, 1) := by decide +kernel
theorem d2_1 : decode jdk_39_method_1_code 1 = .ok (.invokespecial 1, 3) := by decide +kernel
theorem d2_4 : decode jdk_39_method_1_code 4 = .ok (.aload_n 0, 1) := by decide +kernel
theorem d2_5 : decode jdk_39_method_1_code 5 = .ok (.iconst 0, 1) := by decide +kernel
theorem d2_6 : decode jdk_39_method_1_code 6 = .ok (.putfield 7, 3) := by decide +kernel
theorem d2_9 : decode jdk_39_method_1_code 9 = .ok (.return_, 1) := by decide +kernel
theorem pn_23 : plainName "java/util/AbstractList" = true := by first | (simp [plainName, overriddenIn]; done) | decide +kernel
theorem ef_rm_abl (m : MethodId) (x0 : Addr) : entryFrame m #[(.ref x0)] 1 = mkF m 0 #[.val (.ref x0)] [] := by first | (simp [entryFrame, mkF, argsToLocals, Value.category]; done) | rfl
set_option maxRecDepth 65536 in
set_option maxHeartbeats 40000000 in
theorem rm_abl (l : Launch) (Z : State) (a0 : Array Value) (hw : ∀ d ∈ tables_1, d.before a0 Z = true) (ws : List Jvm.Cond) (a1 : Addr) (h0 : Heap) (n0 : Nat) (Z0 : n0 ≤ h0.size) (hAL : own_AL Z h0 a1 .null (0 : Int32) (0 : Int32)) (gn_a : n0 ≤ a1)  :
    MetFree l (⟨"java/util/AbstractList", "<init>", "()V"⟩ : MethodName) (head1 (Jvm.Cond.code (⟨"java/util/AbstractList", "<init>", "()V"⟩ : MethodName) jdk_39_method_1_code 1 none :: ws) ({ frames := 2, cells := 0, slots := 0, locals := 24 } : Room)) (fun aQ UQ => aQ = #[(.ref a1)] ∧ Z.Warmed39 UQ.vm ∧ UQ.heap = h0) (fun _ _ _ _ _ => True) (fun _ UQ oQ UR => ∃ vQ LQ, oQ = .returned vQ ∧ own_Do none [a1] (fun h => own_AL Z h a1 .null (0 : Int32) (0 : Int32)) h0 n0 vQ UR.heap LQ ∧ FrameEnd UQ oQ UR LQ ({ frames := 2, cells := 0, slots := 0, locals := 24 } : Room).cells ({ frames := 2, cells := 0, slots := 0, locals := 24 } : Room).slots) := by
  refine MetFree.of_bodySF (plainFor_of_name pn_23) hisR ?_
  intro p e s m args below meth c s₁ Bd hml0 hP hK
  obtain ⟨rfl, hZ, hh⟩ := hP
  have hx := Bd.exec
  have hby := Bd.bytes
  have hml : c.maxLocals = 1 := hml0
  have hown : s.vm.findClass "java/util/AbstractList" = some m.cls := findClass_of_methodNamed Bd.named
  have hnm := (name_of_methodNamed Bd.named Bd.method).1
  have X0 : Stand p l e ({ frames := 2, cells := 0, slots := 0, locals := 24 } : Room) s m #[(.ref a1)] below meth c s₁ [] 0 0 := Stand.of_body Bd
  have e0 : s₁.heap = h0 := by rw [← hh, Bd.state]; rfl
  have N0 := Fr.nil n0
  have pre0 : ∀ t, Steps p.tables e below (s₁.setTop (mkF m 0 #[.val (.ref a1)] [])) t → Steps p.tables e below (s₁.setTop (entryFrame m #[(.ref a1)] 1)) t := fun t kq => castTop (ef_rm_abl m a1) kq
  obtain ⟨E_a, F_e, F_s, F_m⟩ := id hAL
  obtain ⟨_, _, ⟨T5, L5, k5, n5⟩, -, X5, ⟨Lc5, hQ5, l5, y5, z5⟩, st5⟩ := X0.specialBack hx (y := (⟨"java/util/AbstractCollection", "<init>", "()V"⟩ : MethodName)) rfl hown (mvT hZ (own_q hw 13 rfl)) (mvT hZ (own_q hw 14 rfl)) (mvT hZ (own_q hw 18 rfl)) (by decide) (backOf (W := 0) (rm_abc l Z a0 hw [] a1 h0 n0 Z0) hZ (own_q hw 18 rfl) (own_q hw 17 rfl) (by decide) (by decide)) (g := (mkF m 1 #[.val (.ref a1)] [(.ref a1)])) rfl (by rw [hml]; rfl) (Steps.refl _) (a := a1) (argsL := []) (rest := []) (lenOf pd_13 rfl) rfl (by show 2 * 0 + _ ≤ _; exact Nat.le_of_eq rfl) (hb hby d2_1) (fun _ _ => ⟨rfl, e0, (by decide : 0 + 0 ≤ _), (by decide : 0 + 0 ≤ _)⟩)
  dsimp only [Pt.U, Pt.locs, Pt.cells, Pt.slots] at X5 l5 y5 z5 st5 hQ5
  obtain rfl : k5 = 0 := y5; obtain rfl : n5 = 0 := z5
  obtain ⟨rfl, N5q, e5⟩ := hQ5
  have N5 : Fr n0 L5 := by rw [l5]; exact Fr.app N0 N5q
  obtain ⟨T6, h6, X6, e6, W6, st6⟩ := putF X5 hx hZ hown (host := "") (Or.inl (own_q hw 22 rfl)) Via.refl e5 F_m E_a (Or.inl (own_q hw 23 rfl)) (own_q hw 2 rfl) (ty := .int) (by decide) rfl rfl (g := (mkF m 6 #[.val (.ref a1)] [(.int (0 : Int32)), (.ref a1)])) rfl rfl (hb hby d2_6)
  have KP6 := Keep.wr (Keep.refl h0 [a1]) W6 (Or.inl (List.mem_of_getElem? (i := 0) rfl))
  have Fw6 := F_m.same W6
  have N6 := Fr.snoc X6 N5 gn_a
  have Fx7 := (E_a.wr W6)
  have Fx8 := (F_e.other W6 (Or.inr (slot_ne (Or.inl (own_q hw 26 rfl)) (Or.inl (own_q hw 23 rfl)) (by decide) (t := (.array (.object "java/lang/Object"))) (t' := .int) (by decide) (by decide))))
  have Fx9 := (F_s.other W6 (Or.inr (slot_ne (Or.inl (own_q hw 134 rfl)) (Or.inl (own_q hw 23 rfl)) (by decide) (t := .int) (t' := .int) (by decide) (by decide))))
  obtain ⟨fs, hr, hrun, hended, hW, hsame⟩ := X6.leave (v := none) (fun _ => rfl)
  refine ⟨_, _, pre0 _ ?_, hrun, hended, _, _, rfl, ?_, ⟨_, rfl⟩, hW, hsame.mono (by decide) (by decide)⟩
  · refine XS.aloadN X0.here hx rfl (hb hby d2_0) rfl rfl ?_
    refine st5.trans ?_
    show Steps p.tables e below (T5.setTop (mkF m 4 #[.val (.ref a1)] [])) _
    refine XS.aloadN X5.here hx rfl (hb hby d2_4) rfl rfl ?_
    refine XS.iconst X5.here hx rfl (hb hby d2_5) ?_
    refine st6 _ ?_
    show Steps p.tables e below (T6.setTop (mkF m 9 #[.val (.ref a1)] [])) _
    exact X6.returnOut hx Bd.returns (hb hby d2_9) hr
  · show own_Do none [a1] (fun h => own_AL Z h a1 .null (0 : Int32) (0 : Int32)) h0 n0 _ T6.heap _
    rw [e6]
    exact ⟨rfl, N6, KP6, ⟨Fx7, Fx8, Fx9, Fw6⟩⟩
theorem d1_0 : decode jdk_38_method_2_code 0 = .ok (.aload_n 0, 1) := by decide +kernel
theorem d1_1 : decode jdk_38_method_2_code 1 = .ok (.invokespecial 1, 3) := by decide +kernel
theorem d1_4 : decode jdk_38_method_2_code 4 = .ok (.aload_n 0, 1) := by decide +kernel
theorem d1_5 : decode jdk_38_method_2_code 5 = .ok (.getstatic 39, 3) := by decide +kernel
theorem d1_8 : decode jdk_38_method_2_code 8 = .ok (.putfield 9, 3) := by decide +kernel
theorem d1_11 : decode jdk_38_method_2_code 11 = .ok (.return_, 1) := by decide +kernel
theorem pn_30 : plainName "java/util/ArrayList" = true := by first | (simp [plainName, overriddenIn]; done) | decide +kernel
theorem ef_rm_ali (m : MethodId) (x0 : Addr) : entryFrame m #[(.ref x0)] 1 = mkF m 0 #[.val (.ref x0)] [] := by first | (simp [entryFrame, mkF, argsToLocals, Value.category]; done) | rfl
set_option maxRecDepth 65536 in
set_option maxHeartbeats 40000000 in
theorem rm_ali (l : Launch) (Z : State) (a0 : Array Value) (hw : ∀ d ∈ tables_1, d.before a0 Z = true) (ws : List Jvm.Cond) (a1 : Addr) (h0 : Heap) (n0 : Nat) (Z0 : n0 ≤ h0.size) (hAL : own_AL Z h0 a1 .null (0 : Int32) (0 : Int32)) (gn_a : n0 ≤ a1) (hS : Heap) (hn : hS.size ≤ n0) (hEx : Ext hS h0) (dE oe : Addr) (kD : ClassId) (hWd : own_Wd Z hS dE kD oe) :
    MetFree l (⟨"java/util/ArrayList", "<init>", "()V"⟩ : MethodName) (head1 (Jvm.Cond.code (⟨"java/util/ArrayList", "<init>", "()V"⟩ : MethodName) jdk_38_method_2_code 1 none :: ws) ({ frames := 3, cells := 0, slots := 0, locals := 36 } : Room)) (fun aQ UQ => aQ = #[(.ref a1)] ∧ Z.Warmed39 UQ.vm ∧ UQ.heap = h0) (fun _ _ _ _ _ => True) (fun _ UQ oQ UR => ∃ vQ LQ, oQ = .returned vQ ∧ own_Do none [a1] (fun h => own_AL Z h a1 (.ref dE) (0 : Int32) (0 : Int32)) h0 n0 vQ UR.heap LQ ∧ FrameEnd UQ oQ UR LQ ({ frames := 3, cells := 0, slots := 0, locals := 36 } : Room).cells ({ frames := 3, cells := 0, slots := 0, locals := 36 } : Room).slots) := by
  refine MetFree.of_bodySF (plainFor_of_name pn_30) hisR ?_
  intro p e s m args below meth c s₁ Bd hml0 hP hK
  obtain ⟨rfl, hZ, hh⟩ := hP
  have hx := Bd.exec
  have hby := Bd.bytes
  have hml : c.maxLocals = 1 := hml0
  have hown : s.vm.findClass "java/util/ArrayList" = some m.cls := findClass_of_methodNamed Bd.named
  have hnm := (name_of_methodNamed Bd.named Bd.method).1
  have X0 : Stand p l e ({ frames := 3, cells := 0, slots := 0, locals := 36 } : Room) s m #[(.ref a1)] below meth c s₁ [] 0 0 := Stand.of_body Bd
  have e0 : s₁.heap = h0 := by rw [← hh, Bd.state]; rfl
  have N0 := Fr.nil n0
  have pre0 : ∀ t, Steps p.tables e below (s₁.setTop (mkF m 0 #[.val (.ref a1)] [])) t → Steps p.tables e below (s₁.setTop (entryFrame m #[(.ref a1)] 1)) t := fun t kq => castTop (ef_rm_ali m a1) kq
  obtain ⟨E_a, F_e, F_s, F_m⟩ := id hAL
  obtain ⟨S_D, A_D, S_O, E_O, F_O⟩ := id hWd
  obtain ⟨_, _, ⟨T10, L10, k10, n10⟩, -, X10, ⟨Lc10, hQ10, l10, y10, z10⟩, st10⟩ := X0.specialBack hx (y := (⟨"java/util/AbstractList", "<init>", "()V"⟩ : MethodName)) rfl hown (mvT hZ (own_q hw 7 rfl)) (mvT hZ (own_q hw 8 rfl)) (mvT hZ (own_q hw 12 rfl)) (by decide) (backOf (W := 0) (rm_abl l Z a0 hw [] a1 h0 n0 Z0 ⟨E_a, F_e, F_s, F_m⟩ gn_a) hZ (own_q hw 12 rfl) (own_q hw 11 rfl) (by decide) (by decide)) (g := (mkF m 1 #[.val (.ref a1)] [(.ref a1)])) rfl (by rw [hml]; rfl) (Steps.refl _) (a := a1) (argsL := []) (rest := []) (lenOf pd_13 rfl) rfl (by show 2 * 0 + _ ≤ _; exact Nat.le_of_eq rfl) (hb hby d1_1) (fun _ _ => ⟨rfl, e0, (by decide : 0 + 0 ≤ _), (by decide : 0 + 0 ≤ _)⟩)
  dsimp only [Pt.U, Pt.locs, Pt.cells, Pt.slots] at X10 l10 y10 z10 st10 hQ10
  obtain rfl : k10 = 0 := y10; obtain rfl : n10 = 0 := z10
  obtain ⟨rfl, N10q, K10, EA10, FE10, FZ10, FM10⟩ := hQ10
  have N10 : Fr n0 L10 := by rw [l10]; exact Fr.app N0 N10q
  have e10 : T10.heap = T10.heap := rfl
  have KP10 := Keep.trans (Keep.refl h0 [a1]) K10 (allS (Or.inl (List.mem_of_getElem? (i := 0) rfl)) all0)
  obtain ⟨T11, X11, e11, st11⟩ := getS2 X10 hx hZ hown (host := "") (Or.inl (own_q hw 24 rfl)) Via.refl e10 (S_D.ext (own_ext_keep hEx KP10 (allS (Nat.le_trans hn gn_a) all0))) (g := (mkF m 5 #[.val (.ref a1)] [(.ref a1)])) rfl (hb hby d1_5)
  obtain ⟨T12, h12, X12, e12, W12, st12⟩ := putF X11 hx hZ hown (host := "") (Or.inl (own_q hw 25 rfl)) Via.refl e11 FE10 EA10 (Or.inl (own_q hw 26 rfl)) (own_q hw 2 rfl) (ty := (.array (.object "java/lang/Object"))) (by decide) rfl rfl (g := (mkF m 8 #[.val (.ref a1)] [(.ref dE), (.ref a1)])) rfl rfl (hb hby d1_8)
  have KP12 := Keep.wr KP10 W12 (Or.inl (List.mem_of_getElem? (i := 0) rfl))
  have Fw12 := FE10.same W12
  have N12 := Fr.snoc X12 N10 gn_a
  have Fx13 := (EA10.wr W12)
  have Fx14 := (FZ10.other W12 (Or.inr (slot_ne (Or.inl (own_q hw 134 rfl)) (Or.inl (own_q hw 26 rfl)) (by decide) (t := .int) (t' := (.array (.object "java/lang/Object"))) (by decide) (by decide))))
  have Fx15 := (FM10.other W12 (Or.inr (slot_ne (Or.inl (own_q hw 23 rfl)) (Or.inl (own_q hw 26 rfl)) (by decide) (t := .int) (t' := (.array (.object "java/lang/Object"))) (by decide) (by decide))))
  obtain ⟨fs, hr, hrun, hended, hW, hsame⟩ := X12.leave (v := none) (fun _ => rfl)
  refine ⟨_, _, pre0 _ ?_, hrun, hended, _, _, rfl, ?_, ⟨_, rfl⟩, hW, hsame.mono (by decide) (by decide)⟩
  · refine XS.aloadN X0.here hx rfl (hb hby d1_0) rfl rfl ?_
    refine st10.trans ?_
    show Steps p.tables e below (T10.setTop (mkF m 4 #[.val (.ref a1)] [])) _
    refine XS.aloadN X10.here hx rfl (hb hby d1_4) rfl rfl ?_
    refine st11 _ ?_
    show Steps p.tables e below (T11.setTop (mkF m 8 #[.val (.ref a1)] [(.ref dE), (.ref a1)])) _
    refine st12 _ ?_
    show Steps p.tables e below (T12.setTop (mkF m 11 #[.val (.ref a1)] [])) _
    exact X12.returnOut hx Bd.returns (hb hby d1_11) hr
  · show own_Do none [a1] (fun h => own_AL Z h a1 (.ref dE) (0 : Int32) (0 : Int32)) h0 n0 _ T12.heap _
    rw [e12]
    exact ⟨rfl, N12, KP12, ⟨Fx13, Fw12, Fx14, Fx15⟩⟩
theorem d6_0 : decode jdk_69_method_7_code 0 = .ok (.aload_n 0, 1) := by decide +kernel
theorem d6_1 : decode jdk_69_method_7_code 1 = .ok (.invokespecial 43, 3) := by decide +kernel
theorem d6_4 : decode jdk_69_method_7_code 4 = .ok (.aload_n 0, 1) := by decide +kernel
theorem d6_5 : decode jdk_69_method_7_code 5 = .ok (.ldc 92, 2) := by decide +kernel
theorem d6_7 : decode jdk_69_method_7_code 7 = .ok (.putfield 81, 3) := by decide +kernel
theorem d6_10 : decode jdk_69_method_7_code 10 = .ok (.return_, 1) := by decide +kernel
theorem pn_37 : plainName "java/util/HashMap" = true := by first | (simp [plainName, overriddenIn]; done) | decide +kernel
theorem ef_rm_hm (m : MethodId) (x0 : Addr) : entryFrame m #[(.ref x0)] 1 = mkF m 0 #[.val (.ref x0)] [] := by first | (simp [entryFrame, mkF, argsToLocals, Value.category]; done) | rfl
set_option maxRecDepth 65536 in
set_option maxHeartbeats 40000000 in
theorem rm_hm (l : Launch) (Z : State) (a0 : Array Value) (hw : ∀ d ∈ tables_1, d.before a0 Z = true) (ws : List Jvm.Cond) (a1 : Addr) (h0 : Heap) (n0 : Nat) (Z0 : n0 ≤ h0.size) (E_a : Exa Z h0 a1 "java/util/HashMap") (F_l : Fld Z h0 a1 "java/util/HashMap" "loadFactor" "F" (.float (0 : UInt32))) (gn_a : n0 ≤ a1) :
    MetFree l (⟨"java/util/HashMap", "<init>", "()V"⟩ : MethodName) (head1 (Jvm.Cond.code (⟨"java/util/HashMap", "<init>", "()V"⟩ : MethodName) jdk_69_method_7_code 1 none :: ws) ({ frames := 2, cells := 0, slots := 0, locals := 24 } : Room)) (fun aQ UQ => aQ = #[(.ref a1)] ∧ Z.Warmed39 UQ.vm ∧ UQ.heap = h0) (fun _ _ _ _ _ => True) (fun _ UQ oQ UR => ∃ vQ LQ, oQ = .returned vQ ∧ own_Ini a1 h0 n0 vQ UR.heap LQ ∧ FrameEnd UQ oQ UR LQ ({ frames := 2, cells := 0, slots := 0, locals := 24 } : Room).cells ({ frames := 2, cells := 0, slots := 0, locals := 24 } : Room).slots) := by
  refine MetFree.of_bodySF (plainFor_of_name pn_37) hisR ?_
  intro p e s m args below meth c s₁ Bd hml0 hP hK
  obtain ⟨rfl, hZ, hh⟩ := hP
  have hx := Bd.exec
  have hby := Bd.bytes
  have hml : c.maxLocals = 1 := hml0
  have hown : s.vm.findClass "java/util/HashMap" = some m.cls := findClass_of_methodNamed Bd.named
  have hnm := (name_of_methodNamed Bd.named Bd.method).1
  have X0 : Stand p l e ({ frames := 2, cells := 0, slots := 0, locals := 24 } : Room) s m #[(.ref a1)] below meth c s₁ [] 0 0 := Stand.of_body Bd
  have e0 : s₁.heap = h0 := by rw [← hh, Bd.state]; rfl
  have N0 := Fr.nil n0
  have pre0 : ∀ t, Steps p.tables e below (s₁.setTop (mkF m 0 #[.val (.ref a1)] [])) t → Steps p.tables e below (s₁.setTop (entryFrame m #[(.ref a1)] 1)) t := fun t kq => castTop (ef_rm_hm m a1) kq
  obtain ⟨_, _, ⟨T16, L16, k16, n16⟩, -, X16, ⟨Lc16, hQ16, l16, y16, z16⟩, st16⟩ := X0.specialBack hx (y := (⟨"java/util/AbstractMap", "<init>", "()V"⟩ : MethodName)) rfl hown (mvT hZ (own_q hw 46 rfl)) (mvT hZ (own_q hw 47 rfl)) (mvT hZ (own_q hw 51 rfl)) (by decide) (backOf (W := 0) (rm_abm l Z a0 hw [] a1 h0 n0 Z0) hZ (own_q hw 51 rfl) (own_q hw 50 rfl) (by decide) (by decide)) (g := (mkF m 1 #[.val (.ref a1)] [(.ref a1)])) rfl (by rw [hml]; rfl) (Steps.refl _) (a := a1) (argsL := []) (rest := []) (lenOf pd_13 rfl) rfl (by show 2 * 0 + _ ≤ _; exact Nat.le_of_eq rfl) (hb hby d6_1) (fun _ _ => ⟨rfl, e0, (by decide : 0 + 0 ≤ _), (by decide : 0 + 0 ≤ _)⟩)
  dsimp only [Pt.U, Pt.locs, Pt.cells, Pt.slots] at X16 l16 y16 z16 st16 hQ16
  obtain rfl : k16 = 0 := y16; obtain rfl : n16 = 0 := z16
  obtain ⟨rfl, N16q, e16⟩ := hQ16
  have N16 : Fr n0 L16 := by rw [l16]; exact Fr.app N0 N16q
  obtain ⟨T17, h17, X17, e17, W17, st17⟩ := putF X16 hx hZ hown (host := "") (Or.inl (own_q hw 54 rfl)) Via.refl e16 F_l E_a (Or.inr ⟨(own_q hw 55 rfl), rfl, hnm⟩) (own_q hw 41 rfl) (ty := .float) (by decide) rfl rfl (g := (mkF m 7 #[.val (.ref a1)] [(.float (1061158912 : UInt32)), (.ref a1)])) rfl rfl (hb hby d6_7)
  have KP17 := Keep.wr (Keep.refl h0 [a1]) W17 (Or.inl (List.mem_of_getElem? (i := 0) rfl))
  have Fw17 := F_l.same W17
  have N17 := Fr.snoc X17 N16 gn_a
  obtain ⟨fs, hr, hrun, hended, hW, hsame⟩ := X17.leave (v := none) (fun _ => rfl)
  refine ⟨_, _, pre0 _ ?_, hrun, hended, _, _, rfl, ?_, ⟨_, rfl⟩, hW, hsame.mono (by decide) (by decide)⟩
  · refine XS.aloadN X0.here hx rfl (hb hby d6_0) rfl rfl ?_
    refine st16.trans ?_
    show Steps p.tables e below (T16.setTop (mkF m 4 #[.val (.ref a1)] [])) _
    refine XS.aloadN X16.here hx rfl (hb hby d6_4) rfl rfl ?_
    refine X16.ldcFloatC hx hown (mvT hZ (own_q hw 53 rfl)) (g := (mkF m 5 #[.val (.ref a1)] [(.ref a1)])) rfl (hb hby d6_5) _ ?_
    show Steps p.tables e below (T16.setTop (mkF m 7 #[.val (.ref a1)] [(.float (1061158912 : UInt32)), (.ref a1)])) _
    refine st17 _ ?_
    show Steps p.tables e below (T17.setTop (mkF m 10 #[.val (.ref a1)] [])) _
    exact X17.returnOut hx Bd.returns (hb hby d6_10) hr
  · show own_Ini a1 h0 n0 _ T17.heap _
    rw [e17]
    exact ⟨rfl, N17, KP17⟩
theorem d8_0 : decode jdk_93_method_1_code 0 = .ok (.aload_n 0, 1) := by decide +kernel
theorem d8_1 : decode jdk_93_method_1_code 1 = .ok (.invokespecial 1, 3) := by decide +kernel
theorem d8_4 : decode jdk_93_method_1_code 4 = .ok (.aload_n 0, 1) := by decide +kernel
theorem d8_5 : decode jdk_93_method_1_code 5 = .ok (.new 7, 3) := by decide +kernel
theorem d8_8 : decode jdk_93_method_1_code 8 = .ok (.dup, 1) := by decide +kernel
theorem d8_9 : decode jdk_93_method_1_code 9 = .ok (.invokespecial 9, 3) := by decide +kernel
theorem d8_12 : decode jdk_93_method_1_code 12 = .ok (.putfield 10, 3) := by decide +kernel
theorem d8_15 : decode jdk_93_method_1_code 15 = .ok (.return_, 1) := by decide +kernel
theorem pn_46 : plainName "java/util/HashSet" = true := by first | (simp [plainName, overriddenIn]; done) | decide +kernel
theorem ef_rm_hs (m : MethodId) (x0 : Addr) : entryFrame m #[(.ref x0)] 1 = mkF m 0 #[.val (.ref x0)] [] := by first | (simp [entryFrame, mkF, argsToLocals, Value.category]; done) | rfl
set_option maxRecDepth 65536 in
set_option maxHeartbeats 40000000 in
theorem rm_hs (l : Launch) (Z : State) (a0 : Array Value) (hw : ∀ d ∈ tables_1, d.before a0 Z = true) (ws : List Jvm.Cond) (a1 : Addr) (h0 : Heap) (n0 : Nat) (Z0 : n0 ≤ h0.size) (E_a : Exa Z h0 a1 "java/util/HashSet") (F_p : Fld Z h0 a1 "java/util/HashSet" "map" "Ljava/util/HashMap;" .null) (gn_a : n0 ≤ a1) :
    MetFree l (⟨"java/util/HashSet", "<init>", "()V"⟩ : MethodName) (head1 (Jvm.Cond.code (⟨"java/util/HashSet", "<init>", "()V"⟩ : MethodName) jdk_93_method_1_code 1 none :: ws) ({ frames := 3, cells := 1, slots := 8, locals := 38 } : Room)) (fun aQ UQ => aQ = #[(.ref a1)] ∧ Z.Warmed39 UQ.vm ∧ UQ.heap = h0) (fun _ _ _ _ _ => True) (fun _ UQ oQ UR => ∃ vQ LQ, oQ = .returned vQ ∧ own_Ini a1 h0 n0 vQ UR.heap LQ ∧ FrameEnd UQ oQ UR LQ ({ frames := 3, cells := 1, slots := 8, locals := 38 } : Room).cells ({ frames := 3, cells := 1, slots := 8, locals := 38 } : Room).slots) := by
  refine MetFree.of_bodySF (plainFor_of_name pn_46) hisR ?_
  intro p e s m args below meth c s₁ Bd hml0 hP hK
  obtain ⟨rfl, hZ, hh⟩ := hP
  have hx := Bd.exec
  have hby := Bd.bytes
  have hml : c.maxLocals = 1 := hml0
  have hown : s.vm.findClass "java/util/HashSet" = some m.cls := findClass_of_methodNamed Bd.named
  have hnm := (name_of_methodNamed Bd.named Bd.method).1
  have X0 : Stand p l e ({ frames := 3, cells := 1, slots := 8, locals := 38 } : Room) s m #[(.ref a1)] below meth c s₁ [] 0 0 := Stand.of_body Bd
  have e0 : s₁.heap = h0 := by rw [← hh, Bd.state]; rfl
  have N0 := Fr.nil n0
  have pre0 : ∀ t, Steps p.tables e below (s₁.setTop (mkF m 0 #[.val (.ref a1)] [])) t → Steps p.tables e below (s₁.setTop (entryFrame m #[(.ref a1)] 1)) t := fun t kq => castTop (ef_rm_hs m a1) kq
  obtain ⟨_, _, ⟨T18, L18, k18, n18⟩, -, X18, ⟨Lc18, hQ18, l18, y18, z18⟩, st18⟩ := X0.specialBack hx (y := (⟨"java/util/AbstractSet", "<init>", "()V"⟩ : MethodName)) rfl hown (mvT hZ (own_q hw 64 rfl)) (mvT hZ (own_q hw 65 rfl)) (mvT hZ (own_q hw 69 rfl)) (by decide) (backOf (W := 0) (rm_abs l Z a0 hw [] a1 h0 n0 Z0) hZ (own_q hw 69 rfl) (own_q hw 68 rfl) (by decide) (by decide)) (g := (mkF m 1 #[.val (.ref a1)] [(.ref a1)])) rfl (by rw [hml]; rfl) (Steps.refl _) (a := a1) (argsL := []) (rest := []) (lenOf pd_13 rfl) rfl (by show 2 * 0 + _ ≤ _; exact Nat.le_of_eq rfl) (hb hby d8_1) (fun _ _ => ⟨rfl, e0, (by decide : 0 + 0 ≤ _), (by decide : 0 + 0 ≤ _)⟩)
  dsimp only [Pt.U, Pt.locs, Pt.cells, Pt.slots] at X18 l18 y18 z18 st18 hQ18
  obtain rfl : k18 = 0 := y18; obtain rfl : n18 = 0 := z18
  obtain ⟨rfl, N18q, e18⟩ := hQ18
  have N18 : Fr n0 L18 := by rw [l18]; exact Fr.app N0 N18q
  obtain ⟨T19, h19, X19, e19, E19, A19, D19, -, st19⟩ := newO X18 hx hZ hown (own_q hw 72 rfl) (own_q hw 41 rfl) (own_q hw 42 rfl) e18 (g := (mkF m 5 #[.val (.ref a1)] [(.ref a1)])) rfl (hb hby d8_5) (by decide) (by decide)
  obtain ⟨b19, g19⟩ : ∃ z, z = h0.size := ⟨_, rfl⟩
  rw [← g19] at A19 D19 st19
  have sz_b19 : h0.size ≤ b19 := Nat.le_trans (Keep.refl h0 [a1]).1 (Nat.le_of_eq g19.symm)
  have gn_b19 : n0 ≤ b19 := Nat.le_trans Z0 sz_b19
  have ne_a1_b19 : a1 ≠ b19 := Nat.ne_of_lt (Nat.lt_of_lt_of_le E_a.lt (Nat.le_of_eq g19.symm))
  have EX19 := own_ext_trans (own_ext_refl h0) E19
  have KP19 := Keep.ext (Keep.refl h0 [a1]) E19
  have F19_loadFactor : Fld Z h19 b19 "java/util/HashMap" "loadFactor" "F" (.float (0 : UInt32)) := D19 (Or.inr (own_q hw 55 rfl)) (ty := .float) (by decide)
  obtain ⟨_, _, ⟨T20, L20, k20, n20⟩, -, X20, ⟨Lc20, hQ20, l20, y20, z20⟩, st20⟩ := X19.specialBack hx (y := (⟨"java/util/HashMap", "<init>", "()V"⟩ : MethodName)) rfl hown (mvT hZ (own_q hw 73 rfl)) (mvT hZ (own_q hw 44 rfl)) (mvT hZ (own_q hw 45 rfl)) (by decide) (backOf (W := 2) (rm_hm l Z a0 hw [] b19 h19 n0 (Nat.le_trans Z0 EX19.1) A19 F19_loadFactor gn_b19) hZ (own_q hw 45 rfl) (own_q hw 42 rfl) (by decide) (by decide)) (g := (mkF m 9 #[.val (.ref a1)] [(.ref b19), (.ref b19), (.ref a1)])) rfl (by rw [hml]; rfl) (Steps.refl _) (a := b19) (argsL := []) (rest := [(.ref b19), (.ref a1)]) (lenOf pd_13 rfl) rfl (by show 2 * 0 + _ ≤ _; exact Nat.le_of_eq rfl) (hb hby d8_9) (fun _ _ => ⟨rfl, e19, (by decide : 1 + 0 ≤ _), (by decide : 8 + 0 ≤ _)⟩)
  dsimp only [Pt.U, Pt.locs, Pt.cells, Pt.slots] at X20 l20 y20 z20 st20 hQ20
  obtain rfl : k20 = 1 := y20; obtain rfl : n20 = 8 := z20
  obtain ⟨rfl, N20q, K20⟩ := hQ20
  have N20 : Fr n0 L20 := by rw [l20]; exact Fr.app N18 N20q
  have e20 : T20.heap = T20.heap := rfl
  have EX20 := own_ext_keep EX19 K20 (allS sz_b19 all0)
  have KP20 := Keep.trans KP19 K20 (allS (Or.inr sz_b19) all0)
  have Fx21 := ((E_a.ext E19).keep K20)
  have Fx22 := ((F_p.ext E19).keep K20 (ninS ne_a1_b19 nin0))
  obtain ⟨T23, h23, X23, e23, W23, st23⟩ := putF X20 hx hZ hown (host := "") (Or.inl (own_q hw 75 rfl)) Via.refl e20 Fx22 Fx21 (Or.inl (own_q hw 76 rfl)) (own_q hw 59 rfl) (ty := (.object "java/util/HashMap")) (by decide) rfl rfl (g := (mkF m 12 #[.val (.ref a1)] [(.ref b19), (.ref a1)])) rfl rfl (hb hby d8_12)
  have KP23 := Keep.wr KP20 W23 (Or.inl (List.mem_of_getElem? (i := 0) rfl))
  have Fw23 := Fx22.same W23
  have N23 := Fr.snoc X23 N20 gn_a
  obtain ⟨fs, hr, hrun, hended, hW, hsame⟩ := X23.leave (v := none) (fun _ => rfl)
  refine ⟨_, _, pre0 _ ?_, hrun, hended, _, _, rfl, ?_, ⟨_, rfl⟩, hW, hsame.mono (by decide) (by decide)⟩
  · refine XS.aloadN X0.here hx rfl (hb hby d8_0) rfl rfl ?_
    refine st18.trans ?_
    show Steps p.tables e below (T18.setTop (mkF m 4 #[.val (.ref a1)] [])) _
    refine XS.aloadN X18.here hx rfl (hb hby d8_4) rfl rfl ?_
    refine st19 _ ?_
    show Steps p.tables e below (T19.setTop (mkF m 8 #[.val (.ref a1)] [(.ref b19), (.ref a1)])) _
    refine XS.dup X19.here hx rfl (hb hby d8_8) rfl rfl ?_
    refine st20.trans ?_
    show Steps p.tables e below (T20.setTop (mkF m 12 #[.val (.ref a1)] [(.ref b19), (.ref a1)])) _
    refine st23 _ ?_
    show Steps p.tables e below (T23.setTop (mkF m 15 #[.val (.ref a1)] [])) _
    exact X23.returnOut hx Bd.returns (hb hby d8_15) hr
  · show own_Ini a1 h0 n0 _ T23.heap _
    rw [e23]
    exact ⟨rfl, N23, KP23⟩
theorem d10_0 : decode prog_3_method_5_code 0 = .ok (.lload_n 0, 1) := by decide +kernel
theorem d10_1 : decode prog_3_method_5_code 1 = .ok (.lconst 0, 1) := by decide +kernel
theorem d10_2 : decode prog_3_method_5_code 2 = .ok (.lcmp, 1) := by decide +kernel
theorem d10_3 : decode prog_3_method_5_code 3 = .ok (.ifCond .lt 11, 3) := by decide +kernel
theorem d10_6 : decode prog_3_method_5_code 6 = .ok (.lload_n 0, 1) := by decide +kernel
theorem d10_7 : decode prog_3_method_5_code 7 = .ok (.ldc2_w 166, 3) := by decide +kernel
theorem d10_10 : decode prog_3_method_5_code 10 = .ok (.lcmp, 1) := by decide +kernel
theorem d10_11 : decode prog_3_method_5_code 11 = .ok (.ifCond .le 17, 3) := by decide +kernel
theorem d10_28 : decode prog_3_method_5_code 28 = .ok (.lload_n 0, 1) := by decide +kernel
theorem d10_29 : decode prog_3_method_5_code 29 = .ok (.lreturn, 1) := by decide +kernel
theorem pn_57 : plainName "com/example/parley/parley/floor/Conference" = true := by first | (simp [plainName, overriddenIn]; done) | decide +kernel
theorem ef_rm_cid (m : MethodId) (x0 : Int64) : entryFrame m #[(.long x0)] 2 = mkF m 0 #[.val (.long x0), .second] [] := by first | (simp [entryFrame, mkF, argsToLocals, Value.category]; done) | rfl
set_option maxRecDepth 65536 in
set_option maxHeartbeats 40000000 in
theorem rm_cid (l : Launch) (Z : State) (a0 : Array Value) (hw : ∀ d ∈ tables_1, d.before a0 Z = true) (ws : List Jvm.Cond) (x : Int64) (h0 : Heap) (n0 : Nat) (Z0 : n0 ≤ h0.size) (hx0 : 0 ≤ x.toInt) (hx1 : x.toInt ≤ 4294967295) :
    MetFree l (⟨"com/example/parley/parley/floor/Conference", "checkId", "(J)J"⟩ : MethodName) (head1 (Jvm.Cond.code (⟨"com/example/parley/parley/floor/Conference", "checkId", "(J)J"⟩ : MethodName) prog_3_method_5_code 2 (some .long) :: ws) ({ frames := 0, cells := 0, slots := 0, locals := 0 } : Room)) (fun aQ UQ => aQ = #[(.long x)] ∧ Z.Warmed39 UQ.vm ∧ UQ.heap = h0) (fun _ _ _ _ _ => True) (fun _ UQ oQ UR => ∃ vQ LQ, oQ = .returned vQ ∧ own_Pure (some (.long x)) h0 n0 vQ UR.heap LQ ∧ FrameEnd UQ oQ UR LQ ({ frames := 0, cells := 0, slots := 0, locals := 0 } : Room).cells ({ frames := 0, cells := 0, slots := 0, locals := 0 } : Room).slots) := by
  refine MetFree.of_bodySF (plainFor_of_name pn_57) hisR ?_
  intro p e s m args below meth c s₁ Bd hml0 hP hK
  obtain ⟨rfl, hZ, hh⟩ := hP
  have hx := Bd.exec
  have hby := Bd.bytes
  have hml : c.maxLocals = 2 := hml0
  have hown : s.vm.findClass "com/example/parley/parley/floor/Conference" = some m.cls := findClass_of_methodNamed Bd.named
  have hnm := (name_of_methodNamed Bd.named Bd.method).1
  have X0 : Stand p l e ({ frames := 0, cells := 0, slots := 0, locals := 0 } : Room) s m #[(.long x)] below meth c s₁ [] 0 0 := Stand.of_body Bd
  have e0 : s₁.heap = h0 := by rw [← hh, Bd.state]; rfl
  have N0 := Fr.nil n0
  have pre0 : ∀ t, Steps p.tables e below (s₁.setTop (mkF m 0 #[.val (.long x), .second] [])) t → Steps p.tables e below (s₁.setTop (entryFrame m #[(.long x)] 2)) t := fun t kq => castTop (ef_rm_cid m x) kq
  obtain ⟨fs, hr, hrun, hended, hW, hsame⟩ := X0.leave (v := some (.long x)) (fun h => by rw [Bd.returns] at h; cases h)
  refine ⟨_, _, pre0 _ ?_, hrun, hended, _, _, rfl, ?_, ⟨_, rfl⟩, hW, hsame.mono (by decide) (by decide)⟩
  · refine XS.lloadN X0.here hx rfl (hb hby d10_0) rfl ?_
    refine XS.lconst X0.here hx rfl (hb hby d10_1) ?_
    refine XS.lcmp X0.here hx rfl (hb hby d10_2) rfl ?_
    refine XS.ifNo X0.here hx rfl (hb hby d10_3) rfl ((if0 _ _).trans (flt ((own_le_m hx0) : ¬ ((lcmpW x (0 : Int64)) < (0 : Int32)))).1) ?_
    refine XS.lloadN X0.here hx rfl (hb hby d10_6) rfl ?_
    refine X0.ldc2Long hx hown (mvT hZ (own_q hw 94 rfl)) (g := (mkF m 7 #[.val (.long x), .second] [(.long x)])) rfl (hb hby d10_7) _ ?_
    show Steps p.tables e below (s₁.setTop (mkF m 10 #[.val (.long x), .second] [(.long (4294967295 : Int64)), (.long x)])) _
    refine XS.lcmp X0.here hx rfl (hb hby d10_10) rfl ?_
    refine XS.ifYes X0.here hx rfl (pc0 := 11) (pc' := 28) rfl (hb hby d10_11) rfl ((if0 _ _).trans (flt ((own_le_M hx1) : ¬ ((0 : Int32) < (lcmpW x (4294967295 : Int64))))).2.2.2) (by decide) (by decide) ?_
    refine XS.lloadN X0.here hx rfl (hb hby d10_28) rfl ?_
    exact retOut X0 hx Bd.returns rfl (Or.inr (Or.inl ⟨rfl, rfl, _, rfl⟩)) (hb hby d10_29) hr
  · show own_Pure (some (.long x)) h0 n0 _ s₁.heap _
    rw [e0]
    exact ⟨rfl, N0, rfl⟩
theorem d19_0 : decode prog_3_method_12_code 0 = .ok (.iload_n 0, 1) := by decide +kernel
theorem d19_1 : decode prog_3_method_12_code 1 = .ok (.ifCond .lt 10, 3) := by decide +kernel
theorem d19_4 : decode prog_3_method_12_code 4 = .ok (.iload_n 0, 1) := by decide +kernel
theorem d19_5 : decode prog_3_method_12_code 5 = .ok (.ldc_w 264, 3) := by decide +kernel
theorem d19_8 : decode prog_3_method_12_code 8 = .ok (.if_icmp .le 18, 3) := by decide +kernel
theorem d19_26 : decode prog_3_method_12_code 26 = .ok (.iload_n 0, 1) := by decide +kernel
theorem d19_27 : decode prog_3_method_12_code 27 = .ok (.ireturn, 1) := by decide +kernel
theorem ef_rm_c16 (m : MethodId) (x0 : Int32) (x1 : Addr) : entryFrame m #[(.int x0), (.ref x1)] 2 = mkF m 0 #[.val (.int x0), .val (.ref x1)] [] := by first | (simp [entryFrame, mkF, argsToLocals, Value.category]; done) | rfl
set_option maxRecDepth 65536 in
set_option maxHeartbeats 40000000 in
theorem rm_c16 (l : Launch) (Z : State) (a0 : Array Value) (hw : ∀ d ∈ tables_1, d.before a0 Z = true) (ws : List Jvm.Cond) (f : Int32) (tx : Addr) (h0 : Heap) (n0 : Nat) (Z0 : n0 ≤ h0.size) (hf : 0 ≤ f.toInt ∧ f.toInt ≤ 65535) :
    MetFree l (⟨"com/example/parley/parley/floor/Conference", "checkSixteenBits", "(ILjava/lang/String;)I"⟩ : MethodName) (head1 (Jvm.Cond.code (⟨"com/example/parley/parley/floor/Conference", "checkSixteenBits", "(ILjava/lang/String;)I"⟩ : MethodName) prog_3_method_12_code 2 (some .int) :: ws) ({ frames := 0, cells := 0, slots := 0, locals := 0 } : Room)) (fun aQ UQ => aQ = #[(.int f), (.ref tx)] ∧ Z.Warmed39 UQ.vm ∧ UQ.heap = h0) (fun _ _ _ _ _ => True) (fun _ UQ oQ UR => ∃ vQ LQ, oQ = .returned vQ ∧ own_Pure (some (.int f)) h0 n0 vQ UR.heap LQ ∧ FrameEnd UQ oQ UR LQ ({ frames := 0, cells := 0, slots := 0, locals := 0 } : Room).cells ({ frames := 0, cells := 0, slots := 0, locals := 0 } : Room).slots) := by
  refine MetFree.of_bodySF (plainFor_of_name pn_57) hisR ?_
  intro p e s m args below meth c s₁ Bd hml0 hP hK
  obtain ⟨rfl, hZ, hh⟩ := hP
  have hx := Bd.exec
  have hby := Bd.bytes
  have hml : c.maxLocals = 2 := hml0
  have hown : s.vm.findClass "com/example/parley/parley/floor/Conference" = some m.cls := findClass_of_methodNamed Bd.named
  have hnm := (name_of_methodNamed Bd.named Bd.method).1
  have X0 : Stand p l e ({ frames := 0, cells := 0, slots := 0, locals := 0 } : Room) s m #[(.int f), (.ref tx)] below meth c s₁ [] 0 0 := Stand.of_body Bd
  have e0 : s₁.heap = h0 := by rw [← hh, Bd.state]; rfl
  have N0 := Fr.nil n0
  have pre0 : ∀ t, Steps p.tables e below (s₁.setTop (mkF m 0 #[.val (.int f), .val (.ref tx)] [])) t → Steps p.tables e below (s₁.setTop (entryFrame m #[(.int f), (.ref tx)] 2)) t := fun t kq => castTop (ef_rm_c16 m f tx) kq
  obtain ⟨fs, hr, hrun, hended, hW, hsame⟩ := X0.leave (v := some (.int f)) (fun h => by rw [Bd.returns] at h; cases h)
  refine ⟨_, _, pre0 _ ?_, hrun, hended, _, _, rfl, ?_, ⟨_, rfl⟩, hW, hsame.mono (by decide) (by decide)⟩
  · refine XS.iloadN X0.here hx rfl (hb hby d19_0) rfl ?_
    refine XS.ifNo X0.here hx rfl (hb hby d19_1) rfl ((if0 _ _).trans (flt ((own_r16 hf).1 : ¬ (f < (0 : Int32)))).1) ?_
    refine XS.iloadN X0.here hx rfl (hb hby d19_4) rfl ?_
    refine X0.ldcwInt hx hown (mvT hZ (own_q hw 140 rfl)) (g := (mkF m 5 #[.val (.int f), .val (.ref tx)] [(.int f)])) rfl (hb hby d19_5) _ ?_
    show Steps p.tables e below (s₁.setTop (mkF m 8 #[.val (.int f), .val (.ref tx)] [(.int (65535 : Int32)), (.int f)])) _
    refine XS.icmpYes X0.here hx rfl (pc0 := 8) (pc' := 26) rfl (hb hby d19_8) rfl (flt ((own_r16 hf).2.1 : ¬ ((65535 : Int32) < f))).2.2.2 (by decide) (by decide) ?_
    refine XS.iloadN X0.here hx rfl (hb hby d19_26) rfl ?_
    exact retOut X0 hx Bd.returns rfl (Or.inl ⟨rfl, Or.inl rfl, _, rfl⟩) (hb hby d19_27) hr
  · show own_Pure (some (.int f)) h0 n0 _ s₁.heap _
    rw [e0]
    exact ⟨rfl, N0, rfl⟩
theorem d21_0 : decode prog_16_method_6_code 0 = .ok (.iload_n 0, 1) := by decide +kernel
theorem d21_1 : decode prog_16_method_6_code 1 = .ok (.iconst 1, 1) := by decide +kernel
theorem d21_2 : decode prog_16_method_6_code 2 = .ok (.if_icmp .lt 10, 3) := by decide +kernel
theorem d21_5 : decode prog_16_method_6_code 5 = .ok (.iload_n 0, 1) := by decide +kernel
theorem d21_6 : decode prog_16_method_6_code 6 = .ok (.sipush 256, 3) := by decide +kernel
theorem d21_9 : decode prog_16_method_6_code 9 = .ok (.if_icmp .le 11, 3) := by decide +kernel
theorem d21_20 : decode prog_16_method_6_code 20 = .ok (.iload_n 0, 1) := by decide +kernel
theorem d21_21 : decode prog_16_method_6_code 21 = .ok (.ireturn, 1) := by decide +kernel
theorem pn_73 : plainName "com/example/parley/parley/floor/FloorSettings" = true := by first | (simp [plainName, overriddenIn]; done) | decide +kernel
theorem ef_rm_cmr (m : MethodId)  : entryFrame m #[(.int (1 : Int32))] 1 = mkF m 0 #[.val (.int (1 : Int32))] [] := by first | (simp [entryFrame, mkF, argsToLocals, Value.category]; done) | rfl
set_option maxRecDepth 65536 in
set_option maxHeartbeats 40000000 in
theorem rm_cmr (l : Launch) (Z : State) (a0 : Array Value) (hw : ∀ d ∈ tables_1, d.before a0 Z = true) (ws : List Jvm.Cond)  (h0 : Heap) (n0 : Nat) (Z0 : n0 ≤ h0.size)  :
    MetFree l (⟨"com/example/parley/parley/floor/FloorSettings", "checkMaxRequestsPerUser", "(I)I"⟩ : MethodName) (head1 (Jvm.Cond.code (⟨"com/example/parley/parley/floor/FloorSettings", "checkMaxRequestsPerUser", "(I)I"⟩ : MethodName) prog_16_method_6_code 1 (some .int) :: ws) ({ frames := 0, cells := 0, slots := 0, locals := 0 } : Room)) (fun aQ UQ => aQ = #[(.int (1 : Int32))] ∧ Z.Warmed39 UQ.vm ∧ UQ.heap = h0) (fun _ _ _ _ _ => True) (fun _ UQ oQ UR => ∃ vQ LQ, oQ = .returned vQ ∧ own_Pure (some (.int (1 : Int32))) h0 n0 vQ UR.heap LQ ∧ FrameEnd UQ oQ UR LQ ({ frames := 0, cells := 0, slots := 0, locals := 0 } : Room).cells ({ frames := 0, cells := 0, slots := 0, locals := 0 } : Room).slots) := by
  refine MetFree.of_bodySF (plainFor_of_name pn_73) hisR ?_
  intro p e s m args below meth c s₁ Bd hml0 hP hK
  obtain ⟨rfl, hZ, hh⟩ := hP
  have hx := Bd.exec
  have hby := Bd.bytes
  have hml : c.maxLocals = 1 := hml0
  have hown : s.vm.findClass "com/example/parley/parley/floor/FloorSettings" = some m.cls := findClass_of_methodNamed Bd.named
  have hnm := (name_of_methodNamed Bd.named Bd.method).1
  have X0 : Stand p l e ({ frames := 0, cells := 0, slots := 0, locals := 0 } : Room) s m #[(.int (1 : Int32))] below meth c s₁ [] 0 0 := Stand.of_body Bd
  have e0 : s₁.heap = h0 := by rw [← hh, Bd.state]; rfl
  have N0 := Fr.nil n0
  have pre0 : ∀ t, Steps p.tables e below (s₁.setTop (mkF m 0 #[.val (.int (1 : Int32))] [])) t → Steps p.tables e below (s₁.setTop (entryFrame m #[(.int (1 : Int32))] 1)) t := fun t kq => castTop (ef_rm_cmr m ) kq
  obtain ⟨fs, hr, hrun, hended, hW, hsame⟩ := X0.leave (v := some (.int (1 : Int32))) (fun h => by rw [Bd.returns] at h; cases h)
  refine ⟨_, _, pre0 _ ?_, hrun, hended, _, _, rfl, ?_, ⟨_, rfl⟩, hW, hsame.mono (by decide) (by decide)⟩
  · refine XS.iloadN X0.here hx rfl (hb hby d21_0) rfl ?_
    refine XS.iconst X0.here hx rfl (hb hby d21_1) ?_
    refine XS.icmpNo X0.here hx rfl (hb hby d21_2) rfl (flt (by decide : ¬ ((1 : Int32) < (1 : Int32)))).1 ?_
    refine XS.iloadN X0.here hx rfl (hb hby d21_5) rfl ?_
    refine XS.sipush X0.here hx rfl (hb hby d21_6) ?_
    refine XS.icmpYes X0.here hx rfl (pc0 := 9) (pc' := 20) rfl (hb hby d21_9) rfl (flt (by decide : ¬ ((256 : Int32) < (1 : Int32)))).2.2.2 (by decide) (by decide) ?_
    refine XS.iloadN X0.here hx rfl (hb hby d21_20) rfl ?_
    exact retOut X0 hx Bd.returns rfl (Or.inl ⟨rfl, Or.inl rfl, _, rfl⟩) (hb hby d21_21) hr
  · show own_Pure (some (.int (1 : Int32))) h0 n0 _ s₁.heap _
    rw [e0]
    exact ⟨rfl, N0, rfl⟩
theorem d16_0 : decode jdk_2649_method_2_code 0 = .ok (.getstatic 17, 3) := by decide +kernel
theorem d16_3 : decode jdk_2649_method_2_code 3 = .ok (.areturn, 1) := by decide +kernel
theorem pn_76 : plainName "java/util/OptionalInt" = true := by first | (simp [plainName, overriddenIn]; done) | decide +kernel
theorem ef_rm_ope (m : MethodId)  : entryFrame m #[] 0 = mkF m 0 #[] [] := by first | (simp [entryFrame, mkF, argsToLocals, Value.category]; done) | rfl
set_option maxRecDepth 65536 in
set_option maxHeartbeats 40000000 in
theorem rm_ope (l : Launch) (Z : State) (a0 : Array Value) (hw : ∀ d ∈ tables_1, d.before a0 Z = true) (ws : List Jvm.Cond)  (h0 : Heap) (n0 : Nat) (Z0 : n0 ≤ h0.size) (hS : Heap) (hn : hS.size ≤ n0) (hEx : Ext hS h0) (dE oe : Addr) (kD : ClassId) (hWd : own_Wd Z hS dE kD oe) :
    MetFree l (⟨"java/util/OptionalInt", "empty", "()Ljava/util/OptionalInt;"⟩ : MethodName) (head1 (Jvm.Cond.code (⟨"java/util/OptionalInt", "empty", "()Ljava/util/OptionalInt;"⟩ : MethodName) jdk_2649_method_2_code 0 (some (.object "java/util/OptionalInt")) :: ws) ({ frames := 0, cells := 0, slots := 0, locals := 0 } : Room)) (fun aQ UQ => aQ = #[] ∧ Z.Warmed39 UQ.vm ∧ UQ.heap = h0) (fun _ _ _ _ _ => True) (fun _ UQ oQ UR => ∃ vQ LQ, oQ = .returned vQ ∧ own_Pure (some (.ref oe)) h0 n0 vQ UR.heap LQ ∧ FrameEnd UQ oQ UR LQ ({ frames := 0, cells := 0, slots := 0, locals := 0 } : Room).cells ({ frames := 0, cells := 0, slots := 0, locals := 0 } : Room).slots) := by
  refine MetFree.of_bodySF (plainFor_of_name pn_76) hisR ?_
  intro p e s m args below meth c s₁ Bd hml0 hP hK
  obtain ⟨rfl, hZ, hh⟩ := hP
  have hx := Bd.exec
  have hby := Bd.bytes
  have hml : c.maxLocals = 0 := hml0
  have hown : s.vm.findClass "java/util/OptionalInt" = some m.cls := findClass_of_methodNamed Bd.named
  have hnm := (name_of_methodNamed Bd.named Bd.method).1
  have X0 : Stand p l e ({ frames := 0, cells := 0, slots := 0, locals := 0 } : Room) s m #[] below meth c s₁ [] 0 0 := Stand.of_body Bd
  have e0 : s₁.heap = h0 := by rw [← hh, Bd.state]; rfl
  have N0 := Fr.nil n0
  have pre0 : ∀ t, Steps p.tables e below (s₁.setTop (mkF m 0 #[] [])) t → Steps p.tables e below (s₁.setTop (entryFrame m #[] 0)) t := fun t kq => castTop (ef_rm_ope m ) kq
  obtain ⟨S_D, A_D, S_O, E_O, F_O⟩ := id hWd
  obtain ⟨T24, X24, e24, st24⟩ := getS2 X0 hx hZ hown (host := "") (Or.inl (own_q hw 151 rfl)) Via.refl e0 (S_O.ext hEx) (g := (mkF m 0 #[] [])) rfl (hb hby d16_0)
  obtain ⟨fs, hr, hrun, hended, hW, hsame⟩ := X24.leave (v := some (.ref oe)) (fun h => by rw [Bd.returns] at h; cases h)
  refine ⟨_, _, pre0 _ ?_, hrun, hended, _, _, rfl, ?_, ⟨_, rfl⟩, hW, hsame.mono (by decide) (by decide)⟩
  · refine st24 _ ?_
    show Steps p.tables e below (T24.setTop (mkF m 3 #[] [(.ref oe)])) _
    exact retOut X24 hx Bd.returns rfl (Or.inr (Or.inr (Or.inr (Or.inr ⟨rfl, rfl, rfl⟩)))) (hb hby d16_3) hr
  · show own_Pure (some (.ref oe)) h0 n0 _ T24.heap _
    rw [e24]
    exact ⟨rfl, N0, rfl⟩
theorem d20_0 : decode jdk_2649_method_8_code 0 = .ok (.aload_n 0, 1) := by decide +kernel
theorem d20_1 : decode jdk_2649_method_8_code 1 = .ok (.getfield 7, 3) := by decide +kernel
theorem d20_4 : decode jdk_2649_method_8_code 4 = .ok (.ifCond .eq 13, 3) := by decide +kernel
theorem d20_17 : decode jdk_2649_method_8_code 17 = .ok (.return_, 1) := by decide +kernel
theorem ef_rm_ifp (m : MethodId) (x0 : Addr) (x1 : Addr) : entryFrame m #[(.ref x0), (.ref x1)] 2 = mkF m 0 #[.val (.ref x0), .val (.ref x1)] [] := by first | (simp [entryFrame, mkF, argsToLocals, Value.category]; done) | rfl
set_option maxRecDepth 65536 in
set_option maxHeartbeats 40000000 in
theorem rm_ifp (l : Launch) (Z : State) (a0 : Array Value) (hw : ∀ d ∈ tables_1, d.before a0 Z = true) (ws : List Jvm.Cond) (a1 : Addr) (a2 : Addr) (h0 : Heap) (n0 : Nat) (Z0 : n0 ≤ h0.size) (F_p : Fld Z h0 a1 "java/util/OptionalInt" "isPresent" "Z" (.int (0 : Int32))) :
    MetFree l (⟨"java/util/OptionalInt", "ifPresent", "(Ljava/util/function/IntConsumer;)V"⟩ : MethodName) (head1 (Jvm.Cond.code (⟨"java/util/OptionalInt", "ifPresent", "(Ljava/util/function/IntConsumer;)V"⟩ : MethodName) jdk_2649_method_8_code 2 none :: ws) ({ frames := 0, cells := 0, slots := 0, locals := 0 } : Room)) (fun aQ UQ => aQ = #[(.ref a1), (.ref a2)] ∧ Z.Warmed39 UQ.vm ∧ UQ.heap = h0) (fun _ _ _ _ _ => True) (fun _ UQ oQ UR => ∃ vQ LQ, oQ = .returned vQ ∧ own_Pure none h0 n0 vQ UR.heap LQ ∧ FrameEnd UQ oQ UR LQ ({ frames := 0, cells := 0, slots := 0, locals := 0 } : Room).cells ({ frames := 0, cells := 0, slots := 0, locals := 0 } : Room).slots) := by
  refine MetFree.of_bodySF (plainFor_of_name pn_76) hisR ?_
  intro p e s m args below meth c s₁ Bd hml0 hP hK
  obtain ⟨rfl, hZ, hh⟩ := hP
  have hx := Bd.exec
  have hby := Bd.bytes
  have hml : c.maxLocals = 2 := hml0
  have hown : s.vm.findClass "java/util/OptionalInt" = some m.cls := findClass_of_methodNamed Bd.named
  have hnm := (name_of_methodNamed Bd.named Bd.method).1
  have X0 : Stand p l e ({ frames := 0, cells := 0, slots := 0, locals := 0 } : Room) s m #[(.ref a1), (.ref a2)] below meth c s₁ [] 0 0 := Stand.of_body Bd
  have e0 : s₁.heap = h0 := by rw [← hh, Bd.state]; rfl
  have N0 := Fr.nil n0
  have pre0 : ∀ t, Steps p.tables e below (s₁.setTop (mkF m 0 #[.val (.ref a1), .val (.ref a2)] [])) t → Steps p.tables e below (s₁.setTop (entryFrame m #[(.ref a1), (.ref a2)] 2)) t := fun t kq => castTop (ef_rm_ifp m a1 a2) kq
  obtain ⟨T25, X25, e25, st25⟩ := getF X0 hx hZ hown (host := "") (Or.inl (own_q hw 180 rfl)) Via.refl e0 F_p (g := (mkF m 1 #[.val (.ref a1), .val (.ref a2)] [(.ref a1)])) rfl rfl (hb hby d20_1)
  obtain ⟨fs, hr, hrun, hended, hW, hsame⟩ := X25.leave (v := none) (fun _ => rfl)
  refine ⟨_, _, pre0 _ ?_, hrun, hended, _, _, rfl, ?_, ⟨_, rfl⟩, hW, hsame.mono (by decide) (by decide)⟩
  · refine XS.aloadN X0.here hx rfl (hb hby d20_0) rfl rfl ?_
    refine st25 _ ?_
    show Steps p.tables e below (T25.setTop (mkF m 4 #[.val (.ref a1), .val (.ref a2)] [(.int (0 : Int32))])) _
    refine XS.ifYes X25.here hx rfl (pc0 := 4) (pc' := 17) rfl (hb hby d20_4) rfl ((if0 _ _).trans (teq (by decide : (0 : Int32) = (0 : Int32))).1) (by decide) (by decide) ?_
    exact X25.returnOut hx Bd.returns (hb hby d20_17) hr
  · show own_Pure none h0 n0 _ T25.heap _
    rw [e25]
    exact ⟨rfl, N0, rfl⟩
theorem d32_0 : decode jdk_2649_method_6_code 0 = .ok (.aload_n 0, 1) := by decide +kernel
theorem d32_1 : decode jdk_2649_method_6_code 1 = .ok (.getfield 7, 3) := by decide +kernel
theorem d32_4 : decode jdk_2649_method_6_code 4 = .ok (.ireturn, 1) := by decide +kernel
theorem ef_rm_isp (m : MethodId) (x0 : Addr) : entryFrame m #[(.ref x0)] 1 = mkF m 0 #[.val (.ref x0)] [] := by first | (simp [entryFrame, mkF, argsToLocals, Value.category]; done) | rfl
set_option maxRecDepth 65536 in
set_option maxHeartbeats 40000000 in
theorem rm_isp (l : Launch) (Z : State) (a0 : Array Value) (hw : ∀ d ∈ tables_1, d.before a0 Z = true) (ws : List Jvm.Cond) (a1 : Addr) (h0 : Heap) (n0 : Nat) (Z0 : n0 ≤ h0.size) (F_p : Fld Z h0 a1 "java/util/OptionalInt" "isPresent" "Z" (.int (0 : Int32))) :
    MetFree l (⟨"java/util/OptionalInt", "isPresent", "()Z"⟩ : MethodName) (head1 (Jvm.Cond.code (⟨"java/util/OptionalInt", "isPresent", "()Z"⟩ : MethodName) jdk_2649_method_6_code 1 (some .boolean) :: ws) ({ frames := 0, cells := 0, slots := 0, locals := 0 } : Room)) (fun aQ UQ => aQ = #[(.ref a1)] ∧ Z.Warmed39 UQ.vm ∧ UQ.heap = h0) (fun _ _ _ _ _ => True) (fun _ UQ oQ UR => ∃ vQ LQ, oQ = .returned vQ ∧ own_Pure (some (.int (0 : Int32))) h0 n0 vQ UR.heap LQ ∧ FrameEnd UQ oQ UR LQ ({ frames := 0, cells := 0, slots := 0, locals := 0 } : Room).cells ({ frames := 0, cells := 0, slots := 0, locals := 0 } : Room).slots) := by
  refine MetFree.of_bodySF (plainFor_of_name pn_76) hisR ?_
  intro p e s m args below meth c s₁ Bd hml0 hP hK
  obtain ⟨rfl, hZ, hh⟩ := hP
  have hx := Bd.exec
  have hby := Bd.bytes
  have hml : c.maxLocals = 1 := hml0
  have hown : s.vm.findClass "java/util/OptionalInt" = some m.cls := findClass_of_methodNamed Bd.named
  have hnm := (name_of_methodNamed Bd.named Bd.method).1
  have X0 : Stand p l e ({ frames := 0, cells := 0, slots := 0, locals := 0 } : Room) s m #[(.ref a1)] below meth c s₁ [] 0 0 := Stand.of_body Bd
  have e0 : s₁.heap = h0 := by rw [← hh, Bd.state]; rfl
  have N0 := Fr.nil n0
  have pre0 : ∀ t, Steps p.tables e below (s₁.setTop (mkF m 0 #[.val (.ref a1)] [])) t → Steps p.tables e below (s₁.setTop (entryFrame m #[(.ref a1)] 1)) t := fun t kq => castTop (ef_rm_isp m a1) kq
  obtain ⟨T26, X26, e26, st26⟩ := getF X0 hx hZ hown (host := "") (Or.inl (own_q hw 180 rfl)) Via.refl e0 F_p (g := (mkF m 1 #[.val (.ref a1)] [(.ref a1)])) rfl rfl (hb hby d32_1)
  obtain ⟨fs, hr, hrun, hended, hW, hsame⟩ := X26.leave (v := some (.int (0 : Int32))) (fun h => by rw [Bd.returns] at h; cases h)
  refine ⟨_, _, pre0 _ ?_, hrun, hended, _, _, rfl, ?_, ⟨_, rfl⟩, hW, hsame.mono (by decide) (by decide)⟩
  · refine XS.aloadN X0.here hx rfl (hb hby d32_0) rfl rfl ?_
    refine st26 _ ?_
    show Steps p.tables e below (T26.setTop (mkF m 4 #[.val (.ref a1)] [(.int (0 : Int32))])) _
    exact retN X26 hx (t := .boolean) Bd.returns (by simp) (hb hby d32_4) hr
  · show own_Pure (some (.int (0 : Int32))) h0 n0 _ T26.heap _
    rw [e26]
    exact ⟨rfl, N0, rfl⟩
theorem d29_0 : decode prog_16_method_11_code 0 = .ok (.aload_n 0, 1) := by decide +kernel
theorem d29_1 : decode prog_16_method_11_code 1 = .ok (.getfield 31, 3) := by decide +kernel
theorem d29_4 : decode prog_16_method_11_code 4 = .ok (.ireturn, 1) := by decide +kernel
theorem ef_rm_id (m : MethodId) (x0 : Addr) : entryFrame m #[(.ref x0)] 1 = mkF m 0 #[.val (.ref x0)] [] := by first | (simp [entryFrame, mkF, argsToLocals, Value.category]; done) | rfl
set_option maxRecDepth 65536 in
set_option maxHeartbeats 40000000 in
theorem rm_id (l : Launch) (Z : State) (a0 : Array Value) (hw : ∀ d ∈ tables_1, d.before a0 Z = true) (ws : List Jvm.Cond) (a1 : Addr) (h0 : Heap) (n0 : Nat) (Z0 : n0 ≤ h0.size) (f : Int32) (oe : Addr) (hFS : own_FS Z h0 a1 f oe) :
    MetFree l (⟨"com/example/parley/parley/floor/FloorSettings", "id", "()I"⟩ : MethodName) (head1 (Jvm.Cond.code (⟨"com/example/parley/parley/floor/FloorSettings", "id", "()I"⟩ : MethodName) prog_16_method_11_code 1 (some .int) :: ws) ({ frames := 0, cells := 0, slots := 0, locals := 0 } : Room)) (fun aQ UQ => aQ = #[(.ref a1)] ∧ Z.Warmed39 UQ.vm ∧ UQ.heap = h0) (fun _ _ _ _ _ => True) (fun _ UQ oQ UR => ∃ vQ LQ, oQ = .returned vQ ∧ own_Pure (some (.int f)) h0 n0 vQ UR.heap LQ ∧ FrameEnd UQ oQ UR LQ ({ frames := 0, cells := 0, slots := 0, locals := 0 } : Room).cells ({ frames := 0, cells := 0, slots := 0, locals := 0 } : Room).slots) := by
  refine MetFree.of_bodySF (plainFor_of_name pn_73) hisR ?_
  intro p e s m args below meth c s₁ Bd hml0 hP hK
  obtain ⟨rfl, hZ, hh⟩ := hP
  have hx := Bd.exec
  have hby := Bd.bytes
  have hml : c.maxLocals = 1 := hml0
  have hown : s.vm.findClass "com/example/parley/parley/floor/FloorSettings" = some m.cls := findClass_of_methodNamed Bd.named
  have hnm := (name_of_methodNamed Bd.named Bd.method).1
  have X0 : Stand p l e ({ frames := 0, cells := 0, slots := 0, locals := 0 } : Room) s m #[(.ref a1)] below meth c s₁ [] 0 0 := Stand.of_body Bd
  have e0 : s₁.heap = h0 := by rw [← hh, Bd.state]; rfl
  have N0 := Fr.nil n0
  have pre0 : ∀ t, Steps p.tables e below (s₁.setTop (mkF m 0 #[.val (.ref a1)] [])) t → Steps p.tables e below (s₁.setTop (entryFrame m #[(.ref a1)] 1)) t := fun t kq => castTop (ef_rm_id m a1) kq
  obtain ⟨E_a, F_i, F_c⟩ := id hFS
  obtain ⟨T27, X27, e27, st27⟩ := getF X0 hx hZ hown (host := "") (Or.inl (own_q hw 185 rfl)) Via.refl e0 F_i (g := (mkF m 1 #[.val (.ref a1)] [(.ref a1)])) rfl rfl (hb hby d29_1)
  obtain ⟨fs, hr, hrun, hended, hW, hsame⟩ := X27.leave (v := some (.int f)) (fun h => by rw [Bd.returns] at h; cases h)
  refine ⟨_, _, pre0 _ ?_, hrun, hended, _, _, rfl, ?_, ⟨_, rfl⟩, hW, hsame.mono (by decide) (by decide)⟩
  · refine XS.aloadN X0.here hx rfl (hb hby d29_0) rfl rfl ?_
    refine st27 _ ?_
    show Steps p.tables e below (T27.setTop (mkF m 4 #[.val (.ref a1)] [(.int f)])) _
    exact retOut X27 hx Bd.returns rfl (Or.inl ⟨rfl, Or.inl rfl, _, rfl⟩) (hb hby d29_4) hr
  · show own_Pure (some (.int f)) h0 n0 _ T27.heap _
    rw [e27]
    exact ⟨rfl, N0, rfl⟩
theorem d31_0 : decode prog_16_method_12_code 0 = .ok (.aload_n 0, 1) := by decide +kernel
theorem d31_1 : decode prog_16_method_12_code 1 = .ok (.getfield 35, 3) := by decide +kernel
theorem d31_4 : decode prog_16_method_12_code 4 = .ok (.areturn, 1) := by decide +kernel
theorem ef_rm_chair (m : MethodId) (x0 : Addr) : entryFrame m #[(.ref x0)] 1 = mkF m 0 #[.val (.ref x0)] [] := by first | (simp [entryFrame, mkF, argsToLocals, Value.category]; done) | rfl
set_option maxRecDepth 65536 in
set_option maxHeartbeats 40000000 in
theorem rm_chair (l : Launch) (Z : State) (a0 : Array Value) (hw : ∀ d ∈ tables_1, d.before a0 Z = true) (ws : List Jvm.Cond) (a1 : Addr) (h0 : Heap) (n0 : Nat) (Z0 : n0 ≤ h0.size) (f : Int32) (oe : Addr) (hFS : own_FS Z h0 a1 f oe) :
    MetFree l (⟨"com/example/parley/parley/floor/FloorSettings", "chair", "()Ljava/util/OptionalInt;"⟩ : MethodName) (head1 (Jvm.Cond.code (⟨"com/example/parley/parley/floor/FloorSettings", "chair", "()Ljava/util/OptionalInt;"⟩ : MethodName) prog_16_method_12_code 1 (some (.object "java/util/OptionalInt")) :: ws) ({ frames := 0, cells := 0, slots := 0, locals := 0 } : Room)) (fun aQ UQ => aQ = #[(.ref a1)] ∧ Z.Warmed39 UQ.vm ∧ UQ.heap = h0) (fun _ _ _ _ _ => True) (fun _ UQ oQ UR => ∃ vQ LQ, oQ = .returned vQ ∧ own_Pure (some (.ref oe)) h0 n0 vQ UR.heap LQ ∧ FrameEnd UQ oQ UR LQ ({ frames := 0, cells := 0, slots := 0, locals := 0 } : Room).cells ({ frames := 0, cells := 0, slots := 0, locals := 0 } : Room).slots) := by
  refine MetFree.of_bodySF (plainFor_of_name pn_73) hisR ?_
  intro p e s m args below meth c s₁ Bd hml0 hP hK
  obtain ⟨rfl, hZ, hh⟩ := hP
  have hx := Bd.exec
  have hby := Bd.bytes
  have hml : c.maxLocals = 1 := hml0
  have hown : s.vm.findClass "com/example/parley/parley/floor/FloorSettings" = some m.cls := findClass_of_methodNamed Bd.named
  have hnm := (name_of_methodNamed Bd.named Bd.method).1
  have X0 : Stand p l e ({ frames := 0, cells := 0, slots := 0, locals := 0 } : Room) s m #[(.ref a1)] below meth c s₁ [] 0 0 := Stand.of_body Bd
  have e0 : s₁.heap = h0 := by rw [← hh, Bd.state]; rfl
  have N0 := Fr.nil n0
  have pre0 : ∀ t, Steps p.tables e below (s₁.setTop (mkF m 0 #[.val (.ref a1)] [])) t → Steps p.tables e below (s₁.setTop (entryFrame m #[(.ref a1)] 1)) t := fun t kq => castTop (ef_rm_chair m a1) kq
  obtain ⟨E_a, F_i, F_c⟩ := id hFS
  obtain ⟨T28, X28, e28, st28⟩ := getF X0 hx hZ hown (host := "") (Or.inl (own_q hw 187 rfl)) Via.refl e0 F_c (g := (mkF m 1 #[.val (.ref a1)] [(.ref a1)])) rfl rfl (hb hby d31_1)
  obtain ⟨fs, hr, hrun, hended, hW, hsame⟩ := X28.leave (v := some (.ref oe)) (fun h => by rw [Bd.returns] at h; cases h)
  refine ⟨_, _, pre0 _ ?_, hrun, hended, _, _, rfl, ?_, ⟨_, rfl⟩, hW, hsame.mono (by decide) (by decide)⟩
  · refine XS.aloadN X0.here hx rfl (hb hby d31_0) rfl rfl ?_
    refine st28 _ ?_
    show Steps p.tables e below (T28.setTop (mkF m 4 #[.val (.ref a1)] [(.ref oe)])) _
    exact retOut X28 hx Bd.returns rfl (Or.inr (Or.inr (Or.inr (Or.inr ⟨rfl, rfl, rfl⟩)))) (hb hby d31_4) hr
  · show own_Pure (some (.ref oe)) h0 n0 _ T28.heap _
    rw [e28]
    exact ⟨rfl, N0, rfl⟩
theorem d17_0 : decode prog_16_method_1_code 0 = .ok (.aload_n 0, 1) := by decide +kernel
theorem d17_1 : decode prog_16_method_1_code 1 = .ok (.invokespecial 3, 3) := by decide +kernel
theorem d17_4 : decode prog_16_method_1_code 4 = .ok (.iload_n 1, 1) := by decide +kernel
theorem d17_5 : decode prog_16_method_1_code 5 = .ok (.ldc 9, 2) := by decide +kernel
theorem pd_94 : parseMethodDescriptor "(ILjava/lang/String;)I" = some ⟨[.int, (.object "java/lang/String")], some .int⟩ := by decide +kernel
theorem d17_7 : decode prog_16_method_1_code 7 = .ok (.invokestatic 11, 3) := by decide +kernel
theorem d17_10 : decode prog_16_method_1_code 10 = .ok (.pop, 1) := by decide +kernel
theorem d17_11 : decode prog_16_method_1_code 11 = .ok (.aload_n 2, 1) := by decide +kernel
theorem d17_12 : decode prog_16_method_1_code 12 = .ok (.invokedynamic 15, 5) := by decide +kernel
theorem pd_99 : parseMethodDescriptor "(Ljava/util/function/IntConsumer;)V" = some ⟨[(.object "java/util/function/IntConsumer")], none⟩ := by decide +kernel
theorem d17_17 : decode prog_16_method_1_code 17 = .ok (.invokevirtual 19, 3) := by decide +kernel
theorem d17_20 : decode prog_16_method_1_code 20 = .ok (.iload_n 3, 1) := by decide +kernel
theorem pd_102 : parseMethodDescriptor "(I)I" = some ⟨[.int], some .int⟩ := by decide +kernel
theorem d17_21 : decode prog_16_method_1_code 21 = .ok (.invokestatic 25, 3) := by decide +kernel
theorem d17_24 : decode prog_16_method_1_code 24 = .ok (.pop, 1) := by decide +kernel
theorem d17_25 : decode prog_16_method_1_code 25 = .ok (.aload_n 0, 1) := by decide +kernel
theorem d17_26 : decode prog_16_method_1_code 26 = .ok (.iload_n 1, 1) := by decide +kernel
theorem d17_27 : decode prog_16_method_1_code 27 = .ok (.putfield 31, 3) := by decide +kernel
theorem d17_30 : decode prog_16_method_1_code 30 = .ok (.aload_n 0, 1) := by decide +kernel
theorem d17_31 : decode prog_16_method_1_code 31 = .ok (.aload_n 2, 1) := by decide +kernel
theorem d17_32 : decode prog_16_method_1_code 32 = .ok (.putfield 35, 3) := by decide +kernel
theorem d17_35 : decode prog_16_method_1_code 35 = .ok (.aload_n 0, 1) := by decide +kernel
theorem d17_36 : decode prog_16_method_1_code 36 = .ok (.iload_n 3, 1) := by decide +kernel
theorem d17_37 : decode prog_16_method_1_code 37 = .ok (.putfield 39, 3) := by decide +kernel
theorem d17_40 : decode prog_16_method_1_code 40 = .ok (.return_, 1) := by decide +kernel
theorem ef_rm_fs3 (m : MethodId) (x0 : Addr) (x1 : Int32) (x2 : Addr) : entryFrame m #[(.ref x0), (.int x1), (.ref x2), (.int (1 : Int32))] 4 = mkF m 0 #[.val (.ref x0), .val (.int x1), .val (.ref x2), .val (.int (1 : Int32))] [] := by first | (simp [entryFrame, mkF, argsToLocals, Value.category]; done) | rfl
set_option maxRecDepth 65536 in
set_option maxHeartbeats 40000000 in
theorem rm_fs3 (l : Launch) (Z : State) (a0 : Array Value) (hw : ∀ d ∈ tables_1, d.before a0 Z = true) (ws : List Jvm.Cond) (a1 : Addr) (f : Int32) (oe : Addr) (h0 : Heap) (n0 : Nat) (Z0 : n0 ≤ h0.size) (E_a : Exa Z h0 a1 "com/example/parley/parley/floor/FloorSettings") (F_i : Fld Z h0 a1 "com/example/parley/parley/floor/FloorSettings" "id" "I" (.int (0 : Int32))) (F_c : Fld Z h0 a1 "com/example/parley/parley/floor/FloorSettings" "chair" "Ljava/util/OptionalInt;" .null) (F_x : Fld Z h0 a1 "com/example/parley/parley/floor/FloorSettings" "maxRequestsPerUser" "I" (.int (0 : Int32))) (gn_a : n0 ≤ a1) (hf : 0 ≤ f.toInt ∧ f.toInt ≤ 65535) (hS : Heap) (hn : hS.size ≤ n0) (hEx : Ext hS h0) (dE : Addr) (kD : ClassId) (hWd : own_Wd Z hS dE kD oe) :
    MetFree l (⟨"com/example/parley/parley/floor/FloorSettings", "<init>", "(ILjava/util/OptionalInt;I)V"⟩ : MethodName) (head1 (Jvm.Cond.code (⟨"com/example/parley/parley/floor/FloorSettings", "<init>", "(ILjava/util/OptionalInt;I)V"⟩ : MethodName) prog_16_method_1_code 4 none :: ws) ({ frames := 2, cells := 2, slots := 36, locals := 3073 } : Room)) (fun aQ UQ => aQ = #[(.ref a1), (.int f), (.ref oe), (.int (1 : Int32))] ∧ Z.Warmed39 UQ.vm ∧ UQ.heap = h0) (fun _ _ _ _ _ => True) (fun _ UQ oQ UR => ∃ vQ LQ, oQ = .returned vQ ∧ own_Do none [a1] (fun h => own_FS Z h a1 f oe) h0 n0 vQ UR.heap LQ ∧ ReturnedEndW UQ oQ UR LQ ({ frames := 2, cells := 2, slots := 36, locals := 3073 } : Room).cells ({ frames := 2, cells := 2, slots := 36, locals := 3073 } : Room).slots) := by
  refine MetFree.of_bodySF (plainFor_of_name pn_73) hisR ?_
  intro p e s m args below meth c s₁ Bd hml0 hP hK
  obtain ⟨rfl, hZ, hh⟩ := hP
  have hx := Bd.exec
  have hby := Bd.bytes
  have hml : c.maxLocals = 4 := hml0
  have hown : s.vm.findClass "com/example/parley/parley/floor/FloorSettings" = some m.cls := findClass_of_methodNamed Bd.named
  have hnm := (name_of_methodNamed Bd.named Bd.method).1
  have X0 : Stand p l e ({ frames := 2, cells := 2, slots := 36, locals := 3073 } : Room) (s.setVm s.vm) m #[(.ref a1), (.int f), (.ref oe), (.int (1 : Int32))] below meth c s₁ [] 0 0 := Stand.of_body Bd
  have e0 : s₁.heap = h0 := by rw [← hh, Bd.state]; rfl
  have N0 := Fr.nil n0
  have pre0 : ∀ t, Steps p.tables e below (s₁.setTop (mkF m 0 #[.val (.ref a1), .val (.int f), .val (.ref oe), .val (.int (1 : Int32))] [])) t → Steps p.tables e below (s₁.setTop (entryFrame m #[(.ref a1), (.int f), (.ref oe), (.int (1 : Int32))] 4)) t := fun t kq => castTop (ef_rm_fs3 m a1 f oe) kq
  have hSi0 : s.Since s.vm h0.size := (State.WarmedH.refl s).since _
  have hSk0 : h0.size ≤ h0.size := Nat.le_refl _
  obtain ⟨S_D, A_D, S_O, E_O, F_O⟩ := id hWd
  obtain ⟨_, _, ⟨T29, L29, k29, n29⟩, -, X29, ⟨Lc29, hQ29, l29, y29, z29⟩, st29⟩ := X0.specialBack hx (y := (⟨"java/lang/Record", "<init>", "()V"⟩ : MethodName)) rfl hown (mvT hZ (own_q hw 155 rfl)) (mvT hZ (own_q hw 156 rfl)) (mvT hZ (own_q hw 159 rfl)) (by decide) (backOf (W := 0) (rm_rec l Z a0 hw [] a1 h0 n0 Z0) hZ (own_q hw 159 rfl) (own_q hw 158 rfl) (by decide) (by decide)) (g := (mkF m 1 #[.val (.ref a1), .val (.int f), .val (.ref oe), .val (.int (1 : Int32))] [(.ref a1)])) rfl (by rw [hml]; rfl) (Steps.refl _) (a := a1) (argsL := []) (rest := []) (lenOf pd_13 rfl) rfl (by show 2 * 0 + _ ≤ _; exact Nat.le_of_eq rfl) (hb hby d17_1) (fun _ _ => ⟨rfl, e0, (by decide : 0 + 0 ≤ _), (by decide : 0 + 0 ≤ _)⟩)
  dsimp only [Pt.U, Pt.locs, Pt.cells, Pt.slots] at X29 l29 y29 z29 st29 hQ29
  obtain rfl : k29 = 0 := y29; obtain rfl : n29 = 0 := z29
  obtain ⟨rfl, N29q, e29⟩ := hQ29
  have N29 : Fr n0 L29 := by rw [l29]; exact Fr.app N0 N29q
  have ck30 : ∀ t, Steps p.tables e below (T29.setTop (mkF m 5 #[.val (.ref a1), .val (.int f), .val (.ref oe), .val (.int (1 : Int32))] [(.int f)])) t → Steps p.tables e below (s₁.setTop (entryFrame m #[(.ref a1), (.int f), (.ref oe), (.int (1 : Int32))] 4)) t := by
    intro t kt
    refine pre0 _ ?_
    refine XS.aloadN X0.here hx rfl (hb hby d17_0) rfl rfl ?_
    refine st29.trans ?_
    show Steps p.tables e below (T29.setTop (mkF m 4 #[.val (.ref a1), .val (.int f), .val (.ref oe), .val (.int (1 : Int32))] [])) _
    refine XS.iloadN X29.here hx rfl (hb hby d17_4) rfl ?_
    exact kt
  (try clear N29q); (try clear st29); (try clear Lc29); (try clear n29); (try clear k29); (try clear L29)
  obtain ⟨b31, T31, h31, kk31, X31, e31, E31, hSi31, hSj31, hZ, hown, st31⟩ := ldcS X29 hx hZ hown (own_q hw 161 rfl) (own_atoms hw) e29 hSi0 hSk0 (g := (mkF m 5 #[.val (.ref a1), .val (.int f), .val (.ref oe), .val (.int (1 : Int32))] [(.int f)])) rfl (hb hby d17_5) (n := 32) (by decide) (by decide) (by decide) (by decide)
  have hSk31 := Nat.le_trans hSk0 E31.1
  have EX31 := own_ext_trans (own_ext_refl h0) E31
  have KP31 := Keep.ext (Keep.refl h0 [a1]) E31
  obtain ⟨_, _, ⟨T32, L32, k32, n32⟩, -, X32, ⟨Lc32, hQ32, l32, y32, z32⟩, st32⟩ := Jvm.LawKit.callS X31 hx (y := (⟨"com/example/parley/parley/floor/Conference", "checkSixteenBits", "(ILjava/lang/String;)I"⟩ : MethodName)) hown (mvT hZ (own_q hw 169 rfl)) (mvT hZ (own_q hw 170 rfl)) (mvT hZ (own_q hw 29 rfl)) (mvT hZ (own_q hw 171 rfl)) (by decide) (backOf (W := 0) (rm_c16 l Z a0 hw [] f b31 h31 n0 (Nat.le_trans Z0 EX31.1) hf) hZ (own_q hw 171 rfl) (own_q hw 29 rfl) (by decide) (by decide)) (g := (mkF m 7 #[.val (.ref a1), .val (.int f), .val (.ref oe), .val (.int (1 : Int32))] [(.ref b31), (.int f)])) rfl (by rw [hml]; rfl) (argsL := [(.int f), (.ref b31)]) (rest := []) (lenOf pd_94 rfl) rfl (by show 2 * 0 + _ ≤ _; exact Nat.le_of_eq rfl) (hb hby d17_7) (fun _ _ => ⟨rfl, e31, (by decide : 2 + 0 ≤ _), (by decide : 36 + 0 ≤ _)⟩)
  dsimp only [Pt.U, Pt.locs, Pt.cells, Pt.slots] at X32 l32 y32 z32 st32 hQ32
  obtain rfl : k32 = 2 := y32; obtain rfl : n32 = 36 := z32
  obtain ⟨rfl, N32q, e32⟩ := hQ32
  have N32 : Fr n0 L32 := by rw [l32]; exact Fr.app N29 N32q
  obtain ⟨b33, st33⟩ := own_lam X32 hx hZ (x := (⟨"com/example/parley/parley/floor/FloorSettings", "<init>", "(ILjava/util/OptionalInt;I)V"⟩ : MethodName)) ((State.methodNamed?_setVm (hSi31).1.alike _).trans Bd.named) (own_q hw 172 rfl) rfl (g := (mkF m 12 #[.val (.ref a1), .val (.int f), .val (.ref oe), .val (.int (1 : Int32))] [(.ref oe)])) rfl (by rw [hml]; rfl) rfl (hb hby d17_12) (W := 1) (by show 2 * 0 + _ ≤ _; exact Nat.le_of_eq rfl) (by decide)
  obtain ⟨cq34, kq34, q34a, q34b, q34c⟩ := isOf hZ e32 ((E_O.ext (own_ext_trans hEx EX31)))
  obtain ⟨_, _, ⟨T34, L34, k34, n34⟩, -, X34, ⟨Lc34, hQ34, l34, y34, z34⟩, st34⟩ := X32.virtualBack hx (y := (⟨"java/util/OptionalInt", "ifPresent", "(Ljava/util/function/IntConsumer;)V"⟩ : MethodName)) (z := (⟨"java/util/OptionalInt", "ifPresent", "(Ljava/util/function/IntConsumer;)V"⟩ : MethodName)) hown (mvT hZ (own_q hw 175 rfl)) (mvT hZ (own_q hw 176 rfl)) (notFace_of_selects (args := #[]) (mvT hZ (own_q hw 178 rfl))) (mvT hZ (own_q hw 178 rfl)) (mvT hZ (own_q hw 177 rfl)) (by decide) (backOf (W := 0) (rm_ifp l Z a0 hw [] oe b33 h31 n0 (Nat.le_trans Z0 EX31.1) (F_O.ext (own_ext_trans hEx EX31))) hZ (own_q hw 179 rfl) (own_q hw 149 rfl) (by decide) (by decide)) q34a q34c (g := (mkF m 17 #[.val (.ref a1), .val (.int f), .val (.ref oe), .val (.int (1 : Int32))] [(.ref b33), (.ref oe)])) rfl (by rw [hml]; rfl) (Steps.refl _) (argsL := [(.ref b33)]) (rest := []) (lenOf pd_99 rfl) rfl (by show 2 * 0 + _ ≤ _; exact Nat.le_of_eq rfl) (hb hby d17_17) (fun _ _ => ⟨rfl, e32, (by decide : 2 + 0 ≤ _), (by decide : 36 + 0 ≤ _)⟩)
  dsimp only [Pt.U, Pt.locs, Pt.cells, Pt.slots] at X34 l34 y34 z34 st34 hQ34
  obtain rfl : k34 = 2 := y34; obtain rfl : n34 = 36 := z34
  obtain ⟨rfl, N34q, e34⟩ := hQ34
  have N34 : Fr n0 L34 := by rw [l34]; exact Fr.app N32 N34q
  obtain ⟨_, _, ⟨T35, L35, k35, n35⟩, -, X35, ⟨Lc35, hQ35, l35, y35, z35⟩, st35⟩ := Jvm.LawKit.callS X34 hx (y := (⟨"com/example/parley/parley/floor/FloorSettings", "checkMaxRequestsPerUser", "(I)I"⟩ : MethodName)) hown (mvT hZ (own_q hw 182 rfl)) (mvT hZ (own_q hw 183 rfl)) (mvT hZ (own_q hw 143 rfl)) (mvT hZ (own_q hw 184 rfl)) (by decide) (backOf (W := 0) (rm_cmr l Z a0 hw []  h31 n0 (Nat.le_trans Z0 EX31.1)) hZ (own_q hw 184 rfl) (own_q hw 143 rfl) (by decide) (by decide)) (g := (mkF m 21 #[.val (.ref a1), .val (.int f), .val (.ref oe), .val (.int (1 : Int32))] [(.int (1 : Int32))])) rfl (by rw [hml]; rfl) (argsL := [(.int (1 : Int32))]) (rest := []) (lenOf pd_102 rfl) rfl (by show 2 * 0 + _ ≤ _; exact Nat.le_of_eq rfl) (hb hby d17_21) (fun _ _ => ⟨rfl, e34, (by decide : 2 + 0 ≤ _), (by decide : 36 + 0 ≤ _)⟩)
  dsimp only [Pt.U, Pt.locs, Pt.cells, Pt.slots] at X35 l35 y35 z35 st35 hQ35
  obtain rfl : k35 = 2 := y35; obtain rfl : n35 = 36 := z35
  obtain ⟨rfl, N35q, e35⟩ := hQ35
  have N35 : Fr n0 L35 := by rw [l35]; exact Fr.app N34 N35q
  have Fx36 := (E_a.ext E31)
  have Fx37 := (F_i.ext E31)
  obtain ⟨T38, h38, X38, e38, W38, st38⟩ := putF X35 hx hZ hown (host := "") (Or.inl (own_q hw 185 rfl)) Via.refl e35 Fx37 Fx36 (Or.inr ⟨(own_q hw 186 rfl), rfl, hnm⟩) (own_q hw 142 rfl) (ty := .int) (by decide) rfl rfl (g := (mkF m 27 #[.val (.ref a1), .val (.int f), .val (.ref oe), .val (.int (1 : Int32))] [(.int f), (.ref a1)])) rfl rfl (hb hby d17_27)
  have hSk38 := Nat.le_trans hSj31 (Keep.of_wr W38).1
  have KP38 := Keep.wr KP31 W38 (Or.inl (List.mem_of_getElem? (i := 0) rfl))
  have Fw38 := Fx37.same W38
  have N38 := Fr.snoc X38 N35 gn_a
  have Fx39 := (Fx36.wr W38)
  have Fx40 := ((F_c.ext E31).other W38 (Or.inr (slot_ne (Or.inr (own_q hw 188 rfl)) (Or.inr (own_q hw 186 rfl)) (by decide) (t := (.object "java/util/OptionalInt")) (t' := .int) (by decide) (by decide))))
  obtain ⟨T41, h41, X41, e41, W41, st41⟩ := putF X38 hx hZ hown (host := "") (Or.inl (own_q hw 187 rfl)) Via.refl e38 Fx40 Fx39 (Or.inr ⟨(own_q hw 188 rfl), rfl, hnm⟩) (own_q hw 142 rfl) (ty := (.object "java/util/OptionalInt")) (by decide) rfl rfl (g := (mkF m 32 #[.val (.ref a1), .val (.int f), .val (.ref oe), .val (.int (1 : Int32))] [(.ref oe), (.ref a1)])) rfl rfl (hb hby d17_32)
  have hSk41 := Nat.le_trans hSk38 (Keep.of_wr W41).1
  have KP41 := Keep.wr KP38 W41 (Or.inl (List.mem_of_getElem? (i := 0) rfl))
  have Fw41 := Fx40.same W41
  have N41 := Fr.snoc X41 N38 gn_a
  have Fx42 := (Fx39.wr W41)
  have Fx43 := (((F_x.ext E31).other W38 (Or.inr (slot_ne (Or.inr (own_q hw 190 rfl)) (Or.inr (own_q hw 186 rfl)) (by decide) (t := .int) (t' := .int) (by decide) (by decide)))).other W41 (Or.inr (slot_ne (Or.inr (own_q hw 190 rfl)) (Or.inr (own_q hw 188 rfl)) (by decide) (t := .int) (t' := (.object "java/util/OptionalInt")) (by decide) (by decide))))
  obtain ⟨T44, h44, X44, e44, W44, st44⟩ := putF X41 hx hZ hown (host := "") (Or.inl (own_q hw 189 rfl)) Via.refl e41 Fx43 Fx42 (Or.inr ⟨(own_q hw 190 rfl), rfl, hnm⟩) (own_q hw 142 rfl) (ty := .int) (by decide) rfl rfl (g := (mkF m 37 #[.val (.ref a1), .val (.int f), .val (.ref oe), .val (.int (1 : Int32))] [(.int (1 : Int32)), (.ref a1)])) rfl rfl (hb hby d17_37)
  have hSk44 := Nat.le_trans hSk41 (Keep.of_wr W44).1
  have KP44 := Keep.wr KP41 W44 (Or.inl (List.mem_of_getElem? (i := 0) rfl))
  have Fw44 := Fx43.same W44
  have N44 := Fr.snoc X44 N41 gn_a
  have Fx45 := (Fx42.wr W44)
  have Fx46 := ((Fw38.other W41 (Or.inr (slot_ne (Or.inr (own_q hw 186 rfl)) (Or.inr (own_q hw 188 rfl)) (by decide) (t := .int) (t' := (.object "java/util/OptionalInt")) (by decide) (by decide)))).other W44 (Or.inr (slot_ne (Or.inr (own_q hw 186 rfl)) (Or.inr (own_q hw 190 rfl)) (by decide) (t := .int) (t' := .int) (by decide) (by decide))))
  have Fx47 := (Fw41.other W44 (Or.inr (slot_ne (Or.inr (own_q hw 188 rfl)) (Or.inr (own_q hw 190 rfl)) (by decide) (t := (.object "java/util/OptionalInt")) (t' := .int) (by decide) (by decide))))
  obtain ⟨fs, hr, hrun, hended, hW⟩ := X44.leaveW hSi31 (show _ ≤ T44.heap.size by rw [e44]; exact hSk44) (v := none) (fun _ => rfl)
  refine ⟨_, _, ck30 _ ?_, hrun, hended, _, _, rfl, ?_, own_retW (k := 2) (n := 36) hW (by decide) (by decide)⟩
  · refine st31 _ ?_
    show Steps p.tables e below (T31.setTop (mkF m 7 #[.val (.ref a1), .val (.int f), .val (.ref oe), .val (.int (1 : Int32))] [(.ref b31), (.int f)])) _
    refine st32 _ ?_
    show Steps p.tables e below (T32.setTop (mkF m 10 #[.val (.ref a1), .val (.int f), .val (.ref oe), .val (.int (1 : Int32))] [(.int f)])) _
    refine XS.pop X32.here hx rfl (hb hby d17_10) rfl rfl ?_
    refine XS.aloadN X32.here hx rfl (hb hby d17_11) rfl rfl ?_
    refine st33 _ ?_
    show Steps p.tables e below (T32.setTop (mkF m 17 #[.val (.ref a1), .val (.int f), .val (.ref oe), .val (.int (1 : Int32))] [(.ref b33), (.ref oe)])) _
    refine st34.trans ?_
    show Steps p.tables e below (T34.setTop (mkF m 20 #[.val (.ref a1), .val (.int f), .val (.ref oe), .val (.int (1 : Int32))] [])) _
    refine XS.iloadN X34.here hx rfl (hb hby d17_20) rfl ?_
    refine st35 _ ?_
    show Steps p.tables e below (T35.setTop (mkF m 24 #[.val (.ref a1), .val (.int f), .val (.ref oe), .val (.int (1 : Int32))] [(.int (1 : Int32))])) _
    refine XS.pop X35.here hx rfl (hb hby d17_24) rfl rfl ?_
    refine XS.aloadN X35.here hx rfl (hb hby d17_25) rfl rfl ?_
    refine XS.iloadN X35.here hx rfl (hb hby d17_26) rfl ?_
    refine st38 _ ?_
    show Steps p.tables e below (T38.setTop (mkF m 30 #[.val (.ref a1), .val (.int f), .val (.ref oe), .val (.int (1 : Int32))] [])) _
    refine XS.aloadN X38.here hx rfl (hb hby d17_30) rfl rfl ?_
    refine XS.aloadN X38.here hx rfl (hb hby d17_31) rfl rfl ?_
    refine st41 _ ?_
    show Steps p.tables e below (T41.setTop (mkF m 35 #[.val (.ref a1), .val (.int f), .val (.ref oe), .val (.int (1 : Int32))] [])) _
    refine XS.aloadN X41.here hx rfl (hb hby d17_35) rfl rfl ?_
    refine XS.iloadN X41.here hx rfl (hb hby d17_36) rfl ?_
    refine st44 _ ?_
    show Steps p.tables e below (T44.setTop (mkF m 40 #[.val (.ref a1), .val (.int f), .val (.ref oe), .val (.int (1 : Int32))] [])) _
    exact X44.returnOut hx Bd.returns (hb hby d17_40) hr
  · show own_Do none [a1] (fun h => own_FS Z h a1 f oe) h0 n0 _ T44.heap _
    rw [e44]
    exact ⟨rfl, N44, KP44, Fx45, Fx46, Fx47⟩
theorem d15_0 : decode prog_16_method_2_code 0 = .ok (.aload_n 0, 1) := by decide +kernel
theorem d15_1 : decode prog_16_method_2_code 1 = .ok (.iload_n 1, 1) := by decide +kernel
theorem pd_117 : parseMethodDescriptor "()Ljava/util/OptionalInt;" = some ⟨[], some (.object "java/util/OptionalInt")⟩ := by decide +kernel
theorem d15_2 : decode prog_16_method_2_code 2 = .ok (.invokestatic 42, 3) := by decide +kernel
theorem d15_5 : decode prog_16_method_2_code 5 = .ok (.iconst 1, 1) := by decide +kernel
theorem pd_120 : parseMethodDescriptor "(ILjava/util/OptionalInt;I)V" = some ⟨[.int, (.object "java/util/OptionalInt"), .int], none⟩ := by decide +kernel
theorem d15_6 : decode prog_16_method_2_code 6 = .ok (.invokespecial 46, 3) := by decide +kernel
theorem d15_9 : decode prog_16_method_2_code 9 = .ok (.return_, 1) := by decide +kernel
theorem ef_rm_fs1 (m : MethodId) (x0 : Addr) (x1 : Int32) : entryFrame m #[(.ref x0), (.int x1)] 2 = mkF m 0 #[.val (.ref x0), .val (.int x1)] [] := by first | (simp [entryFrame, mkF, argsToLocals, Value.category]; done) | rfl
set_option maxRecDepth 65536 in
set_option maxHeartbeats 40000000 in
theorem rm_fs1 (l : Launch) (Z : State) (a0 : Array Value) (hw : ∀ d ∈ tables_1, d.before a0 Z = true) (ws : List Jvm.Cond) (a1 : Addr) (f : Int32) (h0 : Heap) (n0 : Nat) (Z0 : n0 ≤ h0.size) (E_a : Exa Z h0 a1 "com/example/parley/parley/floor/FloorSettings") (F_i : Fld Z h0 a1 "com/example/parley/parley/floor/FloorSettings" "id" "I" (.int (0 : Int32))) (F_c : Fld Z h0 a1 "com/example/parley/parley/floor/FloorSettings" "chair" "Ljava/util/OptionalInt;" .null) (F_x : Fld Z h0 a1 "com/example/parley/parley/floor/FloorSettings" "maxRequestsPerUser" "I" (.int (0 : Int32))) (gn_a : n0 ≤ a1) (hf : 0 ≤ f.toInt ∧ f.toInt ≤ 65535) (hS : Heap) (hn : hS.size ≤ n0) (hEx : Ext hS h0) (dE oe : Addr) (kD : ClassId) (hWd : own_Wd Z hS dE kD oe) :
    MetFree l (⟨"com/example/parley/parley/floor/FloorSettings", "<init>", "(I)V"⟩ : MethodName) (head1 (Jvm.Cond.code (⟨"com/example/parley/parley/floor/FloorSettings", "<init>", "(I)V"⟩ : MethodName) prog_16_method_2_code 2 none :: ws) ({ frames := 3, cells := 2, slots := 36, locals := 3088 } : Room)) (fun aQ UQ => aQ = #[(.ref a1), (.int f)] ∧ Z.Warmed39 UQ.vm ∧ UQ.heap = h0) (fun _ _ _ _ _ => True) (fun _ UQ oQ UR => ∃ vQ LQ, oQ = .returned vQ ∧ own_Do none [a1] (fun h => own_FS Z h a1 f oe) h0 n0 vQ UR.heap LQ ∧ ReturnedEndW UQ oQ UR LQ ({ frames := 3, cells := 2, slots := 36, locals := 3088 } : Room).cells ({ frames := 3, cells := 2, slots := 36, locals := 3088 } : Room).slots) := by
  refine MetFree.of_bodySF (plainFor_of_name pn_73) hisR ?_
  intro p e s m args below meth c s₁ Bd hml0 hP hK
  obtain ⟨rfl, hZ, hh⟩ := hP
  have hx := Bd.exec
  have hby := Bd.bytes
  have hml : c.maxLocals = 2 := hml0
  have hown : s.vm.findClass "com/example/parley/parley/floor/FloorSettings" = some m.cls := findClass_of_methodNamed Bd.named
  have hnm := (name_of_methodNamed Bd.named Bd.method).1
  have X0 : Stand p l e ({ frames := 3, cells := 2, slots := 36, locals := 3088 } : Room) (s.setVm s.vm) m #[(.ref a1), (.int f)] below meth c s₁ [] 0 0 := Stand.of_body Bd
  have e0 : s₁.heap = h0 := by rw [← hh, Bd.state]; rfl
  have N0 := Fr.nil n0
  have pre0 : ∀ t, Steps p.tables e below (s₁.setTop (mkF m 0 #[.val (.ref a1), .val (.int f)] [])) t → Steps p.tables e below (s₁.setTop (entryFrame m #[(.ref a1), (.int f)] 2)) t := fun t kq => castTop (ef_rm_fs1 m a1 f) kq
  have hSi0 : s.Since s.vm h0.size := (State.WarmedH.refl s).since _
  have hSk0 : h0.size ≤ h0.size := Nat.le_refl _
  obtain ⟨S_D, A_D, S_O, E_O, F_O⟩ := id hWd
  obtain ⟨_, _, ⟨T48, L48, k48, n48⟩, -, X48, ⟨Lc48, hQ48, l48, y48, z48⟩, st48⟩ := Jvm.LawKit.callS X0 hx (y := (⟨"java/util/OptionalInt", "empty", "()Ljava/util/OptionalInt;"⟩ : MethodName)) hown (mvT hZ (own_q hw 147 rfl)) (mvT hZ (own_q hw 148 rfl)) (mvT hZ (own_q hw 149 rfl)) (mvT hZ (own_q hw 150 rfl)) (by decide) (backOf (W := 2) (rm_ope l Z a0 hw [] h0 n0 Z0 hS hn hEx dE oe kD hWd) hZ (own_q hw 150 rfl) (own_q hw 149 rfl) (by decide) (by decide)) (g := (mkF m 2 #[.val (.ref a1), .val (.int f)] [(.int f), (.ref a1)])) rfl (by rw [hml]; rfl) (argsL := []) (rest := [(.int f), (.ref a1)]) (lenOf pd_117 rfl) rfl (by show 2 * 0 + _ ≤ _; exact Nat.le_of_eq rfl) (hb hby d15_2) (fun _ _ => ⟨rfl, e0, (by decide : 0 + 0 ≤ _), (by decide : 0 + 0 ≤ _)⟩)
  dsimp only [Pt.U, Pt.locs, Pt.cells, Pt.slots] at X48 l48 y48 z48 st48 hQ48
  obtain rfl : k48 = 0 := y48; obtain rfl : n48 = 0 := z48
  obtain ⟨rfl, N48q, e48⟩ := hQ48
  have N48 : Fr n0 L48 := by rw [l48]; exact Fr.app N0 N48q
  have ck49 : ∀ t, Steps p.tables e below (T48.setTop (mkF m 6 #[.val (.ref a1), .val (.int f)] [(.int (1 : Int32)), (.ref oe), (.int f), (.ref a1)])) t → Steps p.tables e below (s₁.setTop (entryFrame m #[(.ref a1), (.int f)] 2)) t := by
    intro t kt
    refine pre0 _ ?_
    refine XS.aloadN X0.here hx rfl (hb hby d15_0) rfl rfl ?_
    refine XS.iloadN X0.here hx rfl (hb hby d15_1) rfl ?_
    refine st48 _ ?_
    show Steps p.tables e below (T48.setTop (mkF m 5 #[.val (.ref a1), .val (.int f)] [(.ref oe), (.int f), (.ref a1)])) _
    refine XS.iconst X48.here hx rfl (hb hby d15_5) ?_
    exact kt
  (try clear N48q); (try clear st48); (try clear Lc48); (try clear n48); (try clear k48); (try clear L48)
  obtain ⟨_, _, ⟨T50, L50, k50, n50⟩, -, X50r, S50r, g50r, ⟨Lc50, hQ50, l50, y50, z50⟩, st50⟩ := X48.specialBackS hx (y := (⟨"com/example/parley/parley/floor/FloorSettings", "<init>", "(ILjava/util/OptionalInt;I)V"⟩ : MethodName)) rfl hown (mvT hZ (own_q hw 152 rfl)) (mvT hZ (own_q hw 153 rfl)) (mvT hZ (own_q hw 154 rfl)) (by decide) (backOfS (W := 0) (rm_fs3 l Z a0 hw [] a1 f oe h0 n0 Z0 E_a F_i F_c F_x gn_a hf hS hn hEx dE kD hWd) hZ (own_q hw 154 rfl) (own_q hw 143 rfl) (by decide) (by decide)) (g := (mkF m 6 #[.val (.ref a1), .val (.int f)] [(.int (1 : Int32)), (.ref oe), (.int f), (.ref a1)])) rfl (by rw [hml]; rfl) (Steps.refl _) (a := a1) (argsL := [(.int f), (.ref oe), (.int (1 : Int32))]) (rest := []) (lenOf pd_120 rfl) rfl (by show 2 * 0 + _ ≤ _; exact Nat.le_of_eq rfl) (hb hby d15_6) (fun _ _ => ⟨rfl, e48, (by decide : 0 + 2 ≤ _), (by decide : 0 + 36 ≤ _)⟩)
  dsimp only [Pt.U, Pt.locs, Pt.cells, Pt.slots] at X50r S50r g50r l50 y50 z50 st50 hQ50
  obtain rfl : k50 = 2 := y50; obtain rfl : n50 = 36 := z50
  obtain ⟨X50, hSi50, hZ, hown⟩ := rebS hSi0 (show _ ≤ T48.heap.size by rw [e48]; exact hSk0) X50r S50r g50r hZ hown
  obtain ⟨rfl, N50q, K50, hP50⟩ := hQ50
  have N50 : Fr n0 L50 := by rw [l50]; exact Fr.app N48 N50q
  have e50 : T50.heap = T50.heap := rfl
  have hSk50 := Nat.le_trans hSk0 K50.1
  have KP50 := Keep.trans (Keep.refl h0 [a1]) K50 (allS (Or.inl (List.mem_of_getElem? (i := 0) rfl)) all0)
  obtain ⟨fs, hr, hrun, hended, hW⟩ := X50.leaveW hSi50 (show _ ≤ T50.heap.size by rw [e50]; exact (Nat.le_refl T50.heap.size)) (v := none) (fun _ => rfl)
  refine ⟨_, _, ck49 _ ?_, hrun, hended, _, _, rfl, ?_, own_retW (k := 2) (n := 36) hW (by decide) (by decide)⟩
  · refine st50.trans ?_
    show Steps p.tables e below (T50.setTop (mkF m 9 #[.val (.ref a1), .val (.int f)] [])) _
    exact X50.returnOut hx Bd.returns (hb hby d15_9) hr
  · show own_Do none [a1] (fun h => own_FS Z h a1 f oe) h0 n0 _ T50.heap _
    exact ⟨rfl, N50, KP50, hP50⟩
theorem d26_0 : decode jdk_29_method_65_code 0 = .ok (.iload_n 0, 1) := by decide +kernel
theorem d26_1 : decode jdk_29_method_65_code 1 = .ok (.iload_n 1, 1) := by decide +kernel
theorem d26_2 : decode jdk_29_method_65_code 2 = .ok (.if_icmp .lt 7, 3) := by decide +kernel
theorem d26_5 : decode jdk_29_method_65_code 5 = .ok (.iload_n 0, 1) := by decide +kernel
theorem d26_6 : decode jdk_29_method_65_code 6 = .ok (.goto 4, 3) := by decide +kernel
theorem d26_10 : decode jdk_29_method_65_code 10 = .ok (.ireturn, 1) := by decide +kernel
theorem ef_rm_max (m : MethodId)  : entryFrame m #[(.int (10 : Int32)), (.int (1 : Int32))] 2 = mkF m 0 #[.val (.int (10 : Int32)), .val (.int (1 : Int32))] [] := by first | (simp [entryFrame, mkF, argsToLocals, Value.category]; done) | rfl
set_option maxRecDepth 65536 in
set_option maxHeartbeats 40000000 in
theorem rm_max (l : Launch) (Z : State) (a0 : Array Value) (hw : ∀ d ∈ tables_1, d.before a0 Z = true) (ws : List Jvm.Cond)  (h0 : Heap) (n0 : Nat) (Z0 : n0 ≤ h0.size)  :
    MetFree l (⟨"java/lang/Math", "max", "(II)I"⟩ : MethodName) (head1 (Jvm.Cond.code (⟨"java/lang/Math", "max", "(II)I"⟩ : MethodName) jdk_29_method_65_code 2 (some .int) :: ws) ({ frames := 0, cells := 0, slots := 0, locals := 0 } : Room)) (fun aQ UQ => aQ = #[(.int (10 : Int32)), (.int (1 : Int32))] ∧ Z.Warmed39 UQ.vm ∧ UQ.heap = h0) (fun _ _ _ _ _ => True) (fun _ UQ oQ UR => ∃ vQ LQ, oQ = .returned vQ ∧ own_Pure (some (.int (10 : Int32))) h0 n0 vQ UR.heap LQ ∧ FrameEnd UQ oQ UR LQ ({ frames := 0, cells := 0, slots := 0, locals := 0 } : Room).cells ({ frames := 0, cells := 0, slots := 0, locals := 0 } : Room).slots) := by
  refine MetFree.of_bodySF (Jvm.Free.JP.mathPlain rfl (by decide +kernel)) hisR ?_
  intro p e s m args below meth c s₁ Bd hml0 hP hK
  obtain ⟨rfl, hZ, hh⟩ := hP
  have hx := Bd.exec
  have hby := Bd.bytes
  have hml : c.maxLocals = 2 := hml0
  have hown : s.vm.findClass "java/lang/Math" = some m.cls := findClass_of_methodNamed Bd.named
  have hnm := (name_of_methodNamed Bd.named Bd.method).1
  have X0 : Stand p l e ({ frames := 0, cells := 0, slots := 0, locals := 0 } : Room) s m #[(.int (10 : Int32)), (.int (1 : Int32))] below meth c s₁ [] 0 0 := Stand.of_body Bd
  have e0 : s₁.heap = h0 := by rw [← hh, Bd.state]; rfl
  have N0 := Fr.nil n0
  have pre0 : ∀ t, Steps p.tables e below (s₁.setTop (mkF m 0 #[.val (.int (10 : Int32)), .val (.int (1 : Int32))] [])) t → Steps p.tables e below (s₁.setTop (entryFrame m #[(.int (10 : Int32)), (.int (1 : Int32))] 2)) t := fun t kq => castTop (ef_rm_max m ) kq
  obtain ⟨fs, hr, hrun, hended, hW, hsame⟩ := X0.leave (v := some (.int (10 : Int32))) (fun h => by rw [Bd.returns] at h; cases h)
  refine ⟨_, _, pre0 _ ?_, hrun, hended, _, _, rfl, ?_, ⟨_, rfl⟩, hW, hsame.mono (by decide) (by decide)⟩
  · refine XS.iloadN X0.here hx rfl (hb hby d26_0) rfl ?_
    refine XS.iloadN X0.here hx rfl (hb hby d26_1) rfl ?_
    refine XS.icmpNo X0.here hx rfl (hb hby d26_2) rfl (flt (by decide : ¬ ((10 : Int32) < (1 : Int32)))).1 ?_
    refine XS.iloadN X0.here hx rfl (hb hby d26_5) rfl ?_
    refine XS.goto X0.here hx rfl (pc0 := 6) (pc' := 10) rfl (hb hby d26_6) (by decide) (by decide) ?_
    exact retOut X0 hx Bd.returns rfl (Or.inl ⟨rfl, Or.inl rfl, _, rfl⟩) (hb hby d26_10) hr
  · show own_Pure (some (.int (10 : Int32))) h0 n0 _ s₁.heap _
    rw [e0]
    exact ⟨rfl, N0, rfl⟩
theorem d25_0 : decode jdk_38_method_6_code 0 = .ok (.aload_n 0, 1) := by decide +kernel
theorem d25_1 : decode jdk_38_method_6_code 1 = .ok (.getfield 9, 3) := by decide +kernel
theorem d25_4 : decode jdk_38_method_6_code 4 = .ok (.arraylength, 1) := by decide +kernel
theorem d25_5 : decode jdk_38_method_6_code 5 = .ok (.istore_n 2, 1) := by decide +kernel
theorem d25_6 : decode jdk_38_method_6_code 6 = .ok (.iload_n 2, 1) := by decide +kernel
theorem d25_7 : decode jdk_38_method_6_code 7 = .ok (.ifCond .gt 13, 3) := by decide +kernel
theorem d25_10 : decode jdk_38_method_6_code 10 = .ok (.aload_n 0, 1) := by decide +kernel
theorem d25_11 : decode jdk_38_method_6_code 11 = .ok (.getfield 9, 3) := by decide +kernel
theorem d25_14 : decode jdk_38_method_6_code 14 = .ok (.getstatic 39, 3) := by decide +kernel
theorem d25_17 : decode jdk_38_method_6_code 17 = .ok (.if_acmp .eq 28, 3) := by decide +kernel
theorem d25_45 : decode jdk_38_method_6_code 45 = .ok (.aload_n 0, 1) := by decide +kernel
theorem d25_46 : decode jdk_38_method_6_code 46 = .ok (.bipush 10, 2) := by decide +kernel
theorem d25_48 : decode jdk_38_method_6_code 48 = .ok (.iload_n 1, 1) := by decide +kernel
theorem pd_142 : parseMethodDescriptor "(II)I" = some ⟨[.int, .int], some .int⟩ := by decide +kernel
theorem d25_49 : decode jdk_38_method_6_code 49 = .ok (.invokestatic 79, 3) := by decide +kernel
theorem d25_52 : decode jdk_38_method_6_code 52 = .ok (.anewarray 7, 3) := by decide +kernel
theorem d25_55 : decode jdk_38_method_6_code 55 = .ok (.dup_x1, 1) := by decide +kernel
theorem d25_56 : decode jdk_38_method_6_code 56 = .ok (.putfield 9, 3) := by decide +kernel
theorem d25_59 : decode jdk_38_method_6_code 59 = .ok (.areturn, 1) := by decide +kernel
theorem ef_rm_gr1 (m : MethodId) (x0 : Addr) : entryFrame m #[(.ref x0), (.int (1 : Int32))] 4 = mkF m 0 #[.val (.ref x0), .val (.int (1 : Int32)), .unset, .unset] [] := by first | (simp [entryFrame, mkF, argsToLocals, Value.category]; done) | rfl
set_option maxRecDepth 65536 in
set_option maxHeartbeats 40000000 in
theorem rm_gr1 (l : Launch) (Z : State) (a0 : Array Value) (hw : ∀ d ∈ tables_1, d.before a0 Z = true) (ws : List Jvm.Cond) (a1 : Addr) (h0 : Heap) (n0 : Nat) (Z0 : n0 ≤ h0.size) (hS : Heap) (hn : hS.size ≤ n0) (hEx : Ext hS h0) (dE oe : Addr) (kD : ClassId) (hWd : own_Wd Z hS dE kD oe) (mc : Int32) (hAL : own_AL Z h0 a1 (.ref dE) (0 : Int32) mc) (gn_a : n0 ≤ a1)  :
    MetFree l (⟨"java/util/ArrayList", "grow", "(I)[Ljava/lang/Object;"⟩ : MethodName) (head1 (Jvm.Cond.code (⟨"java/util/ArrayList", "grow", "(I)[Ljava/lang/Object;"⟩ : MethodName) jdk_38_method_6_code 4 (some (.array (.object "java/lang/Object"))) :: ws) ({ frames := 1, cells := 1, slots := 10, locals := 14 } : Room)) (fun aQ UQ => aQ = #[(.ref a1), (.int (1 : Int32))] ∧ Z.Warmed39 UQ.vm ∧ UQ.heap = h0) (fun _ _ _ _ _ => True) (fun _ UQ oQ UR => ∃ vQ LQ, oQ = .returned vQ ∧ own_Gr Z a1 mc h0 n0 vQ UR.heap LQ ∧ FrameEnd UQ oQ UR LQ ({ frames := 1, cells := 1, slots := 10, locals := 14 } : Room).cells ({ frames := 1, cells := 1, slots := 10, locals := 14 } : Room).slots) := by
  refine MetFree.of_bodySF (plainFor_of_name pn_30) hisR ?_
  intro p e s m args below meth c s₁ Bd hml0 hP hK
  obtain ⟨rfl, hZ, hh⟩ := hP
  have hx := Bd.exec
  have hby := Bd.bytes
  have hml : c.maxLocals = 4 := hml0
  have hown : s.vm.findClass "java/util/ArrayList" = some m.cls := findClass_of_methodNamed Bd.named
  have hnm := (name_of_methodNamed Bd.named Bd.method).1
  have X0 : Stand p l e ({ frames := 1, cells := 1, slots := 10, locals := 14 } : Room) s m #[(.ref a1), (.int (1 : Int32))] below meth c s₁ [] 0 0 := Stand.of_body Bd
  have e0 : s₁.heap = h0 := by rw [← hh, Bd.state]; rfl
  have N0 := Fr.nil n0
  have pre0 : ∀ t, Steps p.tables e below (s₁.setTop (mkF m 0 #[.val (.ref a1), .val (.int (1 : Int32)), .unset, .unset] [])) t → Steps p.tables e below (s₁.setTop (entryFrame m #[(.ref a1), (.int (1 : Int32))] 4)) t := fun t kq => castTop (ef_rm_gr1 m a1) kq
  obtain ⟨E_a, F_e, F_s, F_m⟩ := id hAL
  obtain ⟨S_D, A_D, S_O, E_O, F_O⟩ := id hWd
  have A_D0 := A_D.ext hEx
  have nD : dE ≠ a1 := (E_a.neArv A_D0 (own_q hw 2 rfl)).symm
  obtain ⟨T51, X51, e51, st51⟩ := getF X0 hx hZ hown (host := "") (Or.inl (own_q hw 25 rfl)) Via.refl e0 F_e (g := (mkF m 1 #[.val (.ref a1), .val (.int (1 : Int32)), .unset, .unset] [(.ref a1)])) rfl rfl (hb hby d25_1)
  have Vc52 := A_D0
  obtain ⟨cl52, Ar52, q52, S52, N52_, H52_, G52⟩ := Vc52
  obtain ⟨T53, X53, e53, st53⟩ := getF X51 hx hZ hown (host := "") (Or.inl (own_q hw 25 rfl)) Via.refl e51 F_e (g := (mkF m 11 #[.val (.ref a1), .val (.int (1 : Int32)), .val (.int (0 : Int32)), .unset] [(.ref a1)])) rfl rfl (hb hby d25_11)
  obtain ⟨T54, X54, e54, st54⟩ := getS2 X53 hx hZ hown (host := "") (Or.inl (own_q hw 24 rfl)) Via.refl e53 (S_D.ext hEx) (g := (mkF m 14 #[.val (.ref a1), .val (.int (1 : Int32)), .val (.int (0 : Int32)), .unset] [(.ref dE)])) rfl (hb hby d25_14)
  obtain ⟨_, _, ⟨T55, L55, k55, n55⟩, -, X55, ⟨Lc55, hQ55, l55, y55, z55⟩, st55⟩ := Jvm.LawKit.callS X54 hx (y := (⟨"java/lang/Math", "max", "(II)I"⟩ : MethodName)) hown (mvT hZ (own_q hw 213 rfl)) (mvT hZ (own_q hw 214 rfl)) (mvT hZ (own_q hw 215 rfl)) (mvT hZ (own_q hw 216 rfl)) (by decide) (backOf (W := 1) (rm_max l Z a0 hw []  h0 n0 Z0) hZ (own_q hw 216 rfl) (own_q hw 215 rfl) (by decide) (by decide)) (g := (mkF m 49 #[.val (.ref a1), .val (.int (1 : Int32)), .val (.int (0 : Int32)), .unset] [(.int (1 : Int32)), (.int (10 : Int32)), (.ref a1)])) rfl (by rw [hml]; rfl) (argsL := [(.int (10 : Int32)), (.int (1 : Int32))]) (rest := [(.ref a1)]) (lenOf pd_142 rfl) rfl (by show 2 * 0 + _ ≤ _; exact Nat.le_of_eq rfl) (hb hby d25_49) (fun _ _ => ⟨rfl, e54, (by decide : 0 + 0 ≤ _), (by decide : 0 + 0 ≤ _)⟩)
  dsimp only [Pt.U, Pt.locs, Pt.cells, Pt.slots] at X55 l55 y55 z55 st55 hQ55
  obtain rfl : k55 = 0 := y55; obtain rfl : n55 = 0 := z55
  obtain ⟨rfl, N55q, e55⟩ := hQ55
  have N55 : Fr n0 L55 := by rw [l55]; exact Fr.app N0 N55q
  obtain ⟨T56, h56, k56, X56, e56, E56, A56, O56, st56⟩ := newR X55 hx hZ hown (own_q hw 217 rfl) (own_q hw 218 rfl) e55 (g := (mkF m 52 #[.val (.ref a1), .val (.int (1 : Int32)), .val (.int (0 : Int32)), .unset] [(.int (10 : Int32)), (.ref a1)])) rfl (hb hby d25_52) rfl (by decide) (cap := 10) (by decide) (by decide) (by decide) (by decide)
  obtain ⟨b56, g56⟩ : ∃ z, z = h0.size := ⟨_, rfl⟩
  rw [← g56] at A56 st56
  have sz_b56 : h0.size ≤ b56 := Nat.le_trans (Keep.refl h0 [a1]).1 (Nat.le_of_eq g56.symm)
  have gn_b56 : n0 ≤ b56 := Nat.le_trans Z0 sz_b56
  have ne_a1_b56 : a1 ≠ b56 := Nat.ne_of_lt (Nat.lt_of_lt_of_le E_a.lt (Nat.le_of_eq g56.symm))
  have ne_dE_b56 : dE ≠ b56 := Nat.ne_of_lt (Nat.lt_of_lt_of_le A_D0.lt (Nat.le_of_eq g56.symm))
  have EX56 := own_ext_trans (own_ext_refl h0) E56
  have KP56 := Keep.ext (Keep.refl h0 [a1]) E56
  have V56 : Arv Z h56 b56 k56 (.object "java/lang/Object") (10 : Int32) [.null, .null, .null, .null, .null, .null, .null, .null, .null, .null] .null := (Arv.new A56 (by decide)).pad (pad_rep [] .null 10)
  have Fx57 := (E_a.ext E56)
  have Fx58 := (F_e.ext E56)
  obtain ⟨T59, h59, X59, e59, W59, st59⟩ := putF X56 hx hZ hown (host := "") (Or.inl (own_q hw 25 rfl)) Via.refl e56 Fx58 Fx57 (Or.inl (own_q hw 26 rfl)) (own_q hw 2 rfl) (ty := (.array (.object "java/lang/Object"))) (by decide) rfl rfl (g := (mkF m 56 #[.val (.ref a1), .val (.int (1 : Int32)), .val (.int (0 : Int32)), .unset] [(.ref b56), (.ref a1), (.ref b56)])) rfl rfl (hb hby d25_56)
  have KP59 := Keep.wr KP56 W59 (Or.inl (List.mem_of_getElem? (i := 0) rfl))
  have Fw59 := Fx58.same W59
  have N59 := Fr.snoc X59 N55 gn_a
  have Fx60 := (Fx57.wr W59)
  have Fx61 := ((F_s.ext E56).other W59 (Or.inr (slot_ne (Or.inl (own_q hw 134 rfl)) (Or.inl (own_q hw 26 rfl)) (by decide) (t := .int) (t' := (.array (.object "java/lang/Object"))) (by decide) (by decide))))
  have Fx62 := ((F_m.ext E56).other W59 (Or.inr (slot_ne (Or.inl (own_q hw 23 rfl)) (Or.inl (own_q hw 26 rfl)) (by decide) (t := .int) (t' := (.array (.object "java/lang/Object"))) (by decide) (by decide))))
  have Fx63 := (V56.other W59 (Ne.symm ne_a1_b56))
  obtain ⟨fs, hr, hrun, hended, hW, hsame⟩ := X59.leave (v := some (.ref b56)) (fun h => by rw [Bd.returns] at h; cases h)
  refine ⟨_, _, pre0 _ ?_, hrun, hended, _, _, rfl, ?_, ⟨_, rfl⟩, hW, hsame.mono (by decide) (by decide)⟩
  · refine XS.aloadN X0.here hx rfl (hb hby d25_0) rfl rfl ?_
    refine st51 _ ?_
    show Steps p.tables e below (T51.setTop (mkF m 4 #[.val (.ref a1), .val (.int (1 : Int32)), .unset, .unset] [(.ref dE)])) _
    refine X51.arraylength hx (by rw [e51]; exact Ar52.1) (State.isArrayOf_alike hZ.alike Ar52.2.1) (g := (mkF m 4 #[.val (.ref a1), .val (.int (1 : Int32)), .unset, .unset] [(.ref dE)])) rfl rfl (hb hby d25_4) _ ?_
    rw [len_of S52 N52_]
    show Steps p.tables e below (T51.setTop (mkF m 5 #[.val (.ref a1), .val (.int (1 : Int32)), .unset, .unset] [(.int (0 : Int32))])) _
    refine XS.istoreN X51.here hx rfl (hb hby d25_5) rfl (l' := #[.val (.ref a1), .val (.int (1 : Int32)), .val (.int (0 : Int32)), .unset]) rfl ?_
    refine XS.iloadN X51.here hx rfl (hb hby d25_6) rfl ?_
    refine XS.ifNo X51.here hx rfl (hb hby d25_7) rfl ((if0 _ _).trans (flt (by decide : ¬ ((0 : Int32) < (0 : Int32)))).2.2.1) ?_
    refine XS.aloadN X51.here hx rfl (hb hby d25_10) rfl rfl ?_
    refine st53 _ ?_
    show Steps p.tables e below (T53.setTop (mkF m 14 #[.val (.ref a1), .val (.int (1 : Int32)), .val (.int (0 : Int32)), .unset] [(.ref dE)])) _
    refine st54 _ ?_
    show Steps p.tables e below (T54.setTop (mkF m 17 #[.val (.ref a1), .val (.int (1 : Int32)), .val (.int (0 : Int32)), .unset] [(.ref dE), (.ref dE)])) _
    refine Jvm.RoadKit.acmp (g := (mkF m 17 #[.val (.ref a1), .val (.int (1 : Int32)), .val (.int (0 : Int32)), .unset] [(.ref dE), (.ref dE)])) X54 hx rfl rfl rfl (pc0 := 17) (pc' := 45) (same := true) rfl (hb hby d25_17) rfl (decide_eq_true rfl) (by decide) (by decide) ?_
    show Steps p.tables e below (T54.setTop (mkF m 45 #[.val (.ref a1), .val (.int (1 : Int32)), .val (.int (0 : Int32)), .unset] [])) _
    refine XS.aloadN X54.here hx rfl (hb hby d25_45) rfl rfl ?_
    refine XS.bipush X54.here hx rfl (hb hby d25_46) ?_
    refine XS.iloadN X54.here hx rfl (hb hby d25_48) rfl ?_
    refine st55 _ ?_
    show Steps p.tables e below (T55.setTop (mkF m 52 #[.val (.ref a1), .val (.int (1 : Int32)), .val (.int (0 : Int32)), .unset] [(.int (10 : Int32)), (.ref a1)])) _
    refine st56 _ ?_
    show Steps p.tables e below (T56.setTop (mkF m 55 #[.val (.ref a1), .val (.int (1 : Int32)), .val (.int (0 : Int32)), .unset] [(.ref b56), (.ref a1)])) _
    refine XS.dupX1 X56.here hx rfl (hb hby d25_55) rfl rfl rfl ?_
    refine st59 _ ?_
    show Steps p.tables e below (T59.setTop (mkF m 59 #[.val (.ref a1), .val (.int (1 : Int32)), .val (.int (0 : Int32)), .unset] [(.ref b56)])) _
    exact retOut X59 hx Bd.returns rfl (Or.inr (Or.inr (Or.inr (Or.inr ⟨rfl, rfl, rfl⟩)))) (hb hby d25_59) hr
  · show own_Gr Z a1 mc h0 n0 _ T59.heap _
    rw [e59]
    exact ⟨b56, _, rfl, N59, KP59, sz_b56, ⟨Fx60, Fw59, Fx61, Fx62⟩, Fx63, O56⟩
theorem d24_0 : decode jdk_38_method_7_code 0 = .ok (.aload_n 0, 1) := by decide +kernel
theorem d24_1 : decode jdk_38_method_7_code 1 = .ok (.aload_n 0, 1) := by decide +kernel
theorem d24_2 : decode jdk_38_method_7_code 2 = .ok (.getfield 48, 3) := by decide +kernel
theorem d24_5 : decode jdk_38_method_7_code 5 = .ok (.iconst 1, 1) := by decide +kernel
theorem d24_6 : decode jdk_38_method_7_code 6 = .ok (.iadd, 1) := by decide +kernel
theorem pd_153 : parseMethodDescriptor "(I)[Ljava/lang/Object;" = some ⟨[.int], some (.array (.object "java/lang/Object"))⟩ := by decide +kernel
theorem d24_7 : decode jdk_38_method_7_code 7 = .ok (.invokevirtual 69, 3) := by decide +kernel
theorem d24_10 : decode jdk_38_method_7_code 10 = .ok (.areturn, 1) := by decide +kernel
theorem ef_rm_gr0 (m : MethodId) (x0 : Addr) : entryFrame m #[(.ref x0)] 1 = mkF m 0 #[.val (.ref x0)] [] := by first | (simp [entryFrame, mkF, argsToLocals, Value.category]; done) | rfl
set_option maxRecDepth 65536 in
set_option maxHeartbeats 40000000 in
theorem rm_gr0 (l : Launch) (Z : State) (a0 : Array Value) (hw : ∀ d ∈ tables_1, d.before a0 Z = true) (ws : List Jvm.Cond) (a1 : Addr) (h0 : Heap) (n0 : Nat) (Z0 : n0 ≤ h0.size) (hS : Heap) (hn : hS.size ≤ n0) (hEx : Ext hS h0) (dE oe : Addr) (kD : ClassId) (hWd : own_Wd Z hS dE kD oe) (mc : Int32) (hAL : own_AL Z h0 a1 (.ref dE) (0 : Int32) mc) (gn_a : n0 ≤ a1)  :
    MetFree l (⟨"java/util/ArrayList", "grow", "()[Ljava/lang/Object;"⟩ : MethodName) (head1 (Jvm.Cond.code (⟨"java/util/ArrayList", "grow", "()[Ljava/lang/Object;"⟩ : MethodName) jdk_38_method_7_code 1 (some (.array (.object "java/lang/Object"))) :: ws) ({ frames := 2, cells := 1, slots := 10, locals := 29 } : Room)) (fun aQ UQ => aQ = #[(.ref a1)] ∧ Z.Warmed39 UQ.vm ∧ UQ.heap = h0) (fun _ _ _ _ _ => True) (fun _ UQ oQ UR => ∃ vQ LQ, oQ = .returned vQ ∧ own_Gr Z a1 mc h0 n0 vQ UR.heap LQ ∧ FrameEnd UQ oQ UR LQ ({ frames := 2, cells := 1, slots := 10, locals := 29 } : Room).cells ({ frames := 2, cells := 1, slots := 10, locals := 29 } : Room).slots) := by
  refine MetFree.of_bodySF (plainFor_of_name pn_30) hisR ?_
  intro p e s m args below meth c s₁ Bd hml0 hP hK
  obtain ⟨rfl, hZ, hh⟩ := hP
  have hx := Bd.exec
  have hby := Bd.bytes
  have hml : c.maxLocals = 1 := hml0
  have hown : s.vm.findClass "java/util/ArrayList" = some m.cls := findClass_of_methodNamed Bd.named
  have hnm := (name_of_methodNamed Bd.named Bd.method).1
  have X0 : Stand p l e ({ frames := 2, cells := 1, slots := 10, locals := 29 } : Room) s m #[(.ref a1)] below meth c s₁ [] 0 0 := Stand.of_body Bd
  have e0 : s₁.heap = h0 := by rw [← hh, Bd.state]; rfl
  have N0 := Fr.nil n0
  have pre0 : ∀ t, Steps p.tables e below (s₁.setTop (mkF m 0 #[.val (.ref a1)] [])) t → Steps p.tables e below (s₁.setTop (entryFrame m #[(.ref a1)] 1)) t := fun t kq => castTop (ef_rm_gr0 m a1) kq
  obtain ⟨E_a, F_e, F_s, F_m⟩ := id hAL
  obtain ⟨S_D, A_D, S_O, E_O, F_O⟩ := id hWd
  have A_D0 := A_D.ext hEx
  have nD : dE ≠ a1 := (E_a.neArv A_D0 (own_q hw 2 rfl)).symm
  obtain ⟨T64, X64, e64, st64⟩ := getF X0 hx hZ hown (host := "") (Or.inl (own_q hw 197 rfl)) Via.refl e0 F_s (g := (mkF m 2 #[.val (.ref a1)] [(.ref a1), (.ref a1)])) rfl rfl (hb hby d24_2)
  obtain ⟨cq65, q65, q65'⟩ := Exa.cell (E_a)
  obtain ⟨_, _, ⟨T65, L65, k65, n65⟩, -, X65, ⟨Lc65, hQ65, l65, y65, z65⟩, st65⟩ := X64.privateBack hx (y := (⟨"java/util/ArrayList", "grow", "(I)[Ljava/lang/Object;"⟩ : MethodName)) hown (mvT hZ (own_q hw 208 rfl)) (mvT hZ (own_q hw 209 rfl)) (mvT hZ (own_q hw 211 rfl)) (Cond.privateMethod_at (mvP hZ (own_q hw 210 rfl) (args := #[]))) (mvT hZ (own_q hw 212 rfl)) (by decide) (backOf (W := 0) (rm_gr1 l Z a0 hw [] a1 h0 n0 Z0 hS hn hEx dE oe kD hWd mc ⟨E_a, F_e, F_s, F_m⟩ gn_a) hZ (own_q hw 212 rfl) (own_q hw 3 rfl) (by decide) (by decide)) (g := (mkF m 7 #[.val (.ref a1)] [(.int (1 : Int32)), (.ref a1)])) rfl (by rw [hml]; rfl) (Steps.refl _) (a := a1) (by rw [e64]; exact q65) q65' (argsL := [(.int (1 : Int32))]) (rest := []) (lenOf pd_153 rfl) rfl (by show 2 * 0 + _ ≤ _; exact Nat.le_of_eq rfl) (hb hby d24_7) (fun _ _ => ⟨rfl, e64, (by decide : 0 + 1 ≤ _), (by decide : 0 + 10 ≤ _)⟩)
  dsimp only [Pt.U, Pt.locs, Pt.cells, Pt.slots] at X65 l65 y65 z65 st65 hQ65
  obtain rfl : k65 = 1 := y65; obtain rfl : n65 = 10 := z65
  obtain ⟨b65, k65', rfl, N65q, K65, z65', A65', V65', O65'⟩ := hQ65
  have N65 : Fr n0 L65 := by rw [l65]; exact Fr.app N0 N65q
  have e65 : T65.heap = T65.heap := rfl
  have KP65 := Keep.trans (Keep.refl h0 [a1]) K65 (allS (Or.inl (List.mem_of_getElem? (i := 0) rfl)) all0)
  have sz_b65 : h0.size ≤ b65 := Nat.le_trans (Keep.refl h0 [a1]).1 z65'
  have gn_b65 : n0 ≤ b65 := Nat.le_trans Z0 sz_b65
  have na_b65 : a1 ≠ b65 := Nat.ne_of_lt (Nat.lt_of_lt_of_le E_a.lt sz_b65)
  obtain ⟨EA65, FE65, FZ65, FM65⟩ := A65'
  obtain ⟨fs, hr, hrun, hended, hW, hsame⟩ := X65.leave (v := some (.ref b65)) (fun h => by rw [Bd.returns] at h; cases h)
  refine ⟨_, _, pre0 _ ?_, hrun, hended, _, _, rfl, ?_, ⟨_, rfl⟩, hW, hsame.mono (by decide) (by decide)⟩
  · refine XS.aloadN X0.here hx rfl (hb hby d24_0) rfl rfl ?_
    refine XS.aloadN X0.here hx rfl (hb hby d24_1) rfl rfl ?_
    refine st64 _ ?_
    show Steps p.tables e below (T64.setTop (mkF m 5 #[.val (.ref a1)] [(.int (0 : Int32)), (.ref a1)])) _
    refine XS.iconst X64.here hx rfl (hb hby d24_5) ?_
    refine XS.iadd X64.here hx rfl (hb hby d24_6) rfl ?_
    refine st65.trans ?_
    show Steps p.tables e below (T65.setTop (mkF m 10 #[.val (.ref a1)] [(.ref b65)])) _
    exact retOut X65 hx Bd.returns rfl (Or.inr (Or.inr (Or.inr (Or.inr ⟨rfl, rfl, rfl⟩)))) (hb hby d24_10) hr
  · show own_Gr Z a1 mc h0 n0 _ T65.heap _
    exact ⟨b65, _, rfl, N65, KP65, sz_b65, ⟨EA65, FE65, FZ65, FM65⟩, V65', O65'⟩
theorem d23_0 : decode jdk_38_method_24_code 0 = .ok (.iload_n 3, 1) := by decide +kernel
theorem d23_1 : decode jdk_38_method_24_code 1 = .ok (.aload_n 2, 1) := by decide +kernel
theorem d23_2 : decode jdk_38_method_24_code 2 = .ok (.arraylength, 1) := by decide +kernel
theorem d23_3 : decode jdk_38_method_24_code 3 = .ok (.if_icmp .ne 8, 3) := by decide +kernel
theorem d23_6 : decode jdk_38_method_24_code 6 = .ok (.aload_n 0, 1) := by decide +kernel
theorem pd_161 : parseMethodDescriptor "()[Ljava/lang/Object;" = some ⟨[], some (.array (.object "java/lang/Object"))⟩ := by decide +kernel
theorem d23_7 : decode jdk_38_method_24_code 7 = .ok (.invokevirtual 129, 3) := by decide +kernel
theorem d23_10 : decode jdk_38_method_24_code 10 = .ok (.astore_n 2, 1) := by decide +kernel
theorem d23_11 : decode jdk_38_method_24_code 11 = .ok (.aload_n 2, 1) := by decide +kernel
theorem d23_12 : decode jdk_38_method_24_code 12 = .ok (.iload_n 3, 1) := by decide +kernel
theorem d23_13 : decode jdk_38_method_24_code 13 = .ok (.aload_n 1, 1) := by decide +kernel
theorem d23_14 : decode jdk_38_method_24_code 14 = .ok (.aastore, 1) := by decide +kernel
theorem d23_15 : decode jdk_38_method_24_code 15 = .ok (.aload_n 0, 1) := by decide +kernel
theorem d23_16 : decode jdk_38_method_24_code 16 = .ok (.iload_n 3, 1) := by decide +kernel
theorem d23_17 : decode jdk_38_method_24_code 17 = .ok (.iconst 1, 1) := by decide +kernel
theorem d23_18 : decode jdk_38_method_24_code 18 = .ok (.iadd, 1) := by decide +kernel
theorem d23_19 : decode jdk_38_method_24_code 19 = .ok (.putfield 48, 3) := by decide +kernel
theorem d23_22 : decode jdk_38_method_24_code 22 = .ok (.return_, 1) := by decide +kernel
theorem ef_rm_ad3_0 (m : MethodId) (x0 : Addr) (x1 : Addr) (x2 : Addr) : entryFrame m #[(.ref x0), (.ref x1), (.ref x2), (.int (0 : Int32))] 4 = mkF m 0 #[.val (.ref x0), .val (.ref x1), .val (.ref x2), .val (.int (0 : Int32))] [] := by first | (simp [entryFrame, mkF, argsToLocals, Value.category]; done) | rfl
set_option maxRecDepth 65536 in
set_option maxHeartbeats 40000000 in
theorem rm_ad3_0 (l : Launch) (Z : State) (a0 : Array Value) (hw : ∀ d ∈ tables_1, d.before a0 Z = true) (ws : List Jvm.Cond) (a1 : Addr) (xx : Addr) (dE : Addr) (h0 : Heap) (n0 : Nat) (Z0 : n0 ≤ h0.size) (hS : Heap) (hn : hS.size ≤ n0) (hEx : Ext hS h0) (oe : Addr) (kD : ClassId) (hWd : own_Wd Z hS dE kD oe) (mc : Int32) (hAL : own_AL Z h0 a1 (.ref dE) (0 : Int32) mc) (gn_a : n0 ≤ a1) (E_x : Exa Z h0 xx "com/example/parley/parley/floor/FloorSettings")  :
    MetFree l (⟨"java/util/ArrayList", "add", "(Ljava/lang/Object;[Ljava/lang/Object;I)V"⟩ : MethodName) (head1 (Jvm.Cond.code (⟨"java/util/ArrayList", "add", "(Ljava/lang/Object;[Ljava/lang/Object;I)V"⟩ : MethodName) jdk_38_method_24_code 4 none :: ws) ({ frames := 3, cells := 1, slots := 10, locals := 41 } : Room)) (fun aQ UQ => aQ = #[(.ref a1), (.ref xx), (.ref dE), (.int (0 : Int32))] ∧ Z.Warmed39 UQ.vm ∧ UQ.heap = h0) (fun _ _ _ _ _ => True) (fun _ UQ oQ UR => ∃ vQ LQ, oQ = .returned vQ ∧ own_Do none [a1] (fun h => ∃ (ed : Addr) (k : ClassId), h0.size ≤ ed ∧ own_AL Z h a1 (.ref ed) (1 : Int32) mc ∧ Arv Z h ed k (.object "java/lang/Object") (10 : Int32) [(.ref xx), .null, .null, .null, .null, .null, .null, .null, .null, .null] .null ∧ Ovr Z k "java/lang/Object") h0 n0 vQ UR.heap LQ ∧ FrameEnd UQ oQ UR LQ ({ frames := 3, cells := 1, slots := 10, locals := 41 } : Room).cells ({ frames := 3, cells := 1, slots := 10, locals := 41 } : Room).slots) := by
  refine MetFree.of_bodySF (plainFor_of_name pn_30) hisR ?_
  intro p e s m args below meth c s₁ Bd hml0 hP hK
  obtain ⟨rfl, hZ, hh⟩ := hP
  have hx := Bd.exec
  have hby := Bd.bytes
  have hml : c.maxLocals = 4 := hml0
  have hown : s.vm.findClass "java/util/ArrayList" = some m.cls := findClass_of_methodNamed Bd.named
  have hnm := (name_of_methodNamed Bd.named Bd.method).1
  have X0 : Stand p l e ({ frames := 3, cells := 1, slots := 10, locals := 41 } : Room) s m #[(.ref a1), (.ref xx), (.ref dE), (.int (0 : Int32))] below meth c s₁ [] 0 0 := Stand.of_body Bd
  have e0 : s₁.heap = h0 := by rw [← hh, Bd.state]; rfl
  have N0 := Fr.nil n0
  have pre0 : ∀ t, Steps p.tables e below (s₁.setTop (mkF m 0 #[.val (.ref a1), .val (.ref xx), .val (.ref dE), .val (.int (0 : Int32))] [])) t → Steps p.tables e below (s₁.setTop (entryFrame m #[(.ref a1), (.ref xx), (.ref dE), (.int (0 : Int32))] 4)) t := fun t kq => castTop (ef_rm_ad3_0 m a1 xx dE) kq
  obtain ⟨E_a, F_e, F_s, F_m⟩ := id hAL
  obtain ⟨S_D, A_D, S_O, E_O, F_O⟩ := id hWd
  have A_D0 := A_D.ext hEx
  have nD : dE ≠ a1 := (E_a.neArv A_D0 (own_q hw 2 rfl)).symm
  have Vc66 := A_D0
  obtain ⟨cl66, Ar66, q66, S66, N66_, H66_, G66⟩ := Vc66
  obtain ⟨cq67, q67, q67'⟩ := Exa.cell (E_a)
  obtain ⟨_, _, ⟨T67, L67, k67, n67⟩, -, X67, ⟨Lc67, hQ67, l67, y67, z67⟩, st67⟩ := X0.privateBack hx (y := (⟨"java/util/ArrayList", "grow", "()[Ljava/lang/Object;"⟩ : MethodName)) hown (mvT hZ (own_q hw 203 rfl)) (mvT hZ (own_q hw 204 rfl)) (mvT hZ (own_q hw 206 rfl)) (Cond.privateMethod_at (mvP hZ (own_q hw 205 rfl) (args := #[]))) (mvT hZ (own_q hw 207 rfl)) (by decide) (backOf (W := 0) (rm_gr0 l Z a0 hw [] a1 h0 n0 Z0 hS hn hEx dE oe kD hWd mc ⟨E_a, F_e, F_s, F_m⟩ gn_a) hZ (own_q hw 207 rfl) (own_q hw 3 rfl) (by decide) (by decide)) (g := (mkF m 7 #[.val (.ref a1), .val (.ref xx), .val (.ref dE), .val (.int (0 : Int32))] [(.ref a1)])) rfl (by rw [hml]; rfl) (Steps.refl _) (a := a1) (by rw [e0]; exact q67) q67' (argsL := []) (rest := []) (lenOf pd_161 rfl) rfl (by show 2 * 0 + _ ≤ _; exact Nat.le_of_eq rfl) (hb hby d23_7) (fun _ _ => ⟨rfl, e0, (by decide : 0 + 1 ≤ _), (by decide : 0 + 10 ≤ _)⟩)
  dsimp only [Pt.U, Pt.locs, Pt.cells, Pt.slots] at X67 l67 y67 z67 st67 hQ67
  obtain rfl : k67 = 1 := y67; obtain rfl : n67 = 10 := z67
  obtain ⟨b67, k67', rfl, N67q, K67, z67', A67', V67', O67'⟩ := hQ67
  have N67 : Fr n0 L67 := by rw [l67]; exact Fr.app N0 N67q
  have e67 : T67.heap = T67.heap := rfl
  have KP67 := Keep.trans (Keep.refl h0 [a1]) K67 (allS (Or.inl (List.mem_of_getElem? (i := 0) rfl)) all0)
  have sz_b67 : h0.size ≤ b67 := Nat.le_trans (Keep.refl h0 [a1]).1 z67'
  have gn_b67 : n0 ≤ b67 := Nat.le_trans Z0 sz_b67
  have na_b67 : a1 ≠ b67 := Nat.ne_of_lt (Nat.lt_of_lt_of_le E_a.lt sz_b67)
  obtain ⟨EA67, FE67, FZ67, FM67⟩ := A67'
  have Vc68 := V67'
  obtain ⟨cl68, Ar68, q68, S68, N68_, H68_, G68⟩ := Vc68
  have hin68 : ¬ ((0 : Int32) < 0 ∨ cl68.slots.size ≤ ((0 : Int32)).toNatClampNeg) := inb_of S68 ⟨by decide, by decide⟩
  obtain ⟨T69, h69, X69, e69, W69, st69⟩ := stR X67 hx hZ e67 Ar68 (j := (0 : Int32)) hin68 rfl (Sto.ofV Ar68 q68 O67' (Ins.of_exa (E_x.keep KP67) (own_q hw 219 rfl))) (g := (mkF m 14 #[.val (.ref a1), .val (.ref xx), .val (.ref b67), .val (.int (0 : Int32))] [(.ref xx), (.int (0 : Int32)), (.ref b67)])) rfl rfl (hb hby d23_14)
  have KP69 := Keep.wr KP67 W69 (Or.inr sz_b67)
  have V69 : Arv Z h69 b67 k67' (.object "java/lang/Object") (10 : Int32) [(.ref xx), .null, .null, .null, .null, .null, .null, .null, .null, .null] .null := Arv.set Ar68 q68 S68 N68_ H68_ G68 rfl W69 0 rfl (Nat.le_of_ble_eq_true rfl)
  have N69 := Fr.snoc X69 N67 gn_b67
  have Fx70 := (EA67.wr W69)
  have Fx71 := (FZ67.other W69 (Or.inl na_b67))
  obtain ⟨T72, h72, X72, e72, W72, st72⟩ := putF X69 hx hZ hown (host := "") (Or.inl (own_q hw 197 rfl)) Via.refl e69 Fx71 Fx70 (Or.inl (own_q hw 134 rfl)) (own_q hw 2 rfl) (ty := .int) (by decide) rfl rfl (g := (mkF m 19 #[.val (.ref a1), .val (.ref xx), .val (.ref b67), .val (.int (0 : Int32))] [(.int (1 : Int32)), (.ref a1)])) rfl rfl (hb hby d23_19)
  have KP72 := Keep.wr KP69 W72 (Or.inl (List.mem_of_getElem? (i := 0) rfl))
  have Fw72 := Fx71.same W72
  have N72 := Fr.snoc X72 N69 gn_a
  have Fx73 := (Fx70.wr W72)
  have Fx74 := ((FE67.other W69 (Or.inl na_b67)).other W72 (Or.inr (slot_ne (Or.inl (own_q hw 26 rfl)) (Or.inl (own_q hw 134 rfl)) (by decide) (t := (.array (.object "java/lang/Object"))) (t' := .int) (by decide) (by decide))))
  have Fx75 := ((FM67.other W69 (Or.inl na_b67)).other W72 (Or.inr (slot_ne (Or.inl (own_q hw 23 rfl)) (Or.inl (own_q hw 134 rfl)) (by decide) (t := .int) (t' := .int) (by decide) (by decide))))
  have Fx76 := (V69.other W72 (Ne.symm na_b67))
  obtain ⟨fs, hr, hrun, hended, hW, hsame⟩ := X72.leave (v := none) (fun _ => rfl)
  refine ⟨_, _, pre0 _ ?_, hrun, hended, _, _, rfl, ?_, ⟨_, rfl⟩, hW, hsame.mono (by decide) (by decide)⟩
  · refine XS.iloadN X0.here hx rfl (hb hby d23_0) rfl ?_
    refine XS.aloadN X0.here hx rfl (hb hby d23_1) rfl rfl ?_
    refine X0.arraylength hx (by rw [e0]; exact Ar66.1) (State.isArrayOf_alike hZ.alike Ar66.2.1) (g := (mkF m 2 #[.val (.ref a1), .val (.ref xx), .val (.ref dE), .val (.int (0 : Int32))] [(.ref dE), (.int (0 : Int32))])) rfl rfl (hb hby d23_2) _ ?_
    rw [len_of S66 N66_]
    show Steps p.tables e below (s₁.setTop (mkF m 3 #[.val (.ref a1), .val (.ref xx), .val (.ref dE), .val (.int (0 : Int32))] [(.int (0 : Int32)), (.int (0 : Int32))])) _
    refine XS.icmpNo X0.here hx rfl (hb hby d23_3) rfl (teq (by decide : (0 : Int32) = (0 : Int32))).2 ?_
    refine XS.aloadN X0.here hx rfl (hb hby d23_6) rfl rfl ?_
    refine st67.trans ?_
    show Steps p.tables e below (T67.setTop (mkF m 10 #[.val (.ref a1), .val (.ref xx), .val (.ref dE), .val (.int (0 : Int32))] [(.ref b67)])) _
    refine XS.astoreN X67.here hx rfl (hb hby d23_10) rfl rfl (l' := #[.val (.ref a1), .val (.ref xx), .val (.ref b67), .val (.int (0 : Int32))]) rfl ?_
    refine XS.aloadN X67.here hx rfl (hb hby d23_11) rfl rfl ?_
    refine XS.iloadN X67.here hx rfl (hb hby d23_12) rfl ?_
    refine XS.aloadN X67.here hx rfl (hb hby d23_13) rfl rfl ?_
    refine st69 _ ?_
    show Steps p.tables e below (T69.setTop (mkF m 15 #[.val (.ref a1), .val (.ref xx), .val (.ref b67), .val (.int (0 : Int32))] [])) _
    refine XS.aloadN X69.here hx rfl (hb hby d23_15) rfl rfl ?_
    refine XS.iloadN X69.here hx rfl (hb hby d23_16) rfl ?_
    refine XS.iconst X69.here hx rfl (hb hby d23_17) ?_
    refine XS.iadd X69.here hx rfl (hb hby d23_18) rfl ?_
    refine st72 _ ?_
    show Steps p.tables e below (T72.setTop (mkF m 22 #[.val (.ref a1), .val (.ref xx), .val (.ref b67), .val (.int (0 : Int32))] [])) _
    exact X72.returnOut hx Bd.returns (hb hby d23_22) hr
  · show own_Do none [a1] (fun h => ∃ (ed : Addr) (k : ClassId), h0.size ≤ ed ∧ own_AL Z h a1 (.ref ed) (1 : Int32) mc ∧ Arv Z h ed k (.object "java/lang/Object") (10 : Int32) [(.ref xx), .null, .null, .null, .null, .null, .null, .null, .null, .null] .null ∧ Ovr Z k "java/lang/Object") h0 n0 _ T72.heap _
    rw [e72]
    exact ⟨rfl, N72, KP72, b67, _, sz_b67, ⟨Fx73, Fx74, Fw72, Fx75⟩, Fx76, O67'⟩
theorem ef_rm_ad3_1 (m : MethodId) (x0 : Addr) (x1 : Addr) (x2 : Addr) : entryFrame m #[(.ref x0), (.ref x1), (.ref x2), (.int (1 : Int32))] 4 = mkF m 0 #[.val (.ref x0), .val (.ref x1), .val (.ref x2), .val (.int (1 : Int32))] [] := by first | (simp [entryFrame, mkF, argsToLocals, Value.category]; done) | rfl
set_option maxRecDepth 65536 in
set_option maxHeartbeats 40000000 in
theorem rm_ad3_1 (l : Launch) (Z : State) (a0 : Array Value) (hw : ∀ d ∈ tables_1, d.before a0 Z = true) (ws : List Jvm.Cond) (a1 : Addr) (xx : Addr) (ed : Addr) (h0 : Heap) (n0 : Nat) (Z0 : n0 ≤ h0.size) (x0 : Addr) (kE : ClassId) (mc : Int32) (hAL : own_AL Z h0 a1 (.ref ed) (1 : Int32) mc) (A_E : Arv Z h0 ed kE (.object "java/lang/Object") (10 : Int32) [(.ref x0), .null, .null, .null, .null, .null, .null, .null, .null, .null] .null) (O_E : Ovr Z kE "java/lang/Object") (gn_a : n0 ≤ a1) (gn_e : n0 ≤ ed) (nE : a1 ≠ ed) (E_x : Exa Z h0 xx "com/example/parley/parley/floor/FloorSettings")  :
    MetFree l (⟨"java/util/ArrayList", "add", "(Ljava/lang/Object;[Ljava/lang/Object;I)V"⟩ : MethodName) (head1 (Jvm.Cond.code (⟨"java/util/ArrayList", "add", "(Ljava/lang/Object;[Ljava/lang/Object;I)V"⟩ : MethodName) jdk_38_method_24_code 4 none :: ws) ({ frames := 0, cells := 0, slots := 0, locals := 0 } : Room)) (fun aQ UQ => aQ = #[(.ref a1), (.ref xx), (.ref ed), (.int (1 : Int32))] ∧ Z.Warmed39 UQ.vm ∧ UQ.heap = h0) (fun _ _ _ _ _ => True) (fun _ UQ oQ UR => ∃ vQ LQ, oQ = .returned vQ ∧ own_Do none [a1, ed] (fun h => own_AL Z h a1 (.ref ed) (2 : Int32) mc ∧ Arv Z h ed kE (.object "java/lang/Object") (10 : Int32) [(.ref x0), (.ref xx), .null, .null, .null, .null, .null, .null, .null, .null] .null) h0 n0 vQ UR.heap LQ ∧ FrameEnd UQ oQ UR LQ ({ frames := 0, cells := 0, slots := 0, locals := 0 } : Room).cells ({ frames := 0, cells := 0, slots := 0, locals := 0 } : Room).slots) := by
  refine MetFree.of_bodySF (plainFor_of_name pn_30) hisR ?_
  intro p e s m args below meth c s₁ Bd hml0 hP hK
  obtain ⟨rfl, hZ, hh⟩ := hP
  have hx := Bd.exec
  have hby := Bd.bytes
  have hml : c.maxLocals = 4 := hml0
  have hown : s.vm.findClass "java/util/ArrayList" = some m.cls := findClass_of_methodNamed Bd.named
  have hnm := (name_of_methodNamed Bd.named Bd.method).1
  have X0 : Stand p l e ({ frames := 0, cells := 0, slots := 0, locals := 0 } : Room) s m #[(.ref a1), (.ref xx), (.ref ed), (.int (1 : Int32))] below meth c s₁ [] 0 0 := Stand.of_body Bd
  have e0 : s₁.heap = h0 := by rw [← hh, Bd.state]; rfl
  have N0 := Fr.nil n0
  have pre0 : ∀ t, Steps p.tables e below (s₁.setTop (mkF m 0 #[.val (.ref a1), .val (.ref xx), .val (.ref ed), .val (.int (1 : Int32))] [])) t → Steps p.tables e below (s₁.setTop (entryFrame m #[(.ref a1), (.ref xx), (.ref ed), (.int (1 : Int32))] 4)) t := fun t kq => castTop (ef_rm_ad3_1 m a1 xx ed) kq
  obtain ⟨E_a, F_e, F_s, F_m⟩ := id hAL
  have Vc77 := A_E
  obtain ⟨cl77, Ar77, q77, S77, N77_, H77_, G77⟩ := Vc77
  have Vc78 := A_E
  obtain ⟨cl78, Ar78, q78, S78, N78_, H78_, G78⟩ := Vc78
  have hin78 : ¬ ((1 : Int32) < 0 ∨ cl78.slots.size ≤ ((1 : Int32)).toNatClampNeg) := inb_of S78 ⟨by decide, by decide⟩
  obtain ⟨T79, h79, X79, e79, W79, st79⟩ := stR X0 hx hZ e0 Ar78 (j := (1 : Int32)) hin78 rfl (Sto.ofV Ar78 q78 O_E (Ins.of_exa E_x (own_q hw 219 rfl))) (g := (mkF m 14 #[.val (.ref a1), .val (.ref xx), .val (.ref ed), .val (.int (1 : Int32))] [(.ref xx), (.int (1 : Int32)), (.ref ed)])) rfl rfl (hb hby d23_14)
  have KP79 := Keep.wr (Keep.refl h0 [a1, ed]) W79 (Or.inl (List.mem_of_getElem? (i := 1) rfl))
  have V79 : Arv Z h79 ed kE (.object "java/lang/Object") (10 : Int32) [(.ref x0), (.ref xx), .null, .null, .null, .null, .null, .null, .null, .null] .null := Arv.set Ar78 q78 S78 N78_ H78_ G78 rfl W79 1 rfl (Nat.le_of_ble_eq_true rfl)
  have N79 := Fr.snoc X79 N0 gn_e
  have Fx80 := (E_a.wr W79)
  have Fx81 := (F_s.other W79 (Or.inl nE))
  obtain ⟨T82, h82, X82, e82, W82, st82⟩ := putF X79 hx hZ hown (host := "") (Or.inl (own_q hw 197 rfl)) Via.refl e79 Fx81 Fx80 (Or.inl (own_q hw 134 rfl)) (own_q hw 2 rfl) (ty := .int) (by decide) rfl rfl (g := (mkF m 19 #[.val (.ref a1), .val (.ref xx), .val (.ref ed), .val (.int (1 : Int32))] [(.int (2 : Int32)), (.ref a1)])) rfl rfl (hb hby d23_19)
  have KP82 := Keep.wr KP79 W82 (Or.inl (List.mem_of_getElem? (i := 0) rfl))
  have Fw82 := Fx81.same W82
  have N82 := Fr.snoc X82 N79 gn_a
  have Fx83 := (Fx80.wr W82)
  have Fx84 := ((F_e.other W79 (Or.inl nE)).other W82 (Or.inr (slot_ne (Or.inl (own_q hw 26 rfl)) (Or.inl (own_q hw 134 rfl)) (by decide) (t := (.array (.object "java/lang/Object"))) (t' := .int) (by decide) (by decide))))
  have Fx85 := ((F_m.other W79 (Or.inl nE)).other W82 (Or.inr (slot_ne (Or.inl (own_q hw 23 rfl)) (Or.inl (own_q hw 134 rfl)) (by decide) (t := .int) (t' := .int) (by decide) (by decide))))
  have Fx86 := (V79.other W82 (Ne.symm nE))
  obtain ⟨fs, hr, hrun, hended, hW, hsame⟩ := X82.leave (v := none) (fun _ => rfl)
  refine ⟨_, _, pre0 _ ?_, hrun, hended, _, _, rfl, ?_, ⟨_, rfl⟩, hW, hsame.mono (by decide) (by decide)⟩
  · refine XS.iloadN X0.here hx rfl (hb hby d23_0) rfl ?_
    refine XS.aloadN X0.here hx rfl (hb hby d23_1) rfl rfl ?_
    refine X0.arraylength hx (by rw [e0]; exact Ar77.1) (State.isArrayOf_alike hZ.alike Ar77.2.1) (g := (mkF m 2 #[.val (.ref a1), .val (.ref xx), .val (.ref ed), .val (.int (1 : Int32))] [(.ref ed), (.int (1 : Int32))])) rfl rfl (hb hby d23_2) _ ?_
    rw [len_of S77 N77_]
    show Steps p.tables e below (s₁.setTop (mkF m 3 #[.val (.ref a1), .val (.ref xx), .val (.ref ed), .val (.int (1 : Int32))] [(.int (10 : Int32)), (.int (1 : Int32))])) _
    refine XS.icmpYes X0.here hx rfl (pc0 := 3) (pc' := 11) rfl (hb hby d23_3) rfl (feq (by decide : ¬ ((1 : Int32) = (10 : Int32)))).2 (by decide) (by decide) ?_
    refine XS.aloadN X0.here hx rfl (hb hby d23_11) rfl rfl ?_
    refine XS.iloadN X0.here hx rfl (hb hby d23_12) rfl ?_
    refine XS.aloadN X0.here hx rfl (hb hby d23_13) rfl rfl ?_
    refine st79 _ ?_
    show Steps p.tables e below (T79.setTop (mkF m 15 #[.val (.ref a1), .val (.ref xx), .val (.ref ed), .val (.int (1 : Int32))] [])) _
    refine XS.aloadN X79.here hx rfl (hb hby d23_15) rfl rfl ?_
    refine XS.iloadN X79.here hx rfl (hb hby d23_16) rfl ?_
    refine XS.iconst X79.here hx rfl (hb hby d23_17) ?_
    refine XS.iadd X79.here hx rfl (hb hby d23_18) rfl ?_
    refine st82 _ ?_
    show Steps p.tables e below (T82.setTop (mkF m 22 #[.val (.ref a1), .val (.ref xx), .val (.ref ed), .val (.int (1 : Int32))] [])) _
    exact X82.returnOut hx Bd.returns (hb hby d23_22) hr
  · show own_Do none [a1, ed] (fun h => own_AL Z h a1 (.ref ed) (2 : Int32) mc ∧ Arv Z h ed kE (.object "java/lang/Object") (10 : Int32) [(.ref x0), (.ref xx), .null, .null, .null, .null, .null, .null, .null, .null] .null) h0 n0 _ T82.heap _
    rw [e82]
    exact ⟨rfl, N82, KP82, ⟨Fx83, Fx84, Fw82, Fx85⟩, Fx86⟩
theorem d22_0 : decode jdk_38_method_25_code 0 = .ok (.aload_n 0, 1) := by decide +kernel
theorem d22_1 : decode jdk_38_method_25_code 1 = .ok (.dup, 1) := by decide +kernel
theorem d22_2 : decode jdk_38_method_25_code 2 = .ok (.getfield 63, 3) := by decide +kernel
theorem d22_5 : decode jdk_38_method_25_code 5 = .ok (.iconst 1, 1) := by decide +kernel
theorem d22_6 : decode jdk_38_method_25_code 6 = .ok (.iadd, 1) := by decide +kernel
theorem d22_7 : decode jdk_38_method_25_code 7 = .ok (.putfield 63, 3) := by decide +kernel
theorem d22_10 : decode jdk_38_method_25_code 10 = .ok (.aload_n 0, 1) := by decide +kernel
theorem d22_11 : decode jdk_38_method_25_code 11 = .ok (.aload_n 1, 1) := by decide +kernel
theorem d22_12 : decode jdk_38_method_25_code 12 = .ok (.aload_n 0, 1) := by decide +kernel
theorem d22_13 : decode jdk_38_method_25_code 13 = .ok (.getfield 9, 3) := by decide +kernel
theorem d22_16 : decode jdk_38_method_25_code 16 = .ok (.aload_n 0, 1) := by decide +kernel
theorem d22_17 : decode jdk_38_method_25_code 17 = .ok (.getfield 48, 3) := by decide +kernel
theorem pd_186 : parseMethodDescriptor "(Ljava/lang/Object;[Ljava/lang/Object;I)V" = some ⟨[(.object "java/lang/Object"), (.array (.object "java/lang/Object")), .int], none⟩ := by decide +kernel
theorem d22_20 : decode jdk_38_method_25_code 20 = .ok (.invokevirtual 131, 3) := by decide +kernel
theorem d22_23 : decode jdk_38_method_25_code 23 = .ok (.iconst 1, 1) := by decide +kernel
theorem d22_24 : decode jdk_38_method_25_code 24 = .ok (.ireturn, 1) := by decide +kernel
theorem ef_rm_add_0 (m : MethodId) (x0 : Addr) (x1 : Addr) : entryFrame m #[(.ref x0), (.ref x1)] 2 = mkF m 0 #[.val (.ref x0), .val (.ref x1)] [] := by first | (simp [entryFrame, mkF, argsToLocals, Value.category]; done) | rfl
set_option maxRecDepth 65536 in
set_option maxHeartbeats 40000000 in
theorem rm_add_0 (l : Launch) (Z : State) (a0 : Array Value) (hw : ∀ d ∈ tables_1, d.before a0 Z = true) (ws : List Jvm.Cond) (a1 : Addr) (xx : Addr) (h0 : Heap) (n0 : Nat) (Z0 : n0 ≤ h0.size) (hS : Heap) (hn : hS.size ≤ n0) (hEx : Ext hS h0) (dE oe : Addr) (kD : ClassId) (hWd : own_Wd Z hS dE kD oe) (hAL : own_AL Z h0 a1 (.ref dE) (0 : Int32) (0 : Int32)) (gn_a : n0 ≤ a1) (E_x : Exa Z h0 xx "com/example/parley/parley/floor/FloorSettings")  :
    MetFree l (⟨"java/util/ArrayList", "add", "(Ljava/lang/Object;)Z"⟩ : MethodName) (head1 (Jvm.Cond.code (⟨"java/util/ArrayList", "add", "(Ljava/lang/Object;)Z"⟩ : MethodName) jdk_38_method_25_code 2 (some .boolean) :: ws) ({ frames := 4, cells := 1, slots := 10, locals := 56 } : Room)) (fun aQ UQ => aQ = #[(.ref a1), (.ref xx)] ∧ Z.Warmed39 UQ.vm ∧ UQ.heap = h0) (fun _ _ _ _ _ => True) (fun _ UQ oQ UR => ∃ vQ LQ, oQ = .returned vQ ∧ own_Do (some (.int (1 : Int32))) [a1] (fun h => ∃ (ed : Addr) (k : ClassId), h0.size ≤ ed ∧ own_AL Z h a1 (.ref ed) (1 : Int32) (1 : Int32) ∧ Arv Z h ed k (.object "java/lang/Object") (10 : Int32) [(.ref xx), .null, .null, .null, .null, .null, .null, .null, .null, .null] .null ∧ Ovr Z k "java/lang/Object") h0 n0 vQ UR.heap LQ ∧ FrameEnd UQ oQ UR LQ ({ frames := 4, cells := 1, slots := 10, locals := 56 } : Room).cells ({ frames := 4, cells := 1, slots := 10, locals := 56 } : Room).slots) := by
  refine MetFree.of_bodySF (plainFor_of_name pn_30) hisR ?_
  intro p e s m args below meth c s₁ Bd hml0 hP hK
  obtain ⟨rfl, hZ, hh⟩ := hP
  have hx := Bd.exec
  have hby := Bd.bytes
  have hml : c.maxLocals = 2 := hml0
  have hown : s.vm.findClass "java/util/ArrayList" = some m.cls := findClass_of_methodNamed Bd.named
  have hnm := (name_of_methodNamed Bd.named Bd.method).1
  have X0 : Stand p l e ({ frames := 4, cells := 1, slots := 10, locals := 56 } : Room) s m #[(.ref a1), (.ref xx)] below meth c s₁ [] 0 0 := Stand.of_body Bd
  have e0 : s₁.heap = h0 := by rw [← hh, Bd.state]; rfl
  have N0 := Fr.nil n0
  have pre0 : ∀ t, Steps p.tables e below (s₁.setTop (mkF m 0 #[.val (.ref a1), .val (.ref xx)] [])) t → Steps p.tables e below (s₁.setTop (entryFrame m #[(.ref a1), (.ref xx)] 2)) t := fun t kq => castTop (ef_rm_add_0 m a1 xx) kq
  obtain ⟨E_a, F_e, F_s, F_m⟩ := id hAL
  obtain ⟨S_D, A_D, S_O, E_O, F_O⟩ := id hWd
  obtain ⟨T87, X87, e87, st87⟩ := getF X0 hx hZ hown (host := "") (Or.inl (own_q hw 196 rfl)) (Via.of (own_q hw 119 rfl)) e0 F_m (g := (mkF m 2 #[.val (.ref a1), .val (.ref xx)] [(.ref a1), (.ref a1)])) rfl rfl (hb hby d22_2)
  obtain ⟨T88, h88, X88, e88, W88, st88⟩ := putF X87 hx hZ hown (host := "") (Or.inl (own_q hw 196 rfl)) (Via.of (own_q hw 119 rfl)) e87 F_m E_a (Or.inl (own_q hw 23 rfl)) (own_q hw 2 rfl) (ty := .int) (by decide) rfl rfl (g := (mkF m 7 #[.val (.ref a1), .val (.ref xx)] [(.int (1 : Int32)), (.ref a1)])) rfl rfl (hb hby d22_7)
  have KP88 := Keep.wr (Keep.refl h0 [a1]) W88 (Or.inl (List.mem_of_getElem? (i := 0) rfl))
  have Fw88 := F_m.same W88
  have N88 := Fr.snoc X88 N0 gn_a
  have Fx89 := (F_e.other W88 (Or.inr (slot_ne (Or.inl (own_q hw 26 rfl)) (Or.inl (own_q hw 23 rfl)) (by decide) (t := (.array (.object "java/lang/Object"))) (t' := .int) (by decide) (by decide))))
  obtain ⟨T90, X90, e90, st90⟩ := getF X88 hx hZ hown (host := "") (Or.inl (own_q hw 25 rfl)) Via.refl e88 Fx89 (g := (mkF m 13 #[.val (.ref a1), .val (.ref xx)] [(.ref a1), (.ref xx), (.ref a1)])) rfl rfl (hb hby d22_13)
  have Fx91 := (F_s.other W88 (Or.inr (slot_ne (Or.inl (own_q hw 134 rfl)) (Or.inl (own_q hw 23 rfl)) (by decide) (t := .int) (t' := .int) (by decide) (by decide))))
  obtain ⟨T92, X92, e92, st92⟩ := getF X90 hx hZ hown (host := "") (Or.inl (own_q hw 197 rfl)) Via.refl e90 Fx91 (g := (mkF m 17 #[.val (.ref a1), .val (.ref xx)] [(.ref a1), (.ref dE), (.ref xx), (.ref a1)])) rfl rfl (hb hby d22_17)
  have Fx93 := (E_a.wr W88)
  obtain ⟨cq94, q94, q94'⟩ := Exa.cell (Fx93)
  obtain ⟨_, _, ⟨T94, L94, k94, n94⟩, -, X94, ⟨Lc94, hQ94, l94, y94, z94⟩, st94⟩ := X92.privateBack hx (y := (⟨"java/util/ArrayList", "add", "(Ljava/lang/Object;[Ljava/lang/Object;I)V"⟩ : MethodName)) hown (mvT hZ (own_q hw 198 rfl)) (mvT hZ (own_q hw 199 rfl)) (mvT hZ (own_q hw 201 rfl)) (Cond.privateMethod_at (mvP hZ (own_q hw 200 rfl) (args := #[]))) (mvT hZ (own_q hw 202 rfl)) (by decide) (backOf (W := 0) (rm_ad3_0 l Z a0 hw [] a1 xx dE h88 n0 (Nat.le_trans Z0 KP88.1) hS hn (own_ext_keep hEx KP88 (allS (Nat.le_trans hn gn_a) all0)) oe kD hWd (1 : Int32) ⟨Fx93, Fx89, Fx91, Fw88⟩ gn_a (E_x.keep KP88)) hZ (own_q hw 202 rfl) (own_q hw 3 rfl) (by decide) (by decide)) (g := (mkF m 20 #[.val (.ref a1), .val (.ref xx)] [(.int (0 : Int32)), (.ref dE), (.ref xx), (.ref a1)])) rfl (by rw [hml]; rfl) (Steps.refl _) (a := a1) (by rw [e92]; exact q94) q94' (argsL := [(.ref xx), (.ref dE), (.int (0 : Int32))]) (rest := []) (lenOf pd_186 rfl) rfl (by show 2 * 0 + _ ≤ _; exact Nat.le_of_eq rfl) (hb hby d22_20) (fun _ _ => ⟨rfl, e92, (by decide : 0 + 1 ≤ _), (by decide : 0 + 10 ≤ _)⟩)
  dsimp only [Pt.U, Pt.locs, Pt.cells, Pt.slots] at X94 l94 y94 z94 st94 hQ94
  obtain rfl : k94 = 1 := y94; obtain rfl : n94 = 10 := z94
  obtain ⟨rfl, N94q, K94, ed, kE, z94', hP⟩ := hQ94
  have N94 : Fr n0 L94 := by rw [l94]; exact Fr.app N88 N94q
  have e94 : T94.heap = T94.heap := rfl
  have KP94 := Keep.trans KP88 K94 (allS (Or.inl (List.mem_of_getElem? (i := 0) rfl)) all0)
  have sz_ed := Nat.le_trans KP88.1 z94'
  obtain ⟨fs, hr, hrun, hended, hW, hsame⟩ := X94.leave (v := some (.int (1 : Int32))) (fun h => by rw [Bd.returns] at h; cases h)
  refine ⟨_, _, pre0 _ ?_, hrun, hended, _, _, rfl, ?_, ⟨_, rfl⟩, hW, hsame.mono (by decide) (by decide)⟩
  · refine XS.aloadN X0.here hx rfl (hb hby d22_0) rfl rfl ?_
    refine XS.dup X0.here hx rfl (hb hby d22_1) rfl rfl ?_
    refine st87 _ ?_
    show Steps p.tables e below (T87.setTop (mkF m 5 #[.val (.ref a1), .val (.ref xx)] [(.int (0 : Int32)), (.ref a1)])) _
    refine XS.iconst X87.here hx rfl (hb hby d22_5) ?_
    refine XS.iadd X87.here hx rfl (hb hby d22_6) rfl ?_
    refine st88 _ ?_
    show Steps p.tables e below (T88.setTop (mkF m 10 #[.val (.ref a1), .val (.ref xx)] [])) _
    refine XS.aloadN X88.here hx rfl (hb hby d22_10) rfl rfl ?_
    refine XS.aloadN X88.here hx rfl (hb hby d22_11) rfl rfl ?_
    refine XS.aloadN X88.here hx rfl (hb hby d22_12) rfl rfl ?_
    refine st90 _ ?_
    show Steps p.tables e below (T90.setTop (mkF m 16 #[.val (.ref a1), .val (.ref xx)] [(.ref dE), (.ref xx), (.ref a1)])) _
    refine XS.aloadN X90.here hx rfl (hb hby d22_16) rfl rfl ?_
    refine st92 _ ?_
    show Steps p.tables e below (T92.setTop (mkF m 20 #[.val (.ref a1), .val (.ref xx)] [(.int (0 : Int32)), (.ref dE), (.ref xx), (.ref a1)])) _
    refine st94.trans ?_
    show Steps p.tables e below (T94.setTop (mkF m 23 #[.val (.ref a1), .val (.ref xx)] [])) _
    refine XS.iconst X94.here hx rfl (hb hby d22_23) ?_
    exact retN X94 hx (t := .boolean) Bd.returns (by simp) (hb hby d22_24) hr
  · show own_Do (some (.int (1 : Int32))) [a1] (fun h => ∃ (ed : Addr) (k : ClassId), h0.size ≤ ed ∧ own_AL Z h a1 (.ref ed) (1 : Int32) (1 : Int32) ∧ Arv Z h ed k (.object "java/lang/Object") (10 : Int32) [(.ref xx), .null, .null, .null, .null, .null, .null, .null, .null, .null] .null ∧ Ovr Z k "java/lang/Object") h0 n0 _ T94.heap _
    exact ⟨rfl, N94, KP94, ed, kE, sz_ed, hP⟩
theorem ef_rm_add_1 (m : MethodId) (x0 : Addr) (x1 : Addr) : entryFrame m #[(.ref x0), (.ref x1)] 2 = mkF m 0 #[.val (.ref x0), .val (.ref x1)] [] := by first | (simp [entryFrame, mkF, argsToLocals, Value.category]; done) | rfl
set_option maxRecDepth 65536 in
set_option maxHeartbeats 40000000 in
theorem rm_add_1 (l : Launch) (Z : State) (a0 : Array Value) (hw : ∀ d ∈ tables_1, d.before a0 Z = true) (ws : List Jvm.Cond) (a1 : Addr) (xx : Addr) (h0 : Heap) (n0 : Nat) (Z0 : n0 ≤ h0.size) (ed : Addr) (x0 : Addr) (kE : ClassId) (hAL : own_AL Z h0 a1 (.ref ed) (1 : Int32) (1 : Int32)) (A_E : Arv Z h0 ed kE (.object "java/lang/Object") (10 : Int32) [(.ref x0), .null, .null, .null, .null, .null, .null, .null, .null, .null] .null) (O_E : Ovr Z kE "java/lang/Object") (gn_a : n0 ≤ a1) (gn_e : n0 ≤ ed) (nE : a1 ≠ ed) (E_x : Exa Z h0 xx "com/example/parley/parley/floor/FloorSettings")  :
    MetFree l (⟨"java/util/ArrayList", "add", "(Ljava/lang/Object;)Z"⟩ : MethodName) (head1 (Jvm.Cond.code (⟨"java/util/ArrayList", "add", "(Ljava/lang/Object;)Z"⟩ : MethodName) jdk_38_method_25_code 2 (some .boolean) :: ws) ({ frames := 1, cells := 0, slots := 0, locals := 15 } : Room)) (fun aQ UQ => aQ = #[(.ref a1), (.ref xx)] ∧ Z.Warmed39 UQ.vm ∧ UQ.heap = h0) (fun _ _ _ _ _ => True) (fun _ UQ oQ UR => ∃ vQ LQ, oQ = .returned vQ ∧ own_Do (some (.int (1 : Int32))) [a1, ed] (fun h => own_AL Z h a1 (.ref ed) (2 : Int32) (2 : Int32) ∧ Arv Z h ed kE (.object "java/lang/Object") (10 : Int32) [(.ref x0), (.ref xx), .null, .null, .null, .null, .null, .null, .null, .null] .null) h0 n0 vQ UR.heap LQ ∧ FrameEnd UQ oQ UR LQ ({ frames := 1, cells := 0, slots := 0, locals := 15 } : Room).cells ({ frames := 1, cells := 0, slots := 0, locals := 15 } : Room).slots) := by
  refine MetFree.of_bodySF (plainFor_of_name pn_30) hisR ?_
  intro p e s m args below meth c s₁ Bd hml0 hP hK
  obtain ⟨rfl, hZ, hh⟩ := hP
  have hx := Bd.exec
  have hby := Bd.bytes
  have hml : c.maxLocals = 2 := hml0
  have hown : s.vm.findClass "java/util/ArrayList" = some m.cls := findClass_of_methodNamed Bd.named
  have hnm := (name_of_methodNamed Bd.named Bd.method).1
  have X0 : Stand p l e ({ frames := 1, cells := 0, slots := 0, locals := 15 } : Room) s m #[(.ref a1), (.ref xx)] below meth c s₁ [] 0 0 := Stand.of_body Bd
  have e0 : s₁.heap = h0 := by rw [← hh, Bd.state]; rfl
  have N0 := Fr.nil n0
  have pre0 : ∀ t, Steps p.tables e below (s₁.setTop (mkF m 0 #[.val (.ref a1), .val (.ref xx)] [])) t → Steps p.tables e below (s₁.setTop (entryFrame m #[(.ref a1), (.ref xx)] 2)) t := fun t kq => castTop (ef_rm_add_1 m a1 xx) kq
  obtain ⟨E_a, F_e, F_s, F_m⟩ := id hAL
  obtain ⟨T95, X95, e95, st95⟩ := getF X0 hx hZ hown (host := "") (Or.inl (own_q hw 196 rfl)) (Via.of (own_q hw 119 rfl)) e0 F_m (g := (mkF m 2 #[.val (.ref a1), .val (.ref xx)] [(.ref a1), (.ref a1)])) rfl rfl (hb hby d22_2)
  obtain ⟨T96, h96, X96, e96, W96, st96⟩ := putF X95 hx hZ hown (host := "") (Or.inl (own_q hw 196 rfl)) (Via.of (own_q hw 119 rfl)) e95 F_m E_a (Or.inl (own_q hw 23 rfl)) (own_q hw 2 rfl) (ty := .int) (by decide) rfl rfl (g := (mkF m 7 #[.val (.ref a1), .val (.ref xx)] [(.int (2 : Int32)), (.ref a1)])) rfl rfl (hb hby d22_7)
  have KP96 := Keep.wr (Keep.refl h0 [a1, ed]) W96 (Or.inl (List.mem_of_getElem? (i := 0) rfl))
  have Fw96 := F_m.same W96
  have N96 := Fr.snoc X96 N0 gn_a
  have Fx97 := (F_e.other W96 (Or.inr (slot_ne (Or.inl (own_q hw 26 rfl)) (Or.inl (own_q hw 23 rfl)) (by decide) (t := (.array (.object "java/lang/Object"))) (t' := .int) (by decide) (by decide))))
  obtain ⟨T98, X98, e98, st98⟩ := getF X96 hx hZ hown (host := "") (Or.inl (own_q hw 25 rfl)) Via.refl e96 Fx97 (g := (mkF m 13 #[.val (.ref a1), .val (.ref xx)] [(.ref a1), (.ref xx), (.ref a1)])) rfl rfl (hb hby d22_13)
  have Fx99 := (F_s.other W96 (Or.inr (slot_ne (Or.inl (own_q hw 134 rfl)) (Or.inl (own_q hw 23 rfl)) (by decide) (t := .int) (t' := .int) (by decide) (by decide))))
  obtain ⟨T100, X100, e100, st100⟩ := getF X98 hx hZ hown (host := "") (Or.inl (own_q hw 197 rfl)) Via.refl e98 Fx99 (g := (mkF m 17 #[.val (.ref a1), .val (.ref xx)] [(.ref a1), (.ref ed), (.ref xx), (.ref a1)])) rfl rfl (hb hby d22_17)
  have Fx101 := (E_a.wr W96)
  have Fx102 := (A_E.other W96 (Ne.symm nE))
  obtain ⟨cq103, q103, q103'⟩ := Exa.cell (Fx101)
  obtain ⟨_, _, ⟨T103, L103, k103, n103⟩, -, X103, ⟨Lc103, hQ103, l103, y103, z103⟩, st103⟩ := X100.privateBack hx (y := (⟨"java/util/ArrayList", "add", "(Ljava/lang/Object;[Ljava/lang/Object;I)V"⟩ : MethodName)) hown (mvT hZ (own_q hw 198 rfl)) (mvT hZ (own_q hw 199 rfl)) (mvT hZ (own_q hw 201 rfl)) (Cond.privateMethod_at (mvP hZ (own_q hw 200 rfl) (args := #[]))) (mvT hZ (own_q hw 202 rfl)) (by decide) (backOf (W := 0) (rm_ad3_1 l Z a0 hw [] a1 xx ed h96 n0 (Nat.le_trans Z0 KP96.1) x0 kE (2 : Int32) ⟨Fx101, Fx97, Fx99, Fw96⟩ Fx102 O_E gn_a gn_e nE (E_x.keep KP96)) hZ (own_q hw 202 rfl) (own_q hw 3 rfl) (by decide) (by decide)) (g := (mkF m 20 #[.val (.ref a1), .val (.ref xx)] [(.int (1 : Int32)), (.ref ed), (.ref xx), (.ref a1)])) rfl (by rw [hml]; rfl) (Steps.refl _) (a := a1) (by rw [e100]; exact q103) q103' (argsL := [(.ref xx), (.ref ed), (.int (1 : Int32))]) (rest := []) (lenOf pd_186 rfl) rfl (by show 2 * 0 + _ ≤ _; exact Nat.le_of_eq rfl) (hb hby d22_20) (fun _ _ => ⟨rfl, e100, (by decide : 0 + 0 ≤ _), (by decide : 0 + 0 ≤ _)⟩)
  dsimp only [Pt.U, Pt.locs, Pt.cells, Pt.slots] at X103 l103 y103 z103 st103 hQ103
  obtain rfl : k103 = 0 := y103; obtain rfl : n103 = 0 := z103
  obtain ⟨rfl, N103q, K103, hP⟩ := hQ103
  have N103 : Fr n0 L103 := by rw [l103]; exact Fr.app N96 N103q
  have e103 : T103.heap = T103.heap := rfl
  have KP103 := Keep.trans KP96 K103 (allS (Or.inl (List.mem_of_getElem? (i := 0) rfl)) (allS (Or.inl (List.mem_of_getElem? (i := 1) rfl)) all0))
  obtain ⟨fs, hr, hrun, hended, hW, hsame⟩ := X103.leave (v := some (.int (1 : Int32))) (fun h => by rw [Bd.returns] at h; cases h)
  refine ⟨_, _, pre0 _ ?_, hrun, hended, _, _, rfl, ?_, ⟨_, rfl⟩, hW, hsame.mono (by decide) (by decide)⟩
  · refine XS.aloadN X0.here hx rfl (hb hby d22_0) rfl rfl ?_
    refine XS.dup X0.here hx rfl (hb hby d22_1) rfl rfl ?_
    refine st95 _ ?_
    show Steps p.tables e below (T95.setTop (mkF m 5 #[.val (.ref a1), .val (.ref xx)] [(.int (1 : Int32)), (.ref a1)])) _
    refine XS.iconst X95.here hx rfl (hb hby d22_5) ?_
    refine XS.iadd X95.here hx rfl (hb hby d22_6) rfl ?_
    refine st96 _ ?_
    show Steps p.tables e below (T96.setTop (mkF m 10 #[.val (.ref a1), .val (.ref xx)] [])) _
    refine XS.aloadN X96.here hx rfl (hb hby d22_10) rfl rfl ?_
    refine XS.aloadN X96.here hx rfl (hb hby d22_11) rfl rfl ?_
    refine XS.aloadN X96.here hx rfl (hb hby d22_12) rfl rfl ?_
    refine st98 _ ?_
    show Steps p.tables e below (T98.setTop (mkF m 16 #[.val (.ref a1), .val (.ref xx)] [(.ref ed), (.ref xx), (.ref a1)])) _
    refine XS.aloadN X98.here hx rfl (hb hby d22_16) rfl rfl ?_
    refine st100 _ ?_
    show Steps p.tables e below (T100.setTop (mkF m 20 #[.val (.ref a1), .val (.ref xx)] [(.int (1 : Int32)), (.ref ed), (.ref xx), (.ref a1)])) _
    refine st103.trans ?_
    show Steps p.tables e below (T103.setTop (mkF m 23 #[.val (.ref a1), .val (.ref xx)] [])) _
    refine XS.iconst X103.here hx rfl (hb hby d22_23) ?_
    exact retN X103 hx (t := .boolean) Bd.returns (by simp) (hb hby d22_24) hr
  · show own_Do (some (.int (1 : Int32))) [a1, ed] (fun h => own_AL Z h a1 (.ref ed) (2 : Int32) (2 : Int32) ∧ Arv Z h ed kE (.object "java/lang/Object") (10 : Int32) [(.ref x0), (.ref xx), .null, .null, .null, .null, .null, .null, .null, .null] .null) h0 n0 _ T103.heap _
    exact ⟨rfl, N103, KP103, hP⟩
theorem d12_0 : decode jdk_49_method_1_code 0 = .ok (.aload_n 0, 1) := by decide +kernel
theorem d12_1 : decode jdk_49_method_1_code 1 = .ok (.aload_n 1, 1) := by decide +kernel
theorem d12_2 : decode jdk_49_method_1_code 2 = .ok (.putfield 1, 3) := by decide +kernel
theorem d12_5 : decode jdk_49_method_1_code 5 = .ok (.aload_n 0, 1) := by decide +kernel
theorem d12_6 : decode jdk_49_method_1_code 6 = .ok (.invokespecial 7, 3) := by decide +kernel
theorem d12_9 : decode jdk_49_method_1_code 9 = .ok (.aload_n 0, 1) := by decide +kernel
theorem d12_10 : decode jdk_49_method_1_code 10 = .ok (.iconst (-1), 1) := by decide +kernel
theorem d12_11 : decode jdk_49_method_1_code 11 = .ok (.putfield 13, 3) := by decide +kernel
theorem d12_14 : decode jdk_49_method_1_code 14 = .ok (.aload_n 0, 1) := by decide +kernel
theorem d12_15 : decode jdk_49_method_1_code 15 = .ok (.aload_n 0, 1) := by decide +kernel
theorem d12_16 : decode jdk_49_method_1_code 16 = .ok (.getfield 1, 3) := by decide +kernel
theorem d12_19 : decode jdk_49_method_1_code 19 = .ok (.getfield 17, 3) := by decide +kernel
theorem d12_22 : decode jdk_49_method_1_code 22 = .ok (.putfield 22, 3) := by decide +kernel
theorem d12_25 : decode jdk_49_method_1_code 25 = .ok (.return_, 1) := by decide +kernel
theorem pn_204 : plainName "java/util/ArrayList$Itr" = true := by first | (simp [plainName, overriddenIn]; done) | decide +kernel
theorem ef_rm_iti (m : MethodId) (x0 : Addr) (x1 : Addr) : entryFrame m #[(.ref x0), (.ref x1)] 2 = mkF m 0 #[.val (.ref x0), .val (.ref x1)] [] := by first | (simp [entryFrame, mkF, argsToLocals, Value.category]; done) | rfl
set_option maxRecDepth 65536 in
set_option maxHeartbeats 40000000 in
theorem rm_iti (l : Launch) (Z : State) (a0 : Array Value) (hw : ∀ d ∈ tables_1, d.before a0 Z = true) (ws : List Jvm.Cond) (a1 : Addr) (ls : Addr) (h0 : Heap) (n0 : Nat) (Z0 : n0 ≤ h0.size) (E_a : Exa Z h0 a1 "java/util/ArrayList$Itr") (F_t : Fld Z h0 a1 "java/util/ArrayList$Itr" "this$0" "Ljava/util/ArrayList;" .null) (F_k : Fld Z h0 a1 "java/util/ArrayList$Itr" "cursor" "I" (.int (0 : Int32))) (F_l : Fld Z h0 a1 "java/util/ArrayList$Itr" "lastRet" "I" (.int (0 : Int32))) (F_x : Fld Z h0 a1 "java/util/ArrayList$Itr" "expectedModCount" "I" (.int (0 : Int32))) (mc : Int32) (F_M : Fld Z h0 ls "java/util/AbstractList" "modCount" "I" (.int mc)) (nl : ls ≠ a1) (gn_a : n0 ≤ a1) :
    MetFree l (⟨"java/util/ArrayList$Itr", "<init>", "(Ljava/util/ArrayList;)V"⟩ : MethodName) (head1 (Jvm.Cond.code (⟨"java/util/ArrayList$Itr", "<init>", "(Ljava/util/ArrayList;)V"⟩ : MethodName) jdk_49_method_1_code 2 none :: ws) ({ frames := 1, cells := 0, slots := 0, locals := 12 } : Room)) (fun aQ UQ => aQ = #[(.ref a1), (.ref ls)] ∧ Z.Warmed39 UQ.vm ∧ UQ.heap = h0) (fun _ _ _ _ _ => True) (fun _ UQ oQ UR => ∃ vQ LQ, oQ = .returned vQ ∧ own_Do none [a1] (fun h => own_It Z h a1 ls (0 : Int32) (-1 : Int32) mc) h0 n0 vQ UR.heap LQ ∧ FrameEnd UQ oQ UR LQ ({ frames := 1, cells := 0, slots := 0, locals := 12 } : Room).cells ({ frames := 1, cells := 0, slots := 0, locals := 12 } : Room).slots) := by
  refine MetFree.of_bodySF (plainFor_of_name pn_204) hisR ?_
  intro p e s m args below meth c s₁ Bd hml0 hP hK
  obtain ⟨rfl, hZ, hh⟩ := hP
  have hx := Bd.exec
  have hby := Bd.bytes
  have hml : c.maxLocals = 2 := hml0
  have hown : s.vm.findClass "java/util/ArrayList$Itr" = some m.cls := findClass_of_methodNamed Bd.named
  have hnm := (name_of_methodNamed Bd.named Bd.method).1
  have X0 : Stand p l e ({ frames := 1, cells := 0, slots := 0, locals := 12 } : Room) s m #[(.ref a1), (.ref ls)] below meth c s₁ [] 0 0 := Stand.of_body Bd
  have e0 : s₁.heap = h0 := by rw [← hh, Bd.state]; rfl
  have N0 := Fr.nil n0
  have pre0 : ∀ t, Steps p.tables e below (s₁.setTop (mkF m 0 #[.val (.ref a1), .val (.ref ls)] [])) t → Steps p.tables e below (s₁.setTop (entryFrame m #[(.ref a1), (.ref ls)] 2)) t := fun t kq => castTop (ef_rm_iti m a1 ls) kq
  obtain ⟨T104, h104, X104, e104, W104, st104⟩ := putF X0 hx hZ hown (host := "") (Or.inl (own_q hw 113 rfl)) Via.refl e0 F_t E_a (Or.inr ⟨(own_q hw 114 rfl), rfl, hnm⟩) (own_q hw 107 rfl) (ty := (.object "java/util/ArrayList")) (by decide) rfl rfl (g := (mkF m 2 #[.val (.ref a1), .val (.ref ls)] [(.ref ls), (.ref a1)])) rfl rfl (hb hby d12_2)
  have KP104 := Keep.wr (Keep.refl h0 [a1]) W104 (Or.inl (List.mem_of_getElem? (i := 0) rfl))
  have Fw104 := F_t.same W104
  have N104 := Fr.snoc X104 N0 gn_a
  obtain ⟨T105, X105, e105, st105⟩ := initO X104 hx hZ hown (own_q hw 115 rfl) (own_q hw 20 rfl) (own_q hw 21 rfl) e104 (g := (mkF m 6 #[.val (.ref a1), .val (.ref ls)] [(.ref a1)])) rfl (by rw [hml]; rfl) rfl (hb hby d12_6) (by decide) (W := 0) (by show 2 * 0 + _ ≤ _; exact Nat.le_of_eq rfl) (by decide)
  have Fx106 := (E_a.wr W104)
  have Fx107 := (F_l.other W104 (Or.inr (slot_ne (Or.inl (own_q hw 117 rfl)) (Or.inr (own_q hw 114 rfl)) (by decide) (t := .int) (t' := (.object "java/util/ArrayList")) (by decide) (by decide))))
  obtain ⟨T108, h108, X108, e108, W108, st108⟩ := putF X105 hx hZ hown (host := "") (Or.inl (own_q hw 116 rfl)) Via.refl e105 Fx107 Fx106 (Or.inl (own_q hw 117 rfl)) (own_q hw 107 rfl) (ty := .int) (by decide) rfl rfl (g := (mkF m 11 #[.val (.ref a1), .val (.ref ls)] [(.int (-1 : Int32)), (.ref a1)])) rfl rfl (hb hby d12_11)
  have KP108 := Keep.wr KP104 W108 (Or.inl (List.mem_of_getElem? (i := 0) rfl))
  have Fw108 := Fx107.same W108
  have N108 := Fr.snoc X108 N104 gn_a
  have Fx109 := (Fw104.other W108 (Or.inr (slot_ne (Or.inr (own_q hw 114 rfl)) (Or.inl (own_q hw 117 rfl)) (by decide) (t := (.object "java/util/ArrayList")) (t' := .int) (by decide) (by decide))))
  obtain ⟨T110, X110, e110, st110⟩ := getF X108 hx hZ hown (host := "") (Or.inl (own_q hw 113 rfl)) Via.refl e108 Fx109 (g := (mkF m 16 #[.val (.ref a1), .val (.ref ls)] [(.ref a1), (.ref a1)])) rfl rfl (hb hby d12_16)
  have Fx111 := ((F_M.other W104 (Or.inl nl)).other W108 (Or.inl nl))
  obtain ⟨T112, X112, e112, st112⟩ := getF X110 hx hZ hown (host := "") (Or.inl (own_q hw 118 rfl)) (Via.of (own_q hw 119 rfl)) e110 Fx111 (g := (mkF m 19 #[.val (.ref a1), .val (.ref ls)] [(.ref ls), (.ref a1)])) rfl rfl (hb hby d12_19)
  have Fx113 := (Fx106.wr W108)
  have Fx114 := ((F_x.other W104 (Or.inr (slot_ne (Or.inl (own_q hw 121 rfl)) (Or.inr (own_q hw 114 rfl)) (by decide) (t := .int) (t' := (.object "java/util/ArrayList")) (by decide) (by decide)))).other W108 (Or.inr (slot_ne (Or.inl (own_q hw 121 rfl)) (Or.inl (own_q hw 117 rfl)) (by decide) (t := .int) (t' := .int) (by decide) (by decide))))
  obtain ⟨T115, h115, X115, e115, W115, st115⟩ := putF X112 hx hZ hown (host := "") (Or.inl (own_q hw 120 rfl)) Via.refl e112 Fx114 Fx113 (Or.inl (own_q hw 121 rfl)) (own_q hw 107 rfl) (ty := .int) (by decide) rfl rfl (g := (mkF m 22 #[.val (.ref a1), .val (.ref ls)] [(.int mc), (.ref a1)])) rfl rfl (hb hby d12_22)
  have KP115 := Keep.wr KP108 W115 (Or.inl (List.mem_of_getElem? (i := 0) rfl))
  have Fw115 := Fx114.same W115
  have N115 := Fr.snoc X115 N108 gn_a
  have Fx116 := (Fx113.wr W115)
  have Fx117 := (Fx109.other W115 (Or.inr (slot_ne (Or.inr (own_q hw 114 rfl)) (Or.inl (own_q hw 121 rfl)) (by decide) (t := (.object "java/util/ArrayList")) (t' := .int) (by decide) (by decide))))
  have Fx118 := (((F_k.other W104 (Or.inr (slot_ne (Or.inl (own_q hw 132 rfl)) (Or.inr (own_q hw 114 rfl)) (by decide) (t := .int) (t' := (.object "java/util/ArrayList")) (by decide) (by decide)))).other W108 (Or.inr (slot_ne (Or.inl (own_q hw 132 rfl)) (Or.inl (own_q hw 117 rfl)) (by decide) (t := .int) (t' := .int) (by decide) (by decide)))).other W115 (Or.inr (slot_ne (Or.inl (own_q hw 132 rfl)) (Or.inl (own_q hw 121 rfl)) (by decide) (t := .int) (t' := .int) (by decide) (by decide))))
  have Fx119 := (Fw108.other W115 (Or.inr (slot_ne (Or.inl (own_q hw 117 rfl)) (Or.inl (own_q hw 121 rfl)) (by decide) (t := .int) (t' := .int) (by decide) (by decide))))
  obtain ⟨fs, hr, hrun, hended, hW, hsame⟩ := X115.leave (v := none) (fun _ => rfl)
  refine ⟨_, _, pre0 _ ?_, hrun, hended, _, _, rfl, ?_, ⟨_, rfl⟩, hW, hsame.mono (by decide) (by decide)⟩
  · refine XS.aloadN X0.here hx rfl (hb hby d12_0) rfl rfl ?_
    refine XS.aloadN X0.here hx rfl (hb hby d12_1) rfl rfl ?_
    refine st104 _ ?_
    show Steps p.tables e below (T104.setTop (mkF m 5 #[.val (.ref a1), .val (.ref ls)] [])) _
    refine XS.aloadN X104.here hx rfl (hb hby d12_5) rfl rfl ?_
    refine st105 _ ?_
    show Steps p.tables e below (T105.setTop (mkF m 9 #[.val (.ref a1), .val (.ref ls)] [])) _
    refine XS.aloadN X105.here hx rfl (hb hby d12_9) rfl rfl ?_
    refine XS.iconst X105.here hx rfl (hb hby d12_10) ?_
    refine st108 _ ?_
    show Steps p.tables e below (T108.setTop (mkF m 14 #[.val (.ref a1), .val (.ref ls)] [])) _
    refine XS.aloadN X108.here hx rfl (hb hby d12_14) rfl rfl ?_
    refine XS.aloadN X108.here hx rfl (hb hby d12_15) rfl rfl ?_
    refine st110 _ ?_
    show Steps p.tables e below (T110.setTop (mkF m 19 #[.val (.ref a1), .val (.ref ls)] [(.ref ls), (.ref a1)])) _
    refine st112 _ ?_
    show Steps p.tables e below (T112.setTop (mkF m 22 #[.val (.ref a1), .val (.ref ls)] [(.int mc), (.ref a1)])) _
    refine st115 _ ?_
    show Steps p.tables e below (T115.setTop (mkF m 25 #[.val (.ref a1), .val (.ref ls)] [])) _
    exact X115.returnOut hx Bd.returns (hb hby d12_25) hr
  · show own_Do none [a1] (fun h => own_It Z h a1 ls (0 : Int32) (-1 : Int32) mc) h0 n0 _ T115.heap _
    rw [e115]
    exact ⟨rfl, N115, KP115, ⟨Fx116, Fx117, Fx118, Fx119, Fw115⟩⟩
theorem d11_0 : decode jdk_38_method_55_code 0 = .ok (.new 267, 3) := by decide +kernel
theorem d11_3 : decode jdk_38_method_55_code 3 = .ok (.dup, 1) := by decide +kernel
theorem d11_4 : decode jdk_38_method_55_code 4 = .ok (.aload_n 0, 1) := by decide +kernel
theorem pd_208 : parseMethodDescriptor "(Ljava/util/ArrayList;)V" = some ⟨[(.object "java/util/ArrayList")], none⟩ := by decide +kernel
theorem d11_5 : decode jdk_38_method_55_code 5 = .ok (.invokespecial 269, 3) := by decide +kernel
theorem d11_8 : decode jdk_38_method_55_code 8 = .ok (.areturn, 1) := by decide +kernel
theorem ef_rm_ite (m : MethodId) (x0 : Addr) : entryFrame m #[(.ref x0)] 1 = mkF m 0 #[.val (.ref x0)] [] := by first | (simp [entryFrame, mkF, argsToLocals, Value.category]; done) | rfl
set_option maxRecDepth 65536 in
set_option maxHeartbeats 40000000 in
theorem rm_ite (l : Launch) (Z : State) (a0 : Array Value) (hw : ∀ d ∈ tables_1, d.before a0 Z = true) (ws : List Jvm.Cond) (a1 : Addr) (h0 : Heap) (n0 : Nat) (Z0 : n0 ≤ h0.size) (mc : Int32) (F_M : Fld Z h0 a1 "java/util/AbstractList" "modCount" "I" (.int mc))  :
    MetFree l (⟨"java/util/ArrayList", "iterator", "()Ljava/util/Iterator;"⟩ : MethodName) (head1 (Jvm.Cond.code (⟨"java/util/ArrayList", "iterator", "()Ljava/util/Iterator;"⟩ : MethodName) jdk_38_method_55_code 1 (some (.object "java/util/Iterator")) :: ws) ({ frames := 2, cells := 1, slots := 4, locals := 26 } : Room)) (fun aQ UQ => aQ = #[(.ref a1)] ∧ Z.Warmed39 UQ.vm ∧ UQ.heap = h0) (fun _ _ _ _ _ => True) (fun _ UQ oQ UR => ∃ vQ LQ, oQ = .returned vQ ∧ own_New (fun h b => own_It Z h b a1 (0 : Int32) (-1 : Int32) mc) h0 n0 vQ UR.heap LQ ∧ FrameEnd UQ oQ UR LQ ({ frames := 2, cells := 1, slots := 4, locals := 26 } : Room).cells ({ frames := 2, cells := 1, slots := 4, locals := 26 } : Room).slots) := by
  refine MetFree.of_bodySF (plainFor_of_name pn_30) hisR ?_
  intro p e s m args below meth c s₁ Bd hml0 hP hK
  obtain ⟨rfl, hZ, hh⟩ := hP
  have hx := Bd.exec
  have hby := Bd.bytes
  have hml : c.maxLocals = 1 := hml0
  have hown : s.vm.findClass "java/util/ArrayList" = some m.cls := findClass_of_methodNamed Bd.named
  have hnm := (name_of_methodNamed Bd.named Bd.method).1
  have X0 : Stand p l e ({ frames := 2, cells := 1, slots := 4, locals := 26 } : Room) s m #[(.ref a1)] below meth c s₁ [] 0 0 := Stand.of_body Bd
  have e0 : s₁.heap = h0 := by rw [← hh, Bd.state]; rfl
  have N0 := Fr.nil n0
  have pre0 : ∀ t, Steps p.tables e below (s₁.setTop (mkF m 0 #[.val (.ref a1)] [])) t → Steps p.tables e below (s₁.setTop (entryFrame m #[(.ref a1)] 1)) t := fun t kq => castTop (ef_rm_ite m a1) kq
  obtain ⟨T120, h120, X120, e120, E120, A120, D120, -, st120⟩ := newO X0 hx hZ hown (own_q hw 106 rfl) (own_q hw 107 rfl) (own_q hw 108 rfl) e0 (g := (mkF m 0 #[.val (.ref a1)] [])) rfl (hb hby d11_0) (by decide) (by decide)
  obtain ⟨b120, g120⟩ : ∃ z, z = h0.size := ⟨_, rfl⟩
  rw [← g120] at A120 D120 st120
  have sz_b120 : h0.size ≤ b120 := Nat.le_trans (Keep.refl h0 []).1 (Nat.le_of_eq g120.symm)
  have gn_b120 : n0 ≤ b120 := Nat.le_trans Z0 sz_b120
  have ne_a1_b120 : a1 ≠ b120 := Nat.ne_of_lt (Nat.lt_of_lt_of_le F_M.lt (Nat.le_of_eq g120.symm))
  have EX120 := own_ext_trans (own_ext_refl h0) E120
  have KP120 := Keep.ext (Keep.refl h0 []) E120
  have F120_this_0 : Fld Z h120 b120 "java/util/ArrayList$Itr" "this$0" "Ljava/util/ArrayList;" .null := D120 (Or.inr (own_q hw 114 rfl)) (ty := (.object "java/util/ArrayList")) (by decide)
  have F120_lastRet : Fld Z h120 b120 "java/util/ArrayList$Itr" "lastRet" "I" (.int (0 : Int32)) := D120 (Or.inl (own_q hw 117 rfl)) (ty := .int) (by decide)
  have F120_expectedModCount : Fld Z h120 b120 "java/util/ArrayList$Itr" "expectedModCount" "I" (.int (0 : Int32)) := D120 (Or.inl (own_q hw 121 rfl)) (ty := .int) (by decide)
  have F120_cursor : Fld Z h120 b120 "java/util/ArrayList$Itr" "cursor" "I" (.int (0 : Int32)) := D120 (Or.inl (own_q hw 132 rfl)) (ty := .int) (by decide)
  have Fx121 := (F_M.ext E120)
  obtain ⟨_, _, ⟨T122, L122, k122, n122⟩, -, X122, ⟨Lc122, hQ122, l122, y122, z122⟩, st122⟩ := X120.specialBack hx (y := (⟨"java/util/ArrayList$Itr", "<init>", "(Ljava/util/ArrayList;)V"⟩ : MethodName)) rfl hown (mvT hZ (own_q hw 109 rfl)) (mvT hZ (own_q hw 110 rfl)) (mvT hZ (own_q hw 112 rfl)) (by decide) (backOf (W := 1) (rm_iti l Z a0 hw [] b120 a1 h120 n0 (Nat.le_trans Z0 EX120.1) A120 F120_this_0 F120_cursor F120_lastRet F120_expectedModCount mc Fx121 ne_a1_b120 gn_b120) hZ (own_q hw 112 rfl) (own_q hw 108 rfl) (by decide) (by decide)) (g := (mkF m 5 #[.val (.ref a1)] [(.ref a1), (.ref b120), (.ref b120)])) rfl (by rw [hml]; rfl) (Steps.refl _) (a := b120) (argsL := [(.ref a1)]) (rest := [(.ref b120)]) (lenOf pd_208 rfl) rfl (by show 2 * 0 + _ ≤ _; exact Nat.le_of_eq rfl) (hb hby d11_5) (fun _ _ => ⟨rfl, e120, (by decide : 1 + 0 ≤ _), (by decide : 4 + 0 ≤ _)⟩)
  dsimp only [Pt.U, Pt.locs, Pt.cells, Pt.slots] at X122 l122 y122 z122 st122 hQ122
  obtain rfl : k122 = 1 := y122; obtain rfl : n122 = 4 := z122
  obtain ⟨rfl, N122q, K122, hP⟩ := hQ122
  have N122 : Fr n0 L122 := by rw [l122]; exact Fr.app N0 N122q
  have e122 : T122.heap = T122.heap := rfl
  have EX122 := own_ext_keep EX120 K122 (allS sz_b120 all0)
  have KP122 := Keep.trans KP120 K122 (allS (Or.inr sz_b120) all0)
  obtain ⟨fs, hr, hrun, hended, hW, hsame⟩ := X122.leave (v := some (.ref b120)) (fun h => by rw [Bd.returns] at h; cases h)
  refine ⟨_, _, pre0 _ ?_, hrun, hended, _, _, rfl, ?_, ⟨_, rfl⟩, hW, hsame.mono (by decide) (by decide)⟩
  · refine st120 _ ?_
    show Steps p.tables e below (T120.setTop (mkF m 3 #[.val (.ref a1)] [(.ref b120)])) _
    refine XS.dup X120.here hx rfl (hb hby d11_3) rfl rfl ?_
    refine XS.aloadN X120.here hx rfl (hb hby d11_4) rfl rfl ?_
    refine st122.trans ?_
    show Steps p.tables e below (T122.setTop (mkF m 8 #[.val (.ref a1)] [(.ref b120)])) _
    exact retOut X122 hx Bd.returns rfl (Or.inr (Or.inr (Or.inr (Or.inr ⟨rfl, rfl, rfl⟩)))) (hb hby d11_8) hr
  · show own_New (fun h b => own_It Z h b a1 (0 : Int32) (-1 : Int32) mc) h0 n0 _ T122.heap _
    exact ⟨b120, rfl, N122, EX122, sz_b120, hP⟩
theorem d13_0 : decode jdk_49_method_2_code 0 = .ok (.aload_n 0, 1) := by decide +kernel
theorem d13_1 : decode jdk_49_method_2_code 1 = .ok (.getfield 25, 3) := by decide +kernel
theorem d13_4 : decode jdk_49_method_2_code 4 = .ok (.aload_n 0, 1) := by decide +kernel
theorem d13_5 : decode jdk_49_method_2_code 5 = .ok (.getfield 1, 3) := by decide +kernel
theorem d13_8 : decode jdk_49_method_2_code 8 = .ok (.getfield 28, 3) := by decide +kernel
theorem d13_11 : decode jdk_49_method_2_code 11 = .ok (.if_icmp .eq 7, 3) := by decide +kernel
theorem d13_18 : decode jdk_49_method_2_code 18 = .ok (.iconst 0, 1) := by decide +kernel
theorem d13_19 : decode jdk_49_method_2_code 19 = .ok (.ireturn, 1) := by decide +kernel
theorem d13_14 : decode jdk_49_method_2_code 14 = .ok (.iconst 1, 1) := by decide +kernel
theorem d13_15 : decode jdk_49_method_2_code 15 = .ok (.goto 4, 3) := by decide +kernel
theorem ef_rm_hn (m : MethodId) (x0 : Addr) : entryFrame m #[(.ref x0)] 1 = mkF m 0 #[.val (.ref x0)] [] := by first | (simp [entryFrame, mkF, argsToLocals, Value.category]; done) | rfl
set_option maxRecDepth 65536 in
set_option maxHeartbeats 40000000 in
theorem rm_hn (l : Launch) (Z : State) (a0 : Array Value) (hw : ∀ d ∈ tables_1, d.before a0 Z = true) (ws : List Jvm.Cond) (a1 : Addr) (h0 : Heap) (n0 : Nat) (Z0 : n0 ≤ h0.size) (ls : Addr) (cu lr mc sz : Int32) (hIt : own_It Z h0 a1 ls cu lr mc) (F_z : Fld Z h0 ls "java/util/ArrayList" "size" "I" (.int sz)) (r : Int32) (hres : (if cu = sz then (0 : Int32) else (1 : Int32)) = r) :
    MetFree l (⟨"java/util/ArrayList$Itr", "hasNext", "()Z"⟩ : MethodName) (head1 (Jvm.Cond.code (⟨"java/util/ArrayList$Itr", "hasNext", "()Z"⟩ : MethodName) jdk_49_method_2_code 1 (some .boolean) :: ws) ({ frames := 0, cells := 0, slots := 0, locals := 0 } : Room)) (fun aQ UQ => aQ = #[(.ref a1)] ∧ Z.Warmed39 UQ.vm ∧ UQ.heap = h0) (fun _ _ _ _ _ => True) (fun _ UQ oQ UR => ∃ vQ LQ, oQ = .returned vQ ∧ own_Pure (some (.int r)) h0 n0 vQ UR.heap LQ ∧ FrameEnd UQ oQ UR LQ ({ frames := 0, cells := 0, slots := 0, locals := 0 } : Room).cells ({ frames := 0, cells := 0, slots := 0, locals := 0 } : Room).slots) := by
  refine MetFree.of_bodySF (plainFor_of_name pn_204) hisR ?_
  intro p e s m args below meth c s₁ Bd hml0 hP hK
  obtain ⟨rfl, hZ, hh⟩ := hP
  have hx := Bd.exec
  have hby := Bd.bytes
  have hml : c.maxLocals = 1 := hml0
  have hown : s.vm.findClass "java/util/ArrayList$Itr" = some m.cls := findClass_of_methodNamed Bd.named
  have hnm := (name_of_methodNamed Bd.named Bd.method).1
  have X0 : Stand p l e ({ frames := 0, cells := 0, slots := 0, locals := 0 } : Room) s m #[(.ref a1)] below meth c s₁ [] 0 0 := Stand.of_body Bd
  have e0 : s₁.heap = h0 := by rw [← hh, Bd.state]; rfl
  have N0 := Fr.nil n0
  have pre0 : ∀ t, Steps p.tables e below (s₁.setTop (mkF m 0 #[.val (.ref a1)] [])) t → Steps p.tables e below (s₁.setTop (entryFrame m #[(.ref a1)] 1)) t := fun t kq => castTop (ef_rm_hn m a1) kq
  obtain ⟨E_a, F_t, F_k, F_l, F_x⟩ := id hIt
  obtain ⟨T123, X123, e123, st123⟩ := getF X0 hx hZ hown (host := "") (Or.inl (own_q hw 131 rfl)) Via.refl e0 F_k (g := (mkF m 1 #[.val (.ref a1)] [(.ref a1)])) rfl rfl (hb hby d13_1)
  obtain ⟨T124, X124, e124, st124⟩ := getF X123 hx hZ hown (host := "") (Or.inl (own_q hw 113 rfl)) Via.refl e123 F_t (g := (mkF m 5 #[.val (.ref a1)] [(.ref a1), (.int cu)])) rfl rfl (hb hby d13_5)
  obtain ⟨T125, X125, e125, st125⟩ := getF X124 hx hZ hown (Or.inr (own_q hw 133 rfl)) Via.refl e124 F_z (g := (mkF m 8 #[.val (.ref a1)] [(.ref ls), (.int cu)])) rfl rfl (hb hby d13_8)
  have ck127 : ∀ t, Steps p.tables e below (T125.setTop (mkF m 11 #[.val (.ref a1)] [(.int sz), (.int cu)])) t → Steps p.tables e below (s₁.setTop (entryFrame m #[(.ref a1)] 1)) t := by
    intro t kt
    refine pre0 _ ?_
    refine XS.aloadN X0.here hx rfl (hb hby d13_0) rfl rfl ?_
    refine st123 _ ?_
    show Steps p.tables e below (T123.setTop (mkF m 4 #[.val (.ref a1)] [(.int cu)])) _
    refine XS.aloadN X123.here hx rfl (hb hby d13_4) rfl rfl ?_
    refine st124 _ ?_
    show Steps p.tables e below (T124.setTop (mkF m 8 #[.val (.ref a1)] [(.ref ls), (.int cu)])) _
    refine st125 _ ?_
    exact kt
  (try clear st125); (try clear st124); (try clear e124); (try clear X124); (try clear T124); (try clear st123); (try clear e123); (try clear X123); (try clear T123)
  by_cases hc11_126 : cu = sz
  · -- pc 11: yes
    obtain ⟨fs, hr, hrun, hended, hW, hsame⟩ := X125.leave (v := some (.int (0 : Int32))) (fun h => by rw [Bd.returns] at h; cases h)
    refine ⟨_, _, ck127 _ ?_, hrun, hended, _, _, rfl, ?_, ⟨_, rfl⟩, hW, hsame.mono (by decide) (by decide)⟩
    · refine XS.icmpYes X125.here hx rfl (pc0 := 11) (pc' := 18) rfl (hb hby d13_11) rfl (teq hc11_126).1 (by decide) (by decide) ?_
      refine XS.iconst X125.here hx rfl (hb hby d13_18) ?_
      exact retN X125 hx (t := .boolean) Bd.returns (by simp) (hb hby d13_19) hr
    · show own_Pure (some (.int r)) h0 n0 _ T125.heap _
      rw [e125]
      exact ⟨by rw [← hres]; simp only [if_pos hc11_126], N0, rfl⟩
  · -- pc 11: no
    obtain ⟨fs, hr, hrun, hended, hW, hsame⟩ := X125.leave (v := some (.int (1 : Int32))) (fun h => by rw [Bd.returns] at h; cases h)
    refine ⟨_, _, ck127 _ ?_, hrun, hended, _, _, rfl, ?_, ⟨_, rfl⟩, hW, hsame.mono (by decide) (by decide)⟩
    · refine XS.icmpNo X125.here hx rfl (hb hby d13_11) rfl (feq hc11_126).1 ?_
      refine XS.iconst X125.here hx rfl (hb hby d13_14) ?_
      refine XS.goto X125.here hx rfl (pc0 := 15) (pc' := 19) rfl (hb hby d13_15) (by decide) (by decide) ?_
      exact retN X125 hx (t := .boolean) Bd.returns (by simp) (hb hby d13_19) hr
    · show own_Pure (some (.int r)) h0 n0 _ T125.heap _
      rw [e125]
      exact ⟨by rw [← hres]; simp only [if_neg hc11_126], N0, rfl⟩
theorem d28_0 : decode jdk_49_method_6_code 0 = .ok (.aload_n 0, 1) := by decide +kernel
theorem d28_1 : decode jdk_49_method_6_code 1 = .ok (.getfield 1, 3) := by decide +kernel
theorem d28_4 : decode jdk_49_method_6_code 4 = .ok (.getfield 17, 3) := by decide +kernel
theorem d28_7 : decode jdk_49_method_6_code 7 = .ok (.aload_n 0, 1) := by decide +kernel
theorem d28_8 : decode jdk_49_method_6_code 8 = .ok (.getfield 22, 3) := by decide +kernel
theorem d28_11 : decode jdk_49_method_6_code 11 = .ok (.if_icmp .eq 11, 3) := by decide +kernel
theorem d28_22 : decode jdk_49_method_6_code 22 = .ok (.return_, 1) := by decide +kernel
theorem ef_rm_cfc (m : MethodId) (x0 : Addr) : entryFrame m #[(.ref x0)] 1 = mkF m 0 #[.val (.ref x0)] [] := by first | (simp [entryFrame, mkF, argsToLocals, Value.category]; done) | rfl
set_option maxRecDepth 65536 in
set_option maxHeartbeats 40000000 in
theorem rm_cfc (l : Launch) (Z : State) (a0 : Array Value) (hw : ∀ d ∈ tables_1, d.before a0 Z = true) (ws : List Jvm.Cond) (a1 : Addr) (h0 : Heap) (n0 : Nat) (Z0 : n0 ≤ h0.size) (ls : Addr) (cu lr mc : Int32) (hIt : own_It Z h0 a1 ls cu lr mc) (F_M : Fld Z h0 ls "java/util/AbstractList" "modCount" "I" (.int mc))  :
    MetFree l (⟨"java/util/ArrayList$Itr", "checkForComodification", "()V"⟩ : MethodName) (head1 (Jvm.Cond.code (⟨"java/util/ArrayList$Itr", "checkForComodification", "()V"⟩ : MethodName) jdk_49_method_6_code 1 none :: ws) ({ frames := 0, cells := 0, slots := 0, locals := 0 } : Room)) (fun aQ UQ => aQ = #[(.ref a1)] ∧ Z.Warmed39 UQ.vm ∧ UQ.heap = h0) (fun _ _ _ _ _ => True) (fun _ UQ oQ UR => ∃ vQ LQ, oQ = .returned vQ ∧ own_Pure none h0 n0 vQ UR.heap LQ ∧ FrameEnd UQ oQ UR LQ ({ frames := 0, cells := 0, slots := 0, locals := 0 } : Room).cells ({ frames := 0, cells := 0, slots := 0, locals := 0 } : Room).slots) := by
  refine MetFree.of_bodySF (plainFor_of_name pn_204) hisR ?_
  intro p e s m args below meth c s₁ Bd hml0 hP hK
  obtain ⟨rfl, hZ, hh⟩ := hP
  have hx := Bd.exec
  have hby := Bd.bytes
  have hml : c.maxLocals = 1 := hml0
  have hown : s.vm.findClass "java/util/ArrayList$Itr" = some m.cls := findClass_of_methodNamed Bd.named
  have hnm := (name_of_methodNamed Bd.named Bd.method).1
  have X0 : Stand p l e ({ frames := 0, cells := 0, slots := 0, locals := 0 } : Room) s m #[(.ref a1)] below meth c s₁ [] 0 0 := Stand.of_body Bd
  have e0 : s₁.heap = h0 := by rw [← hh, Bd.state]; rfl
  have N0 := Fr.nil n0
  have pre0 : ∀ t, Steps p.tables e below (s₁.setTop (mkF m 0 #[.val (.ref a1)] [])) t → Steps p.tables e below (s₁.setTop (entryFrame m #[(.ref a1)] 1)) t := fun t kq => castTop (ef_rm_cfc m a1) kq
  obtain ⟨E_a, F_t, F_k, F_l, F_x⟩ := id hIt
  obtain ⟨T128, X128, e128, st128⟩ := getF X0 hx hZ hown (host := "") (Or.inl (own_q hw 113 rfl)) Via.refl e0 F_t (g := (mkF m 1 #[.val (.ref a1)] [(.ref a1)])) rfl rfl (hb hby d28_1)
  obtain ⟨T129, X129, e129, st129⟩ := getF X128 hx hZ hown (host := "") (Or.inl (own_q hw 118 rfl)) (Via.of (own_q hw 119 rfl)) e128 F_M (g := (mkF m 4 #[.val (.ref a1)] [(.ref ls)])) rfl rfl (hb hby d28_4)
  obtain ⟨T130, X130, e130, st130⟩ := getF X129 hx hZ hown (host := "") (Or.inl (own_q hw 120 rfl)) Via.refl e129 F_x (g := (mkF m 8 #[.val (.ref a1)] [(.ref a1), (.int mc)])) rfl rfl (hb hby d28_8)
  obtain ⟨fs, hr, hrun, hended, hW, hsame⟩ := X130.leave (v := none) (fun _ => rfl)
  refine ⟨_, _, pre0 _ ?_, hrun, hended, _, _, rfl, ?_, ⟨_, rfl⟩, hW, hsame.mono (by decide) (by decide)⟩
  · refine XS.aloadN X0.here hx rfl (hb hby d28_0) rfl rfl ?_
    refine st128 _ ?_
    show Steps p.tables e below (T128.setTop (mkF m 4 #[.val (.ref a1)] [(.ref ls)])) _
    refine st129 _ ?_
    show Steps p.tables e below (T129.setTop (mkF m 7 #[.val (.ref a1)] [(.int mc)])) _
    refine XS.aloadN X129.here hx rfl (hb hby d28_7) rfl rfl ?_
    refine st130 _ ?_
    show Steps p.tables e below (T130.setTop (mkF m 11 #[.val (.ref a1)] [(.int mc), (.int mc)])) _
    refine XS.icmpYes X130.here hx rfl (pc0 := 11) (pc' := 22) rfl (hb hby d28_11) rfl (teq (rfl : mc = mc)).1 (by decide) (by decide) ?_
    exact X130.returnOut hx Bd.returns (hb hby d28_22) hr
  · show own_Pure none h0 n0 _ T130.heap _
    rw [e130]
    exact ⟨rfl, N0, rfl⟩
theorem d27_0 : decode jdk_49_method_3_code 0 = .ok (.aload_n 0, 1) := by decide +kernel
theorem d27_1 : decode jdk_49_method_3_code 1 = .ok (.invokevirtual 31, 3) := by decide +kernel
theorem d27_4 : decode jdk_49_method_3_code 4 = .ok (.aload_n 0, 1) := by decide +kernel
theorem d27_5 : decode jdk_49_method_3_code 5 = .ok (.getfield 25, 3) := by decide +kernel
theorem d27_8 : decode jdk_49_method_3_code 8 = .ok (.istore_n 1, 1) := by decide +kernel
theorem d27_9 : decode jdk_49_method_3_code 9 = .ok (.iload_n 1, 1) := by decide +kernel
theorem d27_10 : decode jdk_49_method_3_code 10 = .ok (.aload_n 0, 1) := by decide +kernel
theorem d27_11 : decode jdk_49_method_3_code 11 = .ok (.getfield 1, 3) := by decide +kernel
theorem d27_14 : decode jdk_49_method_3_code 14 = .ok (.getfield 28, 3) := by decide +kernel
theorem d27_17 : decode jdk_49_method_3_code 17 = .ok (.if_icmp .lt 11, 3) := by decide +kernel
theorem d27_28 : decode jdk_49_method_3_code 28 = .ok (.aload_n 0, 1) := by decide +kernel
theorem d27_29 : decode jdk_49_method_3_code 29 = .ok (.getfield 1, 3) := by decide +kernel
theorem d27_32 : decode jdk_49_method_3_code 32 = .ok (.getfield 37, 3) := by decide +kernel
theorem d27_35 : decode jdk_49_method_3_code 35 = .ok (.astore_n 2, 1) := by decide +kernel
theorem d27_36 : decode jdk_49_method_3_code 36 = .ok (.iload_n 1, 1) := by decide +kernel
theorem d27_37 : decode jdk_49_method_3_code 37 = .ok (.aload_n 2, 1) := by decide +kernel
theorem d27_38 : decode jdk_49_method_3_code 38 = .ok (.arraylength, 1) := by decide +kernel
theorem d27_39 : decode jdk_49_method_3_code 39 = .ok (.if_icmp .lt 11, 3) := by decide +kernel
theorem d27_50 : decode jdk_49_method_3_code 50 = .ok (.aload_n 0, 1) := by decide +kernel
theorem d27_51 : decode jdk_49_method_3_code 51 = .ok (.iload_n 1, 1) := by decide +kernel
theorem d27_52 : decode jdk_49_method_3_code 52 = .ok (.iconst 1, 1) := by decide +kernel
theorem d27_53 : decode jdk_49_method_3_code 53 = .ok (.iadd, 1) := by decide +kernel
theorem d27_54 : decode jdk_49_method_3_code 54 = .ok (.putfield 25, 3) := by decide +kernel
theorem d27_57 : decode jdk_49_method_3_code 57 = .ok (.aload_n 2, 1) := by decide +kernel
theorem d27_58 : decode jdk_49_method_3_code 58 = .ok (.aload_n 0, 1) := by decide +kernel
theorem d27_59 : decode jdk_49_method_3_code 59 = .ok (.iload_n 1, 1) := by decide +kernel
theorem d27_60 : decode jdk_49_method_3_code 60 = .ok (.dup_x1, 1) := by decide +kernel
theorem d27_61 : decode jdk_49_method_3_code 61 = .ok (.putfield 13, 3) := by decide +kernel
theorem d27_64 : decode jdk_49_method_3_code 64 = .ok (.aaload, 1) := by decide +kernel
theorem d27_65 : decode jdk_49_method_3_code 65 = .ok (.areturn, 1) := by decide +kernel
theorem ef_rm_nx_0_1 (m : MethodId) (x0 : Addr) : entryFrame m #[(.ref x0)] 3 = mkF m 0 #[.val (.ref x0), .unset, .unset] [] := by first | (simp [entryFrame, mkF, argsToLocals, Value.category]; done) | rfl
set_option maxRecDepth 65536 in
set_option maxHeartbeats 40000000 in
theorem rm_nx_0_1 (l : Launch) (Z : State) (a0 : Array Value) (hw : ∀ d ∈ tables_1, d.before a0 Z = true) (ws : List Jvm.Cond) (a1 : Addr) (h0 : Heap) (n0 : Nat) (Z0 : n0 ≤ h0.size) (ls ed x0 : Addr) (kE : ClassId) (lr mc : Int32) (hIt : own_It Z h0 a1 ls (0 : Int32) lr mc) (hAL : own_AL Z h0 ls (.ref ed) (1 : Int32) mc) (A_E : Arv Z h0 ed kE (.object "java/lang/Object") (10 : Int32) [(.ref x0), .null, .null, .null, .null, .null, .null, .null, .null, .null] .null) (nl : ls ≠ a1) (nd : ed ≠ a1) (gn_a : n0 ≤ a1) :
    MetFree l (⟨"java/util/ArrayList$Itr", "next", "()Ljava/lang/Object;"⟩ : MethodName) (head1 (Jvm.Cond.code (⟨"java/util/ArrayList$Itr", "next", "()Ljava/lang/Object;"⟩ : MethodName) jdk_49_method_3_code 3 (some (.object "java/lang/Object")) :: ws) ({ frames := 1, cells := 0, slots := 0, locals := 12 } : Room)) (fun aQ UQ => aQ = #[(.ref a1)] ∧ Z.Warmed39 UQ.vm ∧ UQ.heap = h0) (fun _ _ _ _ _ => True) (fun _ UQ oQ UR => ∃ vQ LQ, oQ = .returned vQ ∧ own_Do (some (.ref x0)) [a1] (fun h => own_It Z h a1 ls (1 : Int32) (0 : Int32) mc) h0 n0 vQ UR.heap LQ ∧ FrameEnd UQ oQ UR LQ ({ frames := 1, cells := 0, slots := 0, locals := 12 } : Room).cells ({ frames := 1, cells := 0, slots := 0, locals := 12 } : Room).slots) := by
  refine MetFree.of_bodySF (plainFor_of_name pn_204) hisR ?_
  intro p e s m args below meth c s₁ Bd hml0 hP hK
  obtain ⟨rfl, hZ, hh⟩ := hP
  have hx := Bd.exec
  have hby := Bd.bytes
  have hml : c.maxLocals = 3 := hml0
  have hown : s.vm.findClass "java/util/ArrayList$Itr" = some m.cls := findClass_of_methodNamed Bd.named
  have hnm := (name_of_methodNamed Bd.named Bd.method).1
  have X0 : Stand p l e ({ frames := 1, cells := 0, slots := 0, locals := 12 } : Room) s m #[(.ref a1)] below meth c s₁ [] 0 0 := Stand.of_body Bd
  have e0 : s₁.heap = h0 := by rw [← hh, Bd.state]; rfl
  have N0 := Fr.nil n0
  have pre0 : ∀ t, Steps p.tables e below (s₁.setTop (mkF m 0 #[.val (.ref a1), .unset, .unset] [])) t → Steps p.tables e below (s₁.setTop (entryFrame m #[(.ref a1)] 3)) t := fun t kq => castTop (ef_rm_nx_0_1 m a1) kq
  obtain ⟨E_a, F_t, F_k, F_l, F_x⟩ := id hIt
  obtain ⟨E_l, F_e, F_s, F_m⟩ := id hAL
  obtain ⟨cq131, kq131, q131a, q131b, q131c⟩ := isOf hZ e0 (E_a)
  obtain ⟨_, _, ⟨T131, L131, k131, n131⟩, -, X131, ⟨Lc131, hQ131, l131, y131, z131⟩, st131⟩ := X0.virtualBack hx (y := (⟨"java/util/ArrayList$Itr", "checkForComodification", "()V"⟩ : MethodName)) (z := (⟨"java/util/ArrayList$Itr", "checkForComodification", "()V"⟩ : MethodName)) hown (mvT hZ (own_q hw 228 rfl)) (mvT hZ (own_q hw 229 rfl)) (notFace_of_selects (args := #[]) (mvT hZ (own_q hw 231 rfl))) (mvT hZ (own_q hw 231 rfl)) (mvT hZ (own_q hw 230 rfl)) (by decide) (backOf (W := 0) (rm_cfc l Z a0 hw [] a1 h0 n0 Z0 ls _ lr mc hIt F_m) hZ (own_q hw 232 rfl) (own_q hw 108 rfl) (by decide) (by decide)) q131a q131c (g := (mkF m 1 #[.val (.ref a1), .unset, .unset] [(.ref a1)])) rfl (by rw [hml]; rfl) (Steps.refl _) (argsL := []) (rest := []) (lenOf pd_13 rfl) rfl (by show 2 * 0 + _ ≤ _; exact Nat.le_of_eq rfl) (hb hby d27_1) (fun _ _ => ⟨rfl, e0, (by decide : 0 + 0 ≤ _), (by decide : 0 + 0 ≤ _)⟩)
  dsimp only [Pt.U, Pt.locs, Pt.cells, Pt.slots] at X131 l131 y131 z131 st131 hQ131
  obtain rfl : k131 = 0 := y131; obtain rfl : n131 = 0 := z131
  obtain ⟨rfl, N131q, e131⟩ := hQ131
  have N131 : Fr n0 L131 := by rw [l131]; exact Fr.app N0 N131q
  obtain ⟨T132, X132, e132, st132⟩ := getF X131 hx hZ hown (host := "") (Or.inl (own_q hw 131 rfl)) Via.refl e131 F_k (g := (mkF m 5 #[.val (.ref a1), .unset, .unset] [(.ref a1)])) rfl rfl (hb hby d27_5)
  obtain ⟨T133, X133, e133, st133⟩ := getF X132 hx hZ hown (host := "") (Or.inl (own_q hw 113 rfl)) Via.refl e132 F_t (g := (mkF m 11 #[.val (.ref a1), .val (.int (0 : Int32)), .unset] [(.ref a1), (.int (0 : Int32))])) rfl rfl (hb hby d27_11)
  obtain ⟨T134, X134, e134, st134⟩ := getF X133 hx hZ hown (Or.inr (own_q hw 133 rfl)) Via.refl e133 F_s (g := (mkF m 14 #[.val (.ref a1), .val (.int (0 : Int32)), .unset] [(.ref ls), (.int (0 : Int32))])) rfl rfl (hb hby d27_14)
  obtain ⟨T135, X135, e135, st135⟩ := getF X134 hx hZ hown (host := "") (Or.inl (own_q hw 113 rfl)) Via.refl e134 F_t (g := (mkF m 29 #[.val (.ref a1), .val (.int (0 : Int32)), .unset] [(.ref a1)])) rfl rfl (hb hby d27_29)
  obtain ⟨T136, X136, e136, st136⟩ := getF X135 hx hZ hown (host := "") (Or.inl (own_q hw 233 rfl)) Via.refl e135 F_e (g := (mkF m 32 #[.val (.ref a1), .val (.int (0 : Int32)), .unset] [(.ref ls)])) rfl rfl (hb hby d27_32)
  have Vc137 := A_E
  obtain ⟨cl137, Ar137, q137, S137, N137_, H137_, G137⟩ := Vc137
  obtain ⟨T138, h138, X138, e138, W138, st138⟩ := putF X136 hx hZ hown (host := "") (Or.inl (own_q hw 131 rfl)) Via.refl e136 F_k E_a (Or.inl (own_q hw 132 rfl)) (own_q hw 107 rfl) (ty := .int) (by decide) rfl rfl (g := (mkF m 54 #[.val (.ref a1), .val (.int (0 : Int32)), .val (.ref ed)] [(.int (1 : Int32)), (.ref a1)])) rfl rfl (hb hby d27_54)
  have KP138 := Keep.wr (Keep.refl h0 [a1]) W138 (Or.inl (List.mem_of_getElem? (i := 0) rfl))
  have Fw138 := F_k.same W138
  have N138 := Fr.snoc X138 N131 gn_a
  have Fx139 := (E_a.wr W138)
  have Fx140 := (F_l.other W138 (Or.inr (slot_ne (Or.inl (own_q hw 117 rfl)) (Or.inl (own_q hw 132 rfl)) (by decide) (t := .int) (t' := .int) (by decide) (by decide))))
  obtain ⟨T141, h141, X141, e141, W141, st141⟩ := putF X138 hx hZ hown (host := "") (Or.inl (own_q hw 116 rfl)) Via.refl e138 Fx140 Fx139 (Or.inl (own_q hw 117 rfl)) (own_q hw 107 rfl) (ty := .int) (by decide) rfl rfl (g := (mkF m 61 #[.val (.ref a1), .val (.int (0 : Int32)), .val (.ref ed)] [(.int (0 : Int32)), (.ref a1), (.int (0 : Int32)), (.ref ed)])) rfl rfl (hb hby d27_61)
  have KP141 := Keep.wr KP138 W141 (Or.inl (List.mem_of_getElem? (i := 0) rfl))
  have Fw141 := Fx140.same W141
  have N141 := Fr.snoc X141 N138 gn_a
  have Fx142 := ((A_E.other W138 nd).other W141 nd)
  have Vc143 := Fx142
  obtain ⟨cl143, Ar143, q143, S143, N143_, H143_, G143⟩ := Vc143
  have hin143 : ¬ ((0 : Int32) < 0 ∨ cl143.slots.size ≤ ((0 : Int32)).toNatClampNeg) := inb_of S143 ⟨by decide, by decide⟩
  have hat143 : cl143.slots[((0 : Int32)).toNatClampNeg]? = some (.ref x0) := Has.at H143_ hin143 rfl
  have Fx144 := (Fx139.wr W141)
  have Fx145 := ((F_t.other W138 (Or.inr (slot_ne (Or.inr (own_q hw 114 rfl)) (Or.inl (own_q hw 132 rfl)) (by decide) (t := (.object "java/util/ArrayList")) (t' := .int) (by decide) (by decide)))).other W141 (Or.inr (slot_ne (Or.inr (own_q hw 114 rfl)) (Or.inl (own_q hw 117 rfl)) (by decide) (t := (.object "java/util/ArrayList")) (t' := .int) (by decide) (by decide))))
  have Fx146 := (Fw138.other W141 (Or.inr (slot_ne (Or.inl (own_q hw 132 rfl)) (Or.inl (own_q hw 117 rfl)) (by decide) (t := .int) (t' := .int) (by decide) (by decide))))
  have Fx147 := ((F_x.other W138 (Or.inr (slot_ne (Or.inl (own_q hw 121 rfl)) (Or.inl (own_q hw 132 rfl)) (by decide) (t := .int) (t' := .int) (by decide) (by decide)))).other W141 (Or.inr (slot_ne (Or.inl (own_q hw 121 rfl)) (Or.inl (own_q hw 117 rfl)) (by decide) (t := .int) (t' := .int) (by decide) (by decide))))
  obtain ⟨fs, hr, hrun, hended, hW, hsame⟩ := X141.leave (v := some (.ref x0)) (fun h => by rw [Bd.returns] at h; cases h)
  refine ⟨_, _, pre0 _ ?_, hrun, hended, _, _, rfl, ?_, ⟨_, rfl⟩, hW, hsame.mono (by decide) (by decide)⟩
  · refine XS.aloadN X0.here hx rfl (hb hby d27_0) rfl rfl ?_
    refine st131.trans ?_
    show Steps p.tables e below (T131.setTop (mkF m 4 #[.val (.ref a1), .unset, .unset] [])) _
    refine XS.aloadN X131.here hx rfl (hb hby d27_4) rfl rfl ?_
    refine st132 _ ?_
    show Steps p.tables e below (T132.setTop (mkF m 8 #[.val (.ref a1), .unset, .unset] [(.int (0 : Int32))])) _
    refine XS.istoreN X132.here hx rfl (hb hby d27_8) rfl (l' := #[.val (.ref a1), .val (.int (0 : Int32)), .unset]) rfl ?_
    refine XS.iloadN X132.here hx rfl (hb hby d27_9) rfl ?_
    refine XS.aloadN X132.here hx rfl (hb hby d27_10) rfl rfl ?_
    refine st133 _ ?_
    show Steps p.tables e below (T133.setTop (mkF m 14 #[.val (.ref a1), .val (.int (0 : Int32)), .unset] [(.ref ls), (.int (0 : Int32))])) _
    refine st134 _ ?_
    show Steps p.tables e below (T134.setTop (mkF m 17 #[.val (.ref a1), .val (.int (0 : Int32)), .unset] [(.int (1 : Int32)), (.int (0 : Int32))])) _
    refine XS.icmpYes X134.here hx rfl (pc0 := 17) (pc' := 28) rfl (hb hby d27_17) rfl (tlt (by decide : (0 : Int32) < (1 : Int32))).1 (by decide) (by decide) ?_
    refine XS.aloadN X134.here hx rfl (hb hby d27_28) rfl rfl ?_
    refine st135 _ ?_
    show Steps p.tables e below (T135.setTop (mkF m 32 #[.val (.ref a1), .val (.int (0 : Int32)), .unset] [(.ref ls)])) _
    refine st136 _ ?_
    show Steps p.tables e below (T136.setTop (mkF m 35 #[.val (.ref a1), .val (.int (0 : Int32)), .unset] [(.ref ed)])) _
    refine XS.astoreN X136.here hx rfl (hb hby d27_35) rfl rfl (l' := #[.val (.ref a1), .val (.int (0 : Int32)), .val (.ref ed)]) rfl ?_
    refine XS.iloadN X136.here hx rfl (hb hby d27_36) rfl ?_
    refine XS.aloadN X136.here hx rfl (hb hby d27_37) rfl rfl ?_
    refine X136.arraylength hx (by rw [e136]; exact Ar137.1) (State.isArrayOf_alike hZ.alike Ar137.2.1) (g := (mkF m 38 #[.val (.ref a1), .val (.int (0 : Int32)), .val (.ref ed)] [(.ref ed), (.int (0 : Int32))])) rfl rfl (hb hby d27_38) _ ?_
    rw [len_of S137 N137_]
    show Steps p.tables e below (T136.setTop (mkF m 39 #[.val (.ref a1), .val (.int (0 : Int32)), .val (.ref ed)] [(.int (10 : Int32)), (.int (0 : Int32))])) _
    refine XS.icmpYes X136.here hx rfl (pc0 := 39) (pc' := 50) rfl (hb hby d27_39) rfl (tlt (by decide : (0 : Int32) < (10 : Int32))).1 (by decide) (by decide) ?_
    refine XS.aloadN X136.here hx rfl (hb hby d27_50) rfl rfl ?_
    refine XS.iloadN X136.here hx rfl (hb hby d27_51) rfl ?_
    refine XS.iconst X136.here hx rfl (hb hby d27_52) ?_
    refine XS.iadd X136.here hx rfl (hb hby d27_53) rfl ?_
    refine st138 _ ?_
    show Steps p.tables e below (T138.setTop (mkF m 57 #[.val (.ref a1), .val (.int (0 : Int32)), .val (.ref ed)] [])) _
    refine XS.aloadN X138.here hx rfl (hb hby d27_57) rfl rfl ?_
    refine XS.aloadN X138.here hx rfl (hb hby d27_58) rfl rfl ?_
    refine XS.iloadN X138.here hx rfl (hb hby d27_59) rfl ?_
    refine XS.dupX1 X138.here hx rfl (hb hby d27_60) rfl rfl rfl ?_
    refine st141 _ ?_
    show Steps p.tables e below (T141.setTop (mkF m 64 #[.val (.ref a1), .val (.int (0 : Int32)), .val (.ref ed)] [(.int (0 : Int32)), (.ref ed)])) _
    refine X141.aaload hx (j := (0 : Int32)) (v := (.ref x0)) (by rw [e141]; exact Ar143.1) (State.isArrayOf_alike hZ.alike Ar143.2.1) rfl Ar143.2.2 hin143 hat143 (g := (mkF m 64 #[.val (.ref a1), .val (.int (0 : Int32)), .val (.ref ed)] [(.int (0 : Int32)), (.ref ed)])) rfl rfl (hb hby d27_64) _ ?_
    show Steps p.tables e below (T141.setTop (mkF m 65 #[.val (.ref a1), .val (.int (0 : Int32)), .val (.ref ed)] [(.ref x0)])) _
    exact retOut X141 hx Bd.returns rfl (Or.inr (Or.inr (Or.inr (Or.inr ⟨rfl, rfl, rfl⟩)))) (hb hby d27_65) hr
  · show own_Do (some (.ref x0)) [a1] (fun h => own_It Z h a1 ls (1 : Int32) (0 : Int32) mc) h0 n0 _ T141.heap _
    rw [e141]
    exact ⟨rfl, N141, KP141, ⟨Fx144, Fx145, Fx146, Fw141, Fx147⟩⟩
theorem ef_rm_nx_0_2 (m : MethodId) (x0 : Addr) : entryFrame m #[(.ref x0)] 3 = mkF m 0 #[.val (.ref x0), .unset, .unset] [] := by first | (simp [entryFrame, mkF, argsToLocals, Value.category]; done) | rfl
set_option maxRecDepth 65536 in
set_option maxHeartbeats 40000000 in
theorem rm_nx_0_2 (l : Launch) (Z : State) (a0 : Array Value) (hw : ∀ d ∈ tables_1, d.before a0 Z = true) (ws : List Jvm.Cond) (a1 : Addr) (h0 : Heap) (n0 : Nat) (Z0 : n0 ≤ h0.size) (ls ed x0 x1 : Addr) (kE : ClassId) (lr mc : Int32) (hIt : own_It Z h0 a1 ls (0 : Int32) lr mc) (hAL : own_AL Z h0 ls (.ref ed) (2 : Int32) mc) (A_E : Arv Z h0 ed kE (.object "java/lang/Object") (10 : Int32) [(.ref x0), (.ref x1), .null, .null, .null, .null, .null, .null, .null, .null] .null) (nl : ls ≠ a1) (nd : ed ≠ a1) (gn_a : n0 ≤ a1) :
    MetFree l (⟨"java/util/ArrayList$Itr", "next", "()Ljava/lang/Object;"⟩ : MethodName) (head1 (Jvm.Cond.code (⟨"java/util/ArrayList$Itr", "next", "()Ljava/lang/Object;"⟩ : MethodName) jdk_49_method_3_code 3 (some (.object "java/lang/Object")) :: ws) ({ frames := 1, cells := 0, slots := 0, locals := 12 } : Room)) (fun aQ UQ => aQ = #[(.ref a1)] ∧ Z.Warmed39 UQ.vm ∧ UQ.heap = h0) (fun _ _ _ _ _ => True) (fun _ UQ oQ UR => ∃ vQ LQ, oQ = .returned vQ ∧ own_Do (some (.ref x0)) [a1] (fun h => own_It Z h a1 ls (1 : Int32) (0 : Int32) mc) h0 n0 vQ UR.heap LQ ∧ FrameEnd UQ oQ UR LQ ({ frames := 1, cells := 0, slots := 0, locals := 12 } : Room).cells ({ frames := 1, cells := 0, slots := 0, locals := 12 } : Room).slots) := by
  refine MetFree.of_bodySF (plainFor_of_name pn_204) hisR ?_
  intro p e s m args below meth c s₁ Bd hml0 hP hK
  obtain ⟨rfl, hZ, hh⟩ := hP
  have hx := Bd.exec
  have hby := Bd.bytes
  have hml : c.maxLocals = 3 := hml0
  have hown : s.vm.findClass "java/util/ArrayList$Itr" = some m.cls := findClass_of_methodNamed Bd.named
  have hnm := (name_of_methodNamed Bd.named Bd.method).1
  have X0 : Stand p l e ({ frames := 1, cells := 0, slots := 0, locals := 12 } : Room) s m #[(.ref a1)] below meth c s₁ [] 0 0 := Stand.of_body Bd
  have e0 : s₁.heap = h0 := by rw [← hh, Bd.state]; rfl
  have N0 := Fr.nil n0
  have pre0 : ∀ t, Steps p.tables e below (s₁.setTop (mkF m 0 #[.val (.ref a1), .unset, .unset] [])) t → Steps p.tables e below (s₁.setTop (entryFrame m #[(.ref a1)] 3)) t := fun t kq => castTop (ef_rm_nx_0_2 m a1) kq
  obtain ⟨E_a, F_t, F_k, F_l, F_x⟩ := id hIt
  obtain ⟨E_l, F_e, F_s, F_m⟩ := id hAL
  obtain ⟨cq148, kq148, q148a, q148b, q148c⟩ := isOf hZ e0 (E_a)
  obtain ⟨_, _, ⟨T148, L148, k148, n148⟩, -, X148, ⟨Lc148, hQ148, l148, y148, z148⟩, st148⟩ := X0.virtualBack hx (y := (⟨"java/util/ArrayList$Itr", "checkForComodification", "()V"⟩ : MethodName)) (z := (⟨"java/util/ArrayList$Itr", "checkForComodification", "()V"⟩ : MethodName)) hown (mvT hZ (own_q hw 228 rfl)) (mvT hZ (own_q hw 229 rfl)) (notFace_of_selects (args := #[]) (mvT hZ (own_q hw 231 rfl))) (mvT hZ (own_q hw 231 rfl)) (mvT hZ (own_q hw 230 rfl)) (by decide) (backOf (W := 0) (rm_cfc l Z a0 hw [] a1 h0 n0 Z0 ls _ lr mc hIt F_m) hZ (own_q hw 232 rfl) (own_q hw 108 rfl) (by decide) (by decide)) q148a q148c (g := (mkF m 1 #[.val (.ref a1), .unset, .unset] [(.ref a1)])) rfl (by rw [hml]; rfl) (Steps.refl _) (argsL := []) (rest := []) (lenOf pd_13 rfl) rfl (by show 2 * 0 + _ ≤ _; exact Nat.le_of_eq rfl) (hb hby d27_1) (fun _ _ => ⟨rfl, e0, (by decide : 0 + 0 ≤ _), (by decide : 0 + 0 ≤ _)⟩)
  dsimp only [Pt.U, Pt.locs, Pt.cells, Pt.slots] at X148 l148 y148 z148 st148 hQ148
  obtain rfl : k148 = 0 := y148; obtain rfl : n148 = 0 := z148
  obtain ⟨rfl, N148q, e148⟩ := hQ148
  have N148 : Fr n0 L148 := by rw [l148]; exact Fr.app N0 N148q
  obtain ⟨T149, X149, e149, st149⟩ := getF X148 hx hZ hown (host := "") (Or.inl (own_q hw 131 rfl)) Via.refl e148 F_k (g := (mkF m 5 #[.val (.ref a1), .unset, .unset] [(.ref a1)])) rfl rfl (hb hby d27_5)
  obtain ⟨T150, X150, e150, st150⟩ := getF X149 hx hZ hown (host := "") (Or.inl (own_q hw 113 rfl)) Via.refl e149 F_t (g := (mkF m 11 #[.val (.ref a1), .val (.int (0 : Int32)), .unset] [(.ref a1), (.int (0 : Int32))])) rfl rfl (hb hby d27_11)
  obtain ⟨T151, X151, e151, st151⟩ := getF X150 hx hZ hown (Or.inr (own_q hw 133 rfl)) Via.refl e150 F_s (g := (mkF m 14 #[.val (.ref a1), .val (.int (0 : Int32)), .unset] [(.ref ls), (.int (0 : Int32))])) rfl rfl (hb hby d27_14)
  obtain ⟨T152, X152, e152, st152⟩ := getF X151 hx hZ hown (host := "") (Or.inl (own_q hw 113 rfl)) Via.refl e151 F_t (g := (mkF m 29 #[.val (.ref a1), .val (.int (0 : Int32)), .unset] [(.ref a1)])) rfl rfl (hb hby d27_29)
  obtain ⟨T153, X153, e153, st153⟩ := getF X152 hx hZ hown (host := "") (Or.inl (own_q hw 233 rfl)) Via.refl e152 F_e (g := (mkF m 32 #[.val (.ref a1), .val (.int (0 : Int32)), .unset] [(.ref ls)])) rfl rfl (hb hby d27_32)
  have Vc154 := A_E
  obtain ⟨cl154, Ar154, q154, S154, N154_, H154_, G154⟩ := Vc154
  obtain ⟨T155, h155, X155, e155, W155, st155⟩ := putF X153 hx hZ hown (host := "") (Or.inl (own_q hw 131 rfl)) Via.refl e153 F_k E_a (Or.inl (own_q hw 132 rfl)) (own_q hw 107 rfl) (ty := .int) (by decide) rfl rfl (g := (mkF m 54 #[.val (.ref a1), .val (.int (0 : Int32)), .val (.ref ed)] [(.int (1 : Int32)), (.ref a1)])) rfl rfl (hb hby d27_54)
  have KP155 := Keep.wr (Keep.refl h0 [a1]) W155 (Or.inl (List.mem_of_getElem? (i := 0) rfl))
  have Fw155 := F_k.same W155
  have N155 := Fr.snoc X155 N148 gn_a
  have Fx156 := (E_a.wr W155)
  have Fx157 := (F_l.other W155 (Or.inr (slot_ne (Or.inl (own_q hw 117 rfl)) (Or.inl (own_q hw 132 rfl)) (by decide) (t := .int) (t' := .int) (by decide) (by decide))))
  obtain ⟨T158, h158, X158, e158, W158, st158⟩ := putF X155 hx hZ hown (host := "") (Or.inl (own_q hw 116 rfl)) Via.refl e155 Fx157 Fx156 (Or.inl (own_q hw 117 rfl)) (own_q hw 107 rfl) (ty := .int) (by decide) rfl rfl (g := (mkF m 61 #[.val (.ref a1), .val (.int (0 : Int32)), .val (.ref ed)] [(.int (0 : Int32)), (.ref a1), (.int (0 : Int32)), (.ref ed)])) rfl rfl (hb hby d27_61)
  have KP158 := Keep.wr KP155 W158 (Or.inl (List.mem_of_getElem? (i := 0) rfl))
  have Fw158 := Fx157.same W158
  have N158 := Fr.snoc X158 N155 gn_a
  have Fx159 := ((A_E.other W155 nd).other W158 nd)
  have Vc160 := Fx159
  obtain ⟨cl160, Ar160, q160, S160, N160_, H160_, G160⟩ := Vc160
  have hin160 : ¬ ((0 : Int32) < 0 ∨ cl160.slots.size ≤ ((0 : Int32)).toNatClampNeg) := inb_of S160 ⟨by decide, by decide⟩
  have hat160 : cl160.slots[((0 : Int32)).toNatClampNeg]? = some (.ref x0) := Has.at H160_ hin160 rfl
  have Fx161 := (Fx156.wr W158)
  have Fx162 := ((F_t.other W155 (Or.inr (slot_ne (Or.inr (own_q hw 114 rfl)) (Or.inl (own_q hw 132 rfl)) (by decide) (t := (.object "java/util/ArrayList")) (t' := .int) (by decide) (by decide)))).other W158 (Or.inr (slot_ne (Or.inr (own_q hw 114 rfl)) (Or.inl (own_q hw 117 rfl)) (by decide) (t := (.object "java/util/ArrayList")) (t' := .int) (by decide) (by decide))))
  have Fx163 := (Fw155.other W158 (Or.inr (slot_ne (Or.inl (own_q hw 132 rfl)) (Or.inl (own_q hw 117 rfl)) (by decide) (t := .int) (t' := .int) (by decide) (by decide))))
  have Fx164 := ((F_x.other W155 (Or.inr (slot_ne (Or.inl (own_q hw 121 rfl)) (Or.inl (own_q hw 132 rfl)) (by decide) (t := .int) (t' := .int) (by decide) (by decide)))).other W158 (Or.inr (slot_ne (Or.inl (own_q hw 121 rfl)) (Or.inl (own_q hw 117 rfl)) (by decide) (t := .int) (t' := .int) (by decide) (by decide))))
  obtain ⟨fs, hr, hrun, hended, hW, hsame⟩ := X158.leave (v := some (.ref x0)) (fun h => by rw [Bd.returns] at h; cases h)
  refine ⟨_, _, pre0 _ ?_, hrun, hended, _, _, rfl, ?_, ⟨_, rfl⟩, hW, hsame.mono (by decide) (by decide)⟩
  · refine XS.aloadN X0.here hx rfl (hb hby d27_0) rfl rfl ?_
    refine st148.trans ?_
    show Steps p.tables e below (T148.setTop (mkF m 4 #[.val (.ref a1), .unset, .unset] [])) _
    refine XS.aloadN X148.here hx rfl (hb hby d27_4) rfl rfl ?_
    refine st149 _ ?_
    show Steps p.tables e below (T149.setTop (mkF m 8 #[.val (.ref a1), .unset, .unset] [(.int (0 : Int32))])) _
    refine XS.istoreN X149.here hx rfl (hb hby d27_8) rfl (l' := #[.val (.ref a1), .val (.int (0 : Int32)), .unset]) rfl ?_
    refine XS.iloadN X149.here hx rfl (hb hby d27_9) rfl ?_
    refine XS.aloadN X149.here hx rfl (hb hby d27_10) rfl rfl ?_
    refine st150 _ ?_
    show Steps p.tables e below (T150.setTop (mkF m 14 #[.val (.ref a1), .val (.int (0 : Int32)), .unset] [(.ref ls), (.int (0 : Int32))])) _
    refine st151 _ ?_
    show Steps p.tables e below (T151.setTop (mkF m 17 #[.val (.ref a1), .val (.int (0 : Int32)), .unset] [(.int (2 : Int32)), (.int (0 : Int32))])) _
    refine XS.icmpYes X151.here hx rfl (pc0 := 17) (pc' := 28) rfl (hb hby d27_17) rfl (tlt (by decide : (0 : Int32) < (2 : Int32))).1 (by decide) (by decide) ?_
    refine XS.aloadN X151.here hx rfl (hb hby d27_28) rfl rfl ?_
    refine st152 _ ?_
    show Steps p.tables e below (T152.setTop (mkF m 32 #[.val (.ref a1), .val (.int (0 : Int32)), .unset] [(.ref ls)])) _
    refine st153 _ ?_
    show Steps p.tables e below (T153.setTop (mkF m 35 #[.val (.ref a1), .val (.int (0 : Int32)), .unset] [(.ref ed)])) _
    refine XS.astoreN X153.here hx rfl (hb hby d27_35) rfl rfl (l' := #[.val (.ref a1), .val (.int (0 : Int32)), .val (.ref ed)]) rfl ?_
    refine XS.iloadN X153.here hx rfl (hb hby d27_36) rfl ?_
    refine XS.aloadN X153.here hx rfl (hb hby d27_37) rfl rfl ?_
    refine X153.arraylength hx (by rw [e153]; exact Ar154.1) (State.isArrayOf_alike hZ.alike Ar154.2.1) (g := (mkF m 38 #[.val (.ref a1), .val (.int (0 : Int32)), .val (.ref ed)] [(.ref ed), (.int (0 : Int32))])) rfl rfl (hb hby d27_38) _ ?_
    rw [len_of S154 N154_]
    show Steps p.tables e below (T153.setTop (mkF m 39 #[.val (.ref a1), .val (.int (0 : Int32)), .val (.ref ed)] [(.int (10 : Int32)), (.int (0 : Int32))])) _
    refine XS.icmpYes X153.here hx rfl (pc0 := 39) (pc' := 50) rfl (hb hby d27_39) rfl (tlt (by decide : (0 : Int32) < (10 : Int32))).1 (by decide) (by decide) ?_
    refine XS.aloadN X153.here hx rfl (hb hby d27_50) rfl rfl ?_
    refine XS.iloadN X153.here hx rfl (hb hby d27_51) rfl ?_
    refine XS.iconst X153.here hx rfl (hb hby d27_52) ?_
    refine XS.iadd X153.here hx rfl (hb hby d27_53) rfl ?_
    refine st155 _ ?_
    show Steps p.tables e below (T155.setTop (mkF m 57 #[.val (.ref a1), .val (.int (0 : Int32)), .val (.ref ed)] [])) _
    refine XS.aloadN X155.here hx rfl (hb hby d27_57) rfl rfl ?_
    refine XS.aloadN X155.here hx rfl (hb hby d27_58) rfl rfl ?_
    refine XS.iloadN X155.here hx rfl (hb hby d27_59) rfl ?_
    refine XS.dupX1 X155.here hx rfl (hb hby d27_60) rfl rfl rfl ?_
    refine st158 _ ?_
    show Steps p.tables e below (T158.setTop (mkF m 64 #[.val (.ref a1), .val (.int (0 : Int32)), .val (.ref ed)] [(.int (0 : Int32)), (.ref ed)])) _
    refine X158.aaload hx (j := (0 : Int32)) (v := (.ref x0)) (by rw [e158]; exact Ar160.1) (State.isArrayOf_alike hZ.alike Ar160.2.1) rfl Ar160.2.2 hin160 hat160 (g := (mkF m 64 #[.val (.ref a1), .val (.int (0 : Int32)), .val (.ref ed)] [(.int (0 : Int32)), (.ref ed)])) rfl rfl (hb hby d27_64) _ ?_
    show Steps p.tables e below (T158.setTop (mkF m 65 #[.val (.ref a1), .val (.int (0 : Int32)), .val (.ref ed)] [(.ref x0)])) _
    exact retOut X158 hx Bd.returns rfl (Or.inr (Or.inr (Or.inr (Or.inr ⟨rfl, rfl, rfl⟩)))) (hb hby d27_65) hr
  · show own_Do (some (.ref x0)) [a1] (fun h => own_It Z h a1 ls (1 : Int32) (0 : Int32) mc) h0 n0 _ T158.heap _
    rw [e158]
    exact ⟨rfl, N158, KP158, ⟨Fx161, Fx162, Fx163, Fw158, Fx164⟩⟩
theorem ef_rm_nx_1_2 (m : MethodId) (x0 : Addr) : entryFrame m #[(.ref x0)] 3 = mkF m 0 #[.val (.ref x0), .unset, .unset] [] := by first | (simp [entryFrame, mkF, argsToLocals, Value.category]; done) | rfl
set_option maxRecDepth 65536 in
set_option maxHeartbeats 40000000 in
theorem rm_nx_1_2 (l : Launch) (Z : State) (a0 : Array Value) (hw : ∀ d ∈ tables_1, d.before a0 Z = true) (ws : List Jvm.Cond) (a1 : Addr) (h0 : Heap) (n0 : Nat) (Z0 : n0 ≤ h0.size) (ls ed x0 x1 : Addr) (kE : ClassId) (lr mc : Int32) (hIt : own_It Z h0 a1 ls (1 : Int32) lr mc) (hAL : own_AL Z h0 ls (.ref ed) (2 : Int32) mc) (A_E : Arv Z h0 ed kE (.object "java/lang/Object") (10 : Int32) [(.ref x0), (.ref x1), .null, .null, .null, .null, .null, .null, .null, .null] .null) (nl : ls ≠ a1) (nd : ed ≠ a1) (gn_a : n0 ≤ a1) :
    MetFree l (⟨"java/util/ArrayList$Itr", "next", "()Ljava/lang/Object;"⟩ : MethodName) (head1 (Jvm.Cond.code (⟨"java/util/ArrayList$Itr", "next", "()Ljava/lang/Object;"⟩ : MethodName) jdk_49_method_3_code 3 (some (.object "java/lang/Object")) :: ws) ({ frames := 1, cells := 0, slots := 0, locals := 12 } : Room)) (fun aQ UQ => aQ = #[(.ref a1)] ∧ Z.Warmed39 UQ.vm ∧ UQ.heap = h0) (fun _ _ _ _ _ => True) (fun _ UQ oQ UR => ∃ vQ LQ, oQ = .returned vQ ∧ own_Do (some (.ref x1)) [a1] (fun h => own_It Z h a1 ls (2 : Int32) (1 : Int32) mc) h0 n0 vQ UR.heap LQ ∧ FrameEnd UQ oQ UR LQ ({ frames := 1, cells := 0, slots := 0, locals := 12 } : Room).cells ({ frames := 1, cells := 0, slots := 0, locals := 12 } : Room).slots) := by
  refine MetFree.of_bodySF (plainFor_of_name pn_204) hisR ?_
  intro p e s m args below meth c s₁ Bd hml0 hP hK
  obtain ⟨rfl, hZ, hh⟩ := hP
  have hx := Bd.exec
  have hby := Bd.bytes
  have hml : c.maxLocals = 3 := hml0
  have hown : s.vm.findClass "java/util/ArrayList$Itr" = some m.cls := findClass_of_methodNamed Bd.named
  have hnm := (name_of_methodNamed Bd.named Bd.method).1
  have X0 : Stand p l e ({ frames := 1, cells := 0, slots := 0, locals := 12 } : Room) s m #[(.ref a1)] below meth c s₁ [] 0 0 := Stand.of_body Bd
  have e0 : s₁.heap = h0 := by rw [← hh, Bd.state]; rfl
  have N0 := Fr.nil n0
  have pre0 : ∀ t, Steps p.tables e below (s₁.setTop (mkF m 0 #[.val (.ref a1), .unset, .unset] [])) t → Steps p.tables e below (s₁.setTop (entryFrame m #[(.ref a1)] 3)) t := fun t kq => castTop (ef_rm_nx_1_2 m a1) kq
  obtain ⟨E_a, F_t, F_k, F_l, F_x⟩ := id hIt
  obtain ⟨E_l, F_e, F_s, F_m⟩ := id hAL
  obtain ⟨cq165, kq165, q165a, q165b, q165c⟩ := isOf hZ e0 (E_a)
  obtain ⟨_, _, ⟨T165, L165, k165, n165⟩, -, X165, ⟨Lc165, hQ165, l165, y165, z165⟩, st165⟩ := X0.virtualBack hx (y := (⟨"java/util/ArrayList$Itr", "checkForComodification", "()V"⟩ : MethodName)) (z := (⟨"java/util/ArrayList$Itr", "checkForComodification", "()V"⟩ : MethodName)) hown (mvT hZ (own_q hw 228 rfl)) (mvT hZ (own_q hw 229 rfl)) (notFace_of_selects (args := #[]) (mvT hZ (own_q hw 231 rfl))) (mvT hZ (own_q hw 231 rfl)) (mvT hZ (own_q hw 230 rfl)) (by decide) (backOf (W := 0) (rm_cfc l Z a0 hw [] a1 h0 n0 Z0 ls _ lr mc hIt F_m) hZ (own_q hw 232 rfl) (own_q hw 108 rfl) (by decide) (by decide)) q165a q165c (g := (mkF m 1 #[.val (.ref a1), .unset, .unset] [(.ref a1)])) rfl (by rw [hml]; rfl) (Steps.refl _) (argsL := []) (rest := []) (lenOf pd_13 rfl) rfl (by show 2 * 0 + _ ≤ _; exact Nat.le_of_eq rfl) (hb hby d27_1) (fun _ _ => ⟨rfl, e0, (by decide : 0 + 0 ≤ _), (by decide : 0 + 0 ≤ _)⟩)
  dsimp only [Pt.U, Pt.locs, Pt.cells, Pt.slots] at X165 l165 y165 z165 st165 hQ165
  obtain rfl : k165 = 0 := y165; obtain rfl : n165 = 0 := z165
  obtain ⟨rfl, N165q, e165⟩ := hQ165
  have N165 : Fr n0 L165 := by rw [l165]; exact Fr.app N0 N165q
  obtain ⟨T166, X166, e166, st166⟩ := getF X165 hx hZ hown (host := "") (Or.inl (own_q hw 131 rfl)) Via.refl e165 F_k (g := (mkF m 5 #[.val (.ref a1), .unset, .unset] [(.ref a1)])) rfl rfl (hb hby d27_5)
  obtain ⟨T167, X167, e167, st167⟩ := getF X166 hx hZ hown (host := "") (Or.inl (own_q hw 113 rfl)) Via.refl e166 F_t (g := (mkF m 11 #[.val (.ref a1), .val (.int (1 : Int32)), .unset] [(.ref a1), (.int (1 : Int32))])) rfl rfl (hb hby d27_11)
  obtain ⟨T168, X168, e168, st168⟩ := getF X167 hx hZ hown (Or.inr (own_q hw 133 rfl)) Via.refl e167 F_s (g := (mkF m 14 #[.val (.ref a1), .val (.int (1 : Int32)), .unset] [(.ref ls), (.int (1 : Int32))])) rfl rfl (hb hby d27_14)
  obtain ⟨T169, X169, e169, st169⟩ := getF X168 hx hZ hown (host := "") (Or.inl (own_q hw 113 rfl)) Via.refl e168 F_t (g := (mkF m 29 #[.val (.ref a1), .val (.int (1 : Int32)), .unset] [(.ref a1)])) rfl rfl (hb hby d27_29)
  obtain ⟨T170, X170, e170, st170⟩ := getF X169 hx hZ hown (host := "") (Or.inl (own_q hw 233 rfl)) Via.refl e169 F_e (g := (mkF m 32 #[.val (.ref a1), .val (.int (1 : Int32)), .unset] [(.ref ls)])) rfl rfl (hb hby d27_32)
  have Vc171 := A_E
  obtain ⟨cl171, Ar171, q171, S171, N171_, H171_, G171⟩ := Vc171
  obtain ⟨T172, h172, X172, e172, W172, st172⟩ := putF X170 hx hZ hown (host := "") (Or.inl (own_q hw 131 rfl)) Via.refl e170 F_k E_a (Or.inl (own_q hw 132 rfl)) (own_q hw 107 rfl) (ty := .int) (by decide) rfl rfl (g := (mkF m 54 #[.val (.ref a1), .val (.int (1 : Int32)), .val (.ref ed)] [(.int (2 : Int32)), (.ref a1)])) rfl rfl (hb hby d27_54)
  have KP172 := Keep.wr (Keep.refl h0 [a1]) W172 (Or.inl (List.mem_of_getElem? (i := 0) rfl))
  have Fw172 := F_k.same W172
  have N172 := Fr.snoc X172 N165 gn_a
  have Fx173 := (E_a.wr W172)
  have Fx174 := (F_l.other W172 (Or.inr (slot_ne (Or.inl (own_q hw 117 rfl)) (Or.inl (own_q hw 132 rfl)) (by decide) (t := .int) (t' := .int) (by decide) (by decide))))
  obtain ⟨T175, h175, X175, e175, W175, st175⟩ := putF X172 hx hZ hown (host := "") (Or.inl (own_q hw 116 rfl)) Via.refl e172 Fx174 Fx173 (Or.inl (own_q hw 117 rfl)) (own_q hw 107 rfl) (ty := .int) (by decide) rfl rfl (g := (mkF m 61 #[.val (.ref a1), .val (.int (1 : Int32)), .val (.ref ed)] [(.int (1 : Int32)), (.ref a1), (.int (1 : Int32)), (.ref ed)])) rfl rfl (hb hby d27_61)
  have KP175 := Keep.wr KP172 W175 (Or.inl (List.mem_of_getElem? (i := 0) rfl))
  have Fw175 := Fx174.same W175
  have N175 := Fr.snoc X175 N172 gn_a
  have Fx176 := ((A_E.other W172 nd).other W175 nd)
  have Vc177 := Fx176
  obtain ⟨cl177, Ar177, q177, S177, N177_, H177_, G177⟩ := Vc177
  have hin177 : ¬ ((1 : Int32) < 0 ∨ cl177.slots.size ≤ ((1 : Int32)).toNatClampNeg) := inb_of S177 ⟨by decide, by decide⟩
  have hat177 : cl177.slots[((1 : Int32)).toNatClampNeg]? = some (.ref x1) := Has.at H177_ hin177 rfl
  have Fx178 := (Fx173.wr W175)
  have Fx179 := ((F_t.other W172 (Or.inr (slot_ne (Or.inr (own_q hw 114 rfl)) (Or.inl (own_q hw 132 rfl)) (by decide) (t := (.object "java/util/ArrayList")) (t' := .int) (by decide) (by decide)))).other W175 (Or.inr (slot_ne (Or.inr (own_q hw 114 rfl)) (Or.inl (own_q hw 117 rfl)) (by decide) (t := (.object "java/util/ArrayList")) (t' := .int) (by decide) (by decide))))
  have Fx180 := (Fw172.other W175 (Or.inr (slot_ne (Or.inl (own_q hw 132 rfl)) (Or.inl (own_q hw 117 rfl)) (by decide) (t := .int) (t' := .int) (by decide) (by decide))))
  have Fx181 := ((F_x.other W172 (Or.inr (slot_ne (Or.inl (own_q hw 121 rfl)) (Or.inl (own_q hw 132 rfl)) (by decide) (t := .int) (t' := .int) (by decide) (by decide)))).other W175 (Or.inr (slot_ne (Or.inl (own_q hw 121 rfl)) (Or.inl (own_q hw 117 rfl)) (by decide) (t := .int) (t' := .int) (by decide) (by decide))))
  obtain ⟨fs, hr, hrun, hended, hW, hsame⟩ := X175.leave (v := some (.ref x1)) (fun h => by rw [Bd.returns] at h; cases h)
  refine ⟨_, _, pre0 _ ?_, hrun, hended, _, _, rfl, ?_, ⟨_, rfl⟩, hW, hsame.mono (by decide) (by decide)⟩
  · refine XS.aloadN X0.here hx rfl (hb hby d27_0) rfl rfl ?_
    refine st165.trans ?_
    show Steps p.tables e below (T165.setTop (mkF m 4 #[.val (.ref a1), .unset, .unset] [])) _
    refine XS.aloadN X165.here hx rfl (hb hby d27_4) rfl rfl ?_
    refine st166 _ ?_
    show Steps p.tables e below (T166.setTop (mkF m 8 #[.val (.ref a1), .unset, .unset] [(.int (1 : Int32))])) _
    refine XS.istoreN X166.here hx rfl (hb hby d27_8) rfl (l' := #[.val (.ref a1), .val (.int (1 : Int32)), .unset]) rfl ?_
    refine XS.iloadN X166.here hx rfl (hb hby d27_9) rfl ?_
    refine XS.aloadN X166.here hx rfl (hb hby d27_10) rfl rfl ?_
    refine st167 _ ?_
    show Steps p.tables e below (T167.setTop (mkF m 14 #[.val (.ref a1), .val (.int (1 : Int32)), .unset] [(.ref ls), (.int (1 : Int32))])) _
    refine st168 _ ?_
    show Steps p.tables e below (T168.setTop (mkF m 17 #[.val (.ref a1), .val (.int (1 : Int32)), .unset] [(.int (2 : Int32)), (.int (1 : Int32))])) _
    refine XS.icmpYes X168.here hx rfl (pc0 := 17) (pc' := 28) rfl (hb hby d27_17) rfl (tlt (by decide : (1 : Int32) < (2 : Int32))).1 (by decide) (by decide) ?_
    refine XS.aloadN X168.here hx rfl (hb hby d27_28) rfl rfl ?_
    refine st169 _ ?_
    show Steps p.tables e below (T169.setTop (mkF m 32 #[.val (.ref a1), .val (.int (1 : Int32)), .unset] [(.ref ls)])) _
    refine st170 _ ?_
    show Steps p.tables e below (T170.setTop (mkF m 35 #[.val (.ref a1), .val (.int (1 : Int32)), .unset] [(.ref ed)])) _
    refine XS.astoreN X170.here hx rfl (hb hby d27_35) rfl rfl (l' := #[.val (.ref a1), .val (.int (1 : Int32)), .val (.ref ed)]) rfl ?_
    refine XS.iloadN X170.here hx rfl (hb hby d27_36) rfl ?_
    refine XS.aloadN X170.here hx rfl (hb hby d27_37) rfl rfl ?_
    refine X170.arraylength hx (by rw [e170]; exact Ar171.1) (State.isArrayOf_alike hZ.alike Ar171.2.1) (g := (mkF m 38 #[.val (.ref a1), .val (.int (1 : Int32)), .val (.ref ed)] [(.ref ed), (.int (1 : Int32))])) rfl rfl (hb hby d27_38) _ ?_
    rw [len_of S171 N171_]
    show Steps p.tables e below (T170.setTop (mkF m 39 #[.val (.ref a1), .val (.int (1 : Int32)), .val (.ref ed)] [(.int (10 : Int32)), (.int (1 : Int32))])) _
    refine XS.icmpYes X170.here hx rfl (pc0 := 39) (pc' := 50) rfl (hb hby d27_39) rfl (tlt (by decide : (1 : Int32) < (10 : Int32))).1 (by decide) (by decide) ?_
    refine XS.aloadN X170.here hx rfl (hb hby d27_50) rfl rfl ?_
    refine XS.iloadN X170.here hx rfl (hb hby d27_51) rfl ?_
    refine XS.iconst X170.here hx rfl (hb hby d27_52) ?_
    refine XS.iadd X170.here hx rfl (hb hby d27_53) rfl ?_
    refine st172 _ ?_
    show Steps p.tables e below (T172.setTop (mkF m 57 #[.val (.ref a1), .val (.int (1 : Int32)), .val (.ref ed)] [])) _
    refine XS.aloadN X172.here hx rfl (hb hby d27_57) rfl rfl ?_
    refine XS.aloadN X172.here hx rfl (hb hby d27_58) rfl rfl ?_
    refine XS.iloadN X172.here hx rfl (hb hby d27_59) rfl ?_
    refine XS.dupX1 X172.here hx rfl (hb hby d27_60) rfl rfl rfl ?_
    refine st175 _ ?_
    show Steps p.tables e below (T175.setTop (mkF m 64 #[.val (.ref a1), .val (.int (1 : Int32)), .val (.ref ed)] [(.int (1 : Int32)), (.ref ed)])) _
    refine X175.aaload hx (j := (1 : Int32)) (v := (.ref x1)) (by rw [e175]; exact Ar177.1) (State.isArrayOf_alike hZ.alike Ar177.2.1) rfl Ar177.2.2 hin177 hat177 (g := (mkF m 64 #[.val (.ref a1), .val (.int (1 : Int32)), .val (.ref ed)] [(.int (1 : Int32)), (.ref ed)])) rfl rfl (hb hby d27_64) _ ?_
    show Steps p.tables e below (T175.setTop (mkF m 65 #[.val (.ref a1), .val (.int (1 : Int32)), .val (.ref ed)] [(.ref x1)])) _
    exact retOut X175 hx Bd.returns rfl (Or.inr (Or.inr (Or.inr (Or.inr ⟨rfl, rfl, rfl⟩)))) (hb hby d27_65) hr
  · show own_Do (some (.ref x1)) [a1] (fun h => own_It Z h a1 ls (2 : Int32) (1 : Int32) mc) h0 n0 _ T175.heap _
    rw [e175]
    exact ⟨rfl, N175, KP175, ⟨Fx178, Fx179, Fx180, Fw175, Fx181⟩⟩
theorem d30_0 : decode prog_6_method_1_code 0 = .ok (.aload_n 0, 1) := by decide +kernel
theorem d30_1 : decode prog_6_method_1_code 1 = .ok (.invokespecial 1, 3) := by decide +kernel
theorem d30_4 : decode prog_6_method_1_code 4 = .ok (.aload_n 0, 1) := by decide +kernel
theorem d30_5 : decode prog_6_method_1_code 5 = .ok (.new 7, 3) := by decide +kernel
theorem d30_8 : decode prog_6_method_1_code 8 = .ok (.dup, 1) := by decide +kernel
theorem d30_9 : decode prog_6_method_1_code 9 = .ok (.invokespecial 9, 3) := by decide +kernel
theorem d30_12 : decode prog_6_method_1_code 12 = .ok (.putfield 10, 3) := by decide +kernel
theorem d30_15 : decode prog_6_method_1_code 15 = .ok (.aload_n 0, 1) := by decide +kernel
theorem d30_16 : decode prog_6_method_1_code 16 = .ok (.new 7, 3) := by decide +kernel
theorem d30_19 : decode prog_6_method_1_code 19 = .ok (.dup, 1) := by decide +kernel
theorem d30_20 : decode prog_6_method_1_code 20 = .ok (.invokespecial 9, 3) := by decide +kernel
theorem d30_23 : decode prog_6_method_1_code 23 = .ok (.putfield 16, 3) := by decide +kernel
theorem d30_26 : decode prog_6_method_1_code 26 = .ok (.aload_n 0, 1) := by decide +kernel
theorem d30_27 : decode prog_6_method_1_code 27 = .ok (.aload_n 1, 1) := by decide +kernel
theorem d30_28 : decode prog_6_method_1_code 28 = .ok (.putfield 19, 3) := by decide +kernel
theorem d30_31 : decode prog_6_method_1_code 31 = .ok (.return_, 1) := by decide +kernel
theorem pn_274 : plainName "com/example/parley/parley/floor/Conference$Floor" = true := by first | (simp [plainName, overriddenIn]; done) | decide +kernel
theorem ef_rm_fli (m : MethodId) (x0 : Addr) (x1 : Addr) : entryFrame m #[(.ref x0), (.ref x1)] 2 = mkF m 0 #[.val (.ref x0), .val (.ref x1)] [] := by first | (simp [entryFrame, mkF, argsToLocals, Value.category]; done) | rfl
set_option maxRecDepth 65536 in
set_option maxHeartbeats 40000000 in
theorem rm_fli (l : Launch) (Z : State) (a0 : Array Value) (hw : ∀ d ∈ tables_1, d.before a0 Z = true) (ws : List Jvm.Cond) (a1 : Addr) (fsx : Addr) (h0 : Heap) (n0 : Nat) (Z0 : n0 ≤ h0.size) (E_a : Exa Z h0 a1 "com/example/parley/parley/floor/Conference$Floor") (F_queue : Fld Z h0 a1 "com/example/parley/parley/floor/Conference$Floor" "queue" "Ljava/util/List;" .null) (F_pending : Fld Z h0 a1 "com/example/parley/parley/floor/Conference$Floor" "pending" "Ljava/util/List;" .null) (F_settings : Fld Z h0 a1 "com/example/parley/parley/floor/Conference$Floor" "settings" "Lcom/example/parley/parley/floor/FloorSettings;" .null) (gn_a : n0 ≤ a1) (hS : Heap) (hn : hS.size ≤ n0) (hEx : Ext hS h0) (dE oe : Addr) (kD : ClassId) (hWd : own_Wd Z hS dE kD oe) :
    MetFree l (⟨"com/example/parley/parley/floor/Conference$Floor", "<init>", "(Lcom/example/parley/parley/floor/FloorSettings;)V"⟩ : MethodName) (head1 (Jvm.Cond.code (⟨"com/example/parley/parley/floor/Conference$Floor", "<init>", "(Lcom/example/parley/parley/floor/FloorSettings;)V"⟩ : MethodName) prog_6_method_1_code 2 none :: ws) ({ frames := 4, cells := 2, slots := 6, locals := 50 } : Room)) (fun aQ UQ => aQ = #[(.ref a1), (.ref fsx)] ∧ Z.Warmed39 UQ.vm ∧ UQ.heap = h0) (fun _ _ _ _ _ => True) (fun _ UQ oQ UR => ∃ vQ LQ, oQ = .returned vQ ∧ own_Ini a1 h0 n0 vQ UR.heap LQ ∧ FrameEnd UQ oQ UR LQ ({ frames := 4, cells := 2, slots := 6, locals := 50 } : Room).cells ({ frames := 4, cells := 2, slots := 6, locals := 50 } : Room).slots) := by
  refine MetFree.of_bodySF (plainFor_of_name pn_274) hisR ?_
  intro p e s m args below meth c s₁ Bd hml0 hP hK
  obtain ⟨rfl, hZ, hh⟩ := hP
  have hx := Bd.exec
  have hby := Bd.bytes
  have hml : c.maxLocals = 2 := hml0
  have hown : s.vm.findClass "com/example/parley/parley/floor/Conference$Floor" = some m.cls := findClass_of_methodNamed Bd.named
  have hnm := (name_of_methodNamed Bd.named Bd.method).1
  have X0 : Stand p l e ({ frames := 4, cells := 2, slots := 6, locals := 50 } : Room) s m #[(.ref a1), (.ref fsx)] below meth c s₁ [] 0 0 := Stand.of_body Bd
  have e0 : s₁.heap = h0 := by rw [← hh, Bd.state]; rfl
  have N0 := Fr.nil n0
  have pre0 : ∀ t, Steps p.tables e below (s₁.setTop (mkF m 0 #[.val (.ref a1), .val (.ref fsx)] [])) t → Steps p.tables e below (s₁.setTop (entryFrame m #[(.ref a1), (.ref fsx)] 2)) t := fun t kq => castTop (ef_rm_fli m a1 fsx) kq
  obtain ⟨S_D, A_D, S_O, E_O, F_O⟩ := id hWd
  obtain ⟨T182, X182, e182, st182⟩ := initO X0 hx hZ hown (own_q hw 246 rfl) (own_q hw 20 rfl) (own_q hw 21 rfl) e0 (g := (mkF m 1 #[.val (.ref a1), .val (.ref fsx)] [(.ref a1)])) rfl (by rw [hml]; rfl) rfl (hb hby d30_1) (by decide) (W := 0) (by show 2 * 0 + _ ≤ _; exact Nat.le_of_eq rfl) (by decide)
  obtain ⟨T183, h183, X183, e183, E183, A183, D183, -, st183⟩ := newO X182 hx hZ hown (own_q hw 247 rfl) (own_q hw 2 rfl) (own_q hw 3 rfl) e182 (g := (mkF m 5 #[.val (.ref a1), .val (.ref fsx)] [(.ref a1)])) rfl (hb hby d30_5) (by decide) (by decide)
  obtain ⟨b183, g183⟩ : ∃ z, z = h0.size := ⟨_, rfl⟩
  rw [← g183] at A183 D183 st183
  have sz_b183 : h0.size ≤ b183 := Nat.le_trans (Keep.refl h0 [a1]).1 (Nat.le_of_eq g183.symm)
  have gn_b183 : n0 ≤ b183 := Nat.le_trans Z0 sz_b183
  have ne_a1_b183 : a1 ≠ b183 := Nat.ne_of_lt (Nat.lt_of_lt_of_le E_a.lt (Nat.le_of_eq g183.symm))
  have EX183 := own_ext_trans (own_ext_refl h0) E183
  have KP183 := Keep.ext (Keep.refl h0 [a1]) E183
  have F183_modCount : Fld Z h183 b183 "java/util/AbstractList" "modCount" "I" (.int (0 : Int32)) := D183 (Or.inl (own_q hw 23 rfl)) (ty := .int) (by decide)
  have F183_elementData : Fld Z h183 b183 "java/util/ArrayList" "elementData" "[Ljava/lang/Object;" .null := D183 (Or.inl (own_q hw 26 rfl)) (ty := (.array (.object "java/lang/Object"))) (by decide)
  have F183_size : Fld Z h183 b183 "java/util/ArrayList" "size" "I" (.int (0 : Int32)) := D183 (Or.inl (own_q hw 134 rfl)) (ty := .int) (by decide)
  obtain ⟨_, _, ⟨T184, L184, k184, n184⟩, -, X184, ⟨Lc184, hQ184, l184, y184, z184⟩, st184⟩ := X183.specialBack hx (y := (⟨"java/util/ArrayList", "<init>", "()V"⟩ : MethodName)) rfl hown (mvT hZ (own_q hw 248 rfl)) (mvT hZ (own_q hw 5 rfl)) (mvT hZ (own_q hw 6 rfl)) (by decide) (backOf (W := 2) (rm_ali l Z a0 hw [] b183 h183 n0 (Nat.le_trans Z0 EX183.1) ⟨A183, F183_elementData, F183_size, F183_modCount⟩ gn_b183 hS hn (own_ext_trans hEx EX183) dE oe kD hWd) hZ (own_q hw 6 rfl) (own_q hw 3 rfl) (by decide) (by decide)) (g := (mkF m 9 #[.val (.ref a1), .val (.ref fsx)] [(.ref b183), (.ref b183), (.ref a1)])) rfl (by rw [hml]; rfl) (Steps.refl _) (a := b183) (argsL := []) (rest := [(.ref b183), (.ref a1)]) (lenOf pd_13 rfl) rfl (by show 2 * 0 + _ ≤ _; exact Nat.le_of_eq rfl) (hb hby d30_9) (fun _ _ => ⟨rfl, e183, (by decide : 1 + 0 ≤ _), (by decide : 3 + 0 ≤ _)⟩)
  dsimp only [Pt.U, Pt.locs, Pt.cells, Pt.slots] at X184 l184 y184 z184 st184 hQ184
  obtain rfl : k184 = 1 := y184; obtain rfl : n184 = 3 := z184
  obtain ⟨rfl, N184q, K184, EA184, FE184, FZ184, FM184⟩ := hQ184
  have N184 : Fr n0 L184 := by rw [l184]; exact Fr.app N0 N184q
  have e184 : T184.heap = T184.heap := rfl
  have EX184 := own_ext_keep EX183 K184 (allS sz_b183 all0)
  have KP184 := Keep.trans KP183 K184 (allS (Or.inr sz_b183) all0)
  have Fx185 := ((E_a.ext E183).keep K184)
  have Fx186 := ((F_queue.ext E183).keep K184 (ninS ne_a1_b183 nin0))
  obtain ⟨T187, h187, X187, e187, W187, st187⟩ := putF X184 hx hZ hown (host := "") (Or.inl (own_q hw 249 rfl)) Via.refl e184 Fx186 Fx185 (Or.inr ⟨(own_q hw 250 rfl), rfl, hnm⟩) (own_q hw 241 rfl) (ty := (.object "java/util/List")) (by decide) rfl rfl (g := (mkF m 12 #[.val (.ref a1), .val (.ref fsx)] [(.ref b183), (.ref a1)])) rfl rfl (hb hby d30_12)
  have KP187 := Keep.wr KP184 W187 (Or.inl (List.mem_of_getElem? (i := 0) rfl))
  have Fw187 := Fx186.same W187
  have N187 := Fr.snoc X187 N184 gn_a
  have Fx188 := (EA184.wr W187)
  have Fx189 := (Fx185.wr W187)
  obtain ⟨T190, h190, X190, e190, E190, A190, D190, -, st190⟩ := newO X187 hx hZ hown (own_q hw 247 rfl) (own_q hw 2 rfl) (own_q hw 3 rfl) e187 (g := (mkF m 16 #[.val (.ref a1), .val (.ref fsx)] [(.ref a1)])) rfl (hb hby d30_16) (by decide) (by decide)
  obtain ⟨b190, g190⟩ : ∃ z, z = h187.size := ⟨_, rfl⟩
  rw [← g190] at A190 D190 st190
  have sz_b190 : h0.size ≤ b190 := Nat.le_trans KP187.1 (Nat.le_of_eq g190.symm)
  have gn_b190 : n0 ≤ b190 := Nat.le_trans Z0 sz_b190
  have ne_b183_b190 : b183 ≠ b190 := Nat.ne_of_lt (Nat.lt_of_lt_of_le Fx188.lt (Nat.le_of_eq g190.symm))
  have ne_a1_b190 : a1 ≠ b190 := Nat.ne_of_lt (Nat.lt_of_lt_of_le Fx189.lt (Nat.le_of_eq g190.symm))
  have KP190 := Keep.ext KP187 E190
  have F190_modCount : Fld Z h190 b190 "java/util/AbstractList" "modCount" "I" (.int (0 : Int32)) := D190 (Or.inl (own_q hw 23 rfl)) (ty := .int) (by decide)
  have F190_elementData : Fld Z h190 b190 "java/util/ArrayList" "elementData" "[Ljava/lang/Object;" .null := D190 (Or.inl (own_q hw 26 rfl)) (ty := (.array (.object "java/lang/Object"))) (by decide)
  have F190_size : Fld Z h190 b190 "java/util/ArrayList" "size" "I" (.int (0 : Int32)) := D190 (Or.inl (own_q hw 134 rfl)) (ty := .int) (by decide)
  obtain ⟨_, _, ⟨T191, L191, k191, n191⟩, -, X191, ⟨Lc191, hQ191, l191, y191, z191⟩, st191⟩ := X190.specialBack hx (y := (⟨"java/util/ArrayList", "<init>", "()V"⟩ : MethodName)) rfl hown (mvT hZ (own_q hw 248 rfl)) (mvT hZ (own_q hw 5 rfl)) (mvT hZ (own_q hw 6 rfl)) (by decide) (backOf (W := 2) (rm_ali l Z a0 hw [] b190 h190 n0 (Nat.le_trans Z0 KP190.1) ⟨A190, F190_elementData, F190_size, F190_modCount⟩ gn_b190 hS hn (own_ext_keep hEx KP190 (allS (Nat.le_trans hn gn_a) all0)) dE oe kD hWd) hZ (own_q hw 6 rfl) (own_q hw 3 rfl) (by decide) (by decide)) (g := (mkF m 20 #[.val (.ref a1), .val (.ref fsx)] [(.ref b190), (.ref b190), (.ref a1)])) rfl (by rw [hml]; rfl) (Steps.refl _) (a := b190) (argsL := []) (rest := [(.ref b190), (.ref a1)]) (lenOf pd_13 rfl) rfl (by show 2 * 0 + _ ≤ _; exact Nat.le_of_eq rfl) (hb hby d30_20) (fun _ _ => ⟨rfl, e190, (by decide : 2 + 0 ≤ _), (by decide : 6 + 0 ≤ _)⟩)
  dsimp only [Pt.U, Pt.locs, Pt.cells, Pt.slots] at X191 l191 y191 z191 st191 hQ191
  obtain rfl : k191 = 2 := y191; obtain rfl : n191 = 6 := z191
  obtain ⟨rfl, N191q, K191, EA191, FE191, FZ191, FM191⟩ := hQ191
  have N191 : Fr n0 L191 := by rw [l191]; exact Fr.app N187 N191q
  have e191 : T191.heap = T191.heap := rfl
  have KP191 := Keep.trans KP190 K191 (allS (Or.inr sz_b190) all0)
  have Fx192 := ((Fx189.ext E190).keep K191)
  have Fx193 := (((((F_pending.ext E183).keep K184 (ninS ne_a1_b183 nin0)).other W187 (Or.inr (slot_ne (Or.inr (own_q hw 252 rfl)) (Or.inr (own_q hw 250 rfl)) (by decide) (t := (.object "java/util/List")) (t' := (.object "java/util/List")) (by decide) (by decide)))).ext E190).keep K191 (ninS ne_a1_b190 nin0))
  obtain ⟨T194, h194, X194, e194, W194, st194⟩ := putF X191 hx hZ hown (host := "") (Or.inl (own_q hw 251 rfl)) Via.refl e191 Fx193 Fx192 (Or.inr ⟨(own_q hw 252 rfl), rfl, hnm⟩) (own_q hw 241 rfl) (ty := (.object "java/util/List")) (by decide) rfl rfl (g := (mkF m 23 #[.val (.ref a1), .val (.ref fsx)] [(.ref b190), (.ref a1)])) rfl rfl (hb hby d30_23)
  have KP194 := Keep.wr KP191 W194 (Or.inl (List.mem_of_getElem? (i := 0) rfl))
  have Fw194 := Fx193.same W194
  have N194 := Fr.snoc X194 N191 gn_a
  have Fx195 := (Fx192.wr W194)
  have Fx196 := ((((((F_settings.ext E183).keep K184 (ninS ne_a1_b183 nin0)).other W187 (Or.inr (slot_ne (Or.inr (own_q hw 254 rfl)) (Or.inr (own_q hw 250 rfl)) (by decide) (t := (.object "com/example/parley/parley/floor/FloorSettings")) (t' := (.object "java/util/List")) (by decide) (by decide)))).ext E190).keep K191 (ninS ne_a1_b190 nin0)).other W194 (Or.inr (slot_ne (Or.inr (own_q hw 254 rfl)) (Or.inr (own_q hw 252 rfl)) (by decide) (t := (.object "com/example/parley/parley/floor/FloorSettings")) (t' := (.object "java/util/List")) (by decide) (by decide))))
  obtain ⟨T197, h197, X197, e197, W197, st197⟩ := putF X194 hx hZ hown (host := "") (Or.inl (own_q hw 253 rfl)) Via.refl e194 Fx196 Fx195 (Or.inr ⟨(own_q hw 254 rfl), rfl, hnm⟩) (own_q hw 241 rfl) (ty := (.object "com/example/parley/parley/floor/FloorSettings")) (by decide) rfl rfl (g := (mkF m 28 #[.val (.ref a1), .val (.ref fsx)] [(.ref fsx), (.ref a1)])) rfl rfl (hb hby d30_28)
  have KP197 := Keep.wr KP194 W197 (Or.inl (List.mem_of_getElem? (i := 0) rfl))
  have Fw197 := Fx196.same W197
  have N197 := Fr.snoc X197 N194 gn_a
  obtain ⟨fs, hr, hrun, hended, hW, hsame⟩ := X197.leave (v := none) (fun _ => rfl)
  refine ⟨_, _, pre0 _ ?_, hrun, hended, _, _, rfl, ?_, ⟨_, rfl⟩, hW, hsame.mono (by decide) (by decide)⟩
  · refine XS.aloadN X0.here hx rfl (hb hby d30_0) rfl rfl ?_
    refine st182 _ ?_
    show Steps p.tables e below (T182.setTop (mkF m 4 #[.val (.ref a1), .val (.ref fsx)] [])) _
    refine XS.aloadN X182.here hx rfl (hb hby d30_4) rfl rfl ?_
    refine st183 _ ?_
    show Steps p.tables e below (T183.setTop (mkF m 8 #[.val (.ref a1), .val (.ref fsx)] [(.ref b183), (.ref a1)])) _
    refine XS.dup X183.here hx rfl (hb hby d30_8) rfl rfl ?_
    refine st184.trans ?_
    show Steps p.tables e below (T184.setTop (mkF m 12 #[.val (.ref a1), .val (.ref fsx)] [(.ref b183), (.ref a1)])) _
    refine st187 _ ?_
    show Steps p.tables e below (T187.setTop (mkF m 15 #[.val (.ref a1), .val (.ref fsx)] [])) _
    refine XS.aloadN X187.here hx rfl (hb hby d30_15) rfl rfl ?_
    refine st190 _ ?_
    show Steps p.tables e below (T190.setTop (mkF m 19 #[.val (.ref a1), .val (.ref fsx)] [(.ref b190), (.ref a1)])) _
    refine XS.dup X190.here hx rfl (hb hby d30_19) rfl rfl ?_
    refine st191.trans ?_
    show Steps p.tables e below (T191.setTop (mkF m 23 #[.val (.ref a1), .val (.ref fsx)] [(.ref b190), (.ref a1)])) _
    refine st194 _ ?_
    show Steps p.tables e below (T194.setTop (mkF m 26 #[.val (.ref a1), .val (.ref fsx)] [])) _
    refine XS.aloadN X194.here hx rfl (hb hby d30_26) rfl rfl ?_
    refine XS.aloadN X194.here hx rfl (hb hby d30_27) rfl rfl ?_
    refine st197 _ ?_
    show Steps p.tables e below (T197.setTop (mkF m 31 #[.val (.ref a1), .val (.ref fsx)] [])) _
    exact X197.returnOut hx Bd.returns (hb hby d30_31) hr
  · show own_Ini a1 h0 n0 _ T197.heap _
    rw [e197]
    exact ⟨rfl, N197, KP197⟩
theorem d14_0 : decode prog_3_method_14_code 0 = .ok (.iload_n 1, 1) := by decide +kernel
theorem d14_1 : decode prog_3_method_14_code 1 = .ok (.ifCond .lt 23, 3) := by decide +kernel
theorem d14_24 : decode prog_3_method_14_code 24 = .ok (.iconst 0, 1) := by decide +kernel
theorem d14_25 : decode prog_3_method_14_code 25 = .ok (.ireturn, 1) := by decide +kernel
theorem d14_4 : decode prog_3_method_14_code 4 = .ok (.iload_n 1, 1) := by decide +kernel
theorem d14_5 : decode prog_3_method_14_code 5 = .ok (.ldc_w 264, 3) := by decide +kernel
theorem d14_8 : decode prog_3_method_14_code 8 = .ok (.if_icmp .gt 16, 3) := by decide +kernel
theorem d14_11 : decode prog_3_method_14_code 11 = .ok (.aload_n 0, 1) := by decide +kernel
theorem d14_12 : decode prog_3_method_14_code 12 = .ok (.getfield 40, 3) := by decide +kernel
theorem d14_15 : decode prog_3_method_14_code 15 = .ok (.iload_n 1, 1) := by decide +kernel
theorem d14_16 : decode prog_3_method_14_code 16 = .ok (.aaload, 1) := by decide +kernel
theorem d14_17 : decode prog_3_method_14_code 17 = .ok (.ifnull 7, 3) := by decide +kernel
theorem d14_20 : decode prog_3_method_14_code 20 = .ok (.iconst 1, 1) := by decide +kernel
theorem d14_21 : decode prog_3_method_14_code 21 = .ok (.goto 4, 3) := by decide +kernel
theorem ef_rm_hf (m : MethodId) (x0 : Addr) (x1 : Int32) : entryFrame m #[(.ref x0), (.int x1)] 2 = mkF m 0 #[.val (.ref x0), .val (.int x1)] [] := by first | (simp [entryFrame, mkF, argsToLocals, Value.category]; done) | rfl
set_option maxRecDepth 65536 in
set_option maxHeartbeats 40000000 in
theorem rm_hf (l : Launch) (Z : State) (a0 : Array Value) (hw : ∀ d ∈ tables_1, d.before a0 Z = true) (ws : List Jvm.Cond) (a1 : Addr) (qq : Int32) (h0 : Heap) (n0 : Nat) (Z0 : n0 ≤ h0.size) (fa : Addr) (kF : ClassId) (hs : List (Int32 × Value)) (F_f : Fld Z h0 a1 "com/example/parley/parley/floor/Conference" "floors" "[Lcom/example/parley/parley/floor/Conference$Floor;" (.ref fa)) (A_F : Arh Z h0 fa kF (.object "com/example/parley/parley/floor/Conference$Floor") (65536 : Int32) hs [] .null) (w : Value) (hv : ¬ qq < (0 : Int32) → ¬ (65535 : Int32) < qq → getH hs [] .null qq.toNatClampNeg = w) (hwr : w = .null ∨ ∃ g : Addr, w = .ref g) (r : Int32) (hrr : (qq < (0 : Int32) → r = (0 : Int32)) ∧ ((65535 : Int32) < qq → r = (0 : Int32)) ∧ (¬ qq < (0 : Int32) → ¬ (65535 : Int32) < qq → w = .null → r = (0 : Int32)) ∧ (¬ qq < (0 : Int32) → ¬ (65535 : Int32) < qq → w ≠ .null → r = (1 : Int32))) :
    MetFree l (⟨"com/example/parley/parley/floor/Conference", "hasFloor", "(I)Z"⟩ : MethodName) (head1 (Jvm.Cond.code (⟨"com/example/parley/parley/floor/Conference", "hasFloor", "(I)Z"⟩ : MethodName) prog_3_method_14_code 2 (some .boolean) :: ws) ({ frames := 0, cells := 0, slots := 0, locals := 0 } : Room)) (fun aQ UQ => aQ = #[(.ref a1), (.int qq)] ∧ Z.Warmed39 UQ.vm ∧ UQ.heap = h0) (fun _ _ _ _ _ => True) (fun _ UQ oQ UR => ∃ vQ LQ, oQ = .returned vQ ∧ own_Pure (some (.int r)) h0 n0 vQ UR.heap LQ ∧ FrameEnd UQ oQ UR LQ ({ frames := 0, cells := 0, slots := 0, locals := 0 } : Room).cells ({ frames := 0, cells := 0, slots := 0, locals := 0 } : Room).slots) := by
  refine MetFree.of_bodySF (plainFor_of_name pn_57) hisR ?_
  intro p e s m args below meth c s₁ Bd hml0 hP hK
  obtain ⟨rfl, hZ, hh⟩ := hP
  have hx := Bd.exec
  have hby := Bd.bytes
  have hml : c.maxLocals = 2 := hml0
  have hown : s.vm.findClass "com/example/parley/parley/floor/Conference" = some m.cls := findClass_of_methodNamed Bd.named
  have hnm := (name_of_methodNamed Bd.named Bd.method).1
  have X0 : Stand p l e ({ frames := 0, cells := 0, slots := 0, locals := 0 } : Room) s m #[(.ref a1), (.int qq)] below meth c s₁ [] 0 0 := Stand.of_body Bd
  have e0 : s₁.heap = h0 := by rw [← hh, Bd.state]; rfl
  have N0 := Fr.nil n0
  have pre0 : ∀ t, Steps p.tables e below (s₁.setTop (mkF m 0 #[.val (.ref a1), .val (.int qq)] [])) t → Steps p.tables e below (s₁.setTop (entryFrame m #[(.ref a1), (.int qq)] 2)) t := fun t kq => castTop (ef_rm_hf m a1 qq) kq
  by_cases hc1_198 : qq < (0 : Int32)
  · -- pc 1: yes
    obtain ⟨fs, hr, hrun, hended, hW, hsame⟩ := X0.leave (v := some (.int (0 : Int32))) (fun h => by rw [Bd.returns] at h; cases h)
    refine ⟨_, _, pre0 _ ?_, hrun, hended, _, _, rfl, ?_, ⟨_, rfl⟩, hW, hsame.mono (by decide) (by decide)⟩
    · refine XS.iloadN X0.here hx rfl (hb hby d14_0) rfl ?_
      refine XS.ifYes X0.here hx rfl (pc0 := 1) (pc' := 24) rfl (hb hby d14_1) rfl ((if0 _ _).trans (tlt hc1_198).1) (by decide) (by decide) ?_
      refine XS.iconst X0.here hx rfl (hb hby d14_24) ?_
      exact retN X0 hx (t := .boolean) Bd.returns (by simp) (hb hby d14_25) hr
    · show own_Pure (some (.int r)) h0 n0 _ s₁.heap _
      rw [e0]
      exact ⟨congrArg (fun z => some (Value.int z)) (hrr.1 hc1_198).symm, N0, rfl⟩
  · -- pc 1: no
    have ck200 : ∀ t, Steps p.tables e below (s₁.setTop (mkF m 8 #[.val (.ref a1), .val (.int qq)] [(.int (65535 : Int32)), (.int qq)])) t → Steps p.tables e below (s₁.setTop (entryFrame m #[(.ref a1), (.int qq)] 2)) t := by
      intro t kt
      refine pre0 _ ?_
      refine XS.iloadN X0.here hx rfl (hb hby d14_0) rfl ?_
      refine XS.ifNo X0.here hx rfl (hb hby d14_1) rfl ((if0 _ _).trans (flt hc1_198).1) ?_
      refine XS.iloadN X0.here hx rfl (hb hby d14_4) rfl ?_
      refine X0.ldcwInt hx hown (mvT hZ (own_q hw 140 rfl)) (g := (mkF m 5 #[.val (.ref a1), .val (.int qq)] [(.int qq)])) rfl (hb hby d14_5) _ ?_
      exact kt
    by_cases hc8_199 : (65535 : Int32) < qq
    · -- pc 8: yes
      obtain ⟨fs, hr, hrun, hended, hW, hsame⟩ := X0.leave (v := some (.int (0 : Int32))) (fun h => by rw [Bd.returns] at h; cases h)
      refine ⟨_, _, ck200 _ ?_, hrun, hended, _, _, rfl, ?_, ⟨_, rfl⟩, hW, hsame.mono (by decide) (by decide)⟩
      · refine XS.icmpYes X0.here hx rfl (pc0 := 8) (pc' := 24) rfl (hb hby d14_8) rfl (tlt hc8_199).2.2.1 (by decide) (by decide) ?_
        refine XS.iconst X0.here hx rfl (hb hby d14_24) ?_
        exact retN X0 hx (t := .boolean) Bd.returns (by simp) (hb hby d14_25) hr
      · show own_Pure (some (.int r)) h0 n0 _ s₁.heap _
        rw [e0]
        exact ⟨congrArg (fun z => some (Value.int z)) (hrr.2.1 hc8_199).symm, N0, rfl⟩
    · -- pc 8: no
      obtain ⟨T201, X201, e201, st201⟩ := getF X0 hx hZ hown (host := "") (Or.inl (own_q hw 38 rfl)) Via.refl e0 F_f (g := (mkF m 12 #[.val (.ref a1), .val (.int qq)] [(.ref a1)])) rfl rfl (hb hby d14_12)
      have Vc202 := A_F
      obtain ⟨cl202, Ar202, q202, S202, N202_, H202_, G202⟩ := Vc202
      have hin202 : ¬ (qq < 0 ∨ cl202.slots.size ≤ (qq).toNatClampNeg) := inb_of S202 ⟨hc1_198, (own_lt6 hc8_199)⟩
      have hat202 : cl202.slots[(qq).toNatClampNeg]? = some w := (H202_ _ (Nat.lt_of_not_le fun z => hin202 (Or.inr z))).trans (congrArg some (hv hc1_198 hc8_199))
      have ck203 : ∀ t, Steps p.tables e below (T201.setTop (mkF m 17 #[.val (.ref a1), .val (.int qq)] [w])) t → Steps p.tables e below (s₁.setTop (entryFrame m #[(.ref a1), (.int qq)] 2)) t := by
        intro t kt
        refine ck200 _ ?_
        refine XS.icmpNo X0.here hx rfl (hb hby d14_8) rfl (flt hc8_199).2.2.1 ?_
        refine XS.aloadN X0.here hx rfl (hb hby d14_11) rfl rfl ?_
        refine st201 _ ?_
        show Steps p.tables e below (T201.setTop (mkF m 15 #[.val (.ref a1), .val (.int qq)] [(.ref fa)])) _
        refine XS.iloadN X201.here hx rfl (hb hby d14_15) rfl ?_
        refine X201.aaload hx (j := qq) (v := w) (by rw [e201]; exact Ar202.1) (State.isArrayOf_alike hZ.alike Ar202.2.1) rfl Ar202.2.2 hin202 hat202 (g := (mkF m 16 #[.val (.ref a1), .val (.int qq)] [(.int qq), (.ref fa)])) rfl rfl (hb hby d14_16) _ ?_
        exact kt
      (try clear hat202); (try clear hin202); (try clear G202); (try clear H202_); (try clear N202_); (try clear S202); (try clear q202); (try clear Ar202); (try clear cl202); (try clear st201)
      rcases hwr with rfl | ⟨gg, rfl⟩
      · -- null
        obtain ⟨fs, hr, hrun, hended, hW, hsame⟩ := X201.leave (v := some (.int (0 : Int32))) (fun h => by rw [Bd.returns] at h; cases h)
        refine ⟨_, _, ck203 _ ?_, hrun, hended, _, _, rfl, ?_, ⟨_, rfl⟩, hW, hsame.mono (by decide) (by decide)⟩
        · refine XS.ifnullYes X201.here hx rfl (pc0 := 17) (pc' := 24) rfl (hb hby d14_17) rfl (by decide) (by decide) ?_
          refine XS.iconst X201.here hx rfl (hb hby d14_24) ?_
          exact retN X201 hx (t := .boolean) Bd.returns (by simp) (hb hby d14_25) hr
        · show own_Pure (some (.int r)) h0 n0 _ T201.heap _
          rw [e201]
          exact ⟨congrArg (fun z => some (Value.int z)) (hrr.2.2.1 hc1_198 hc8_199 rfl).symm, N0, rfl⟩
      · -- a floor
        obtain ⟨fs, hr, hrun, hended, hW, hsame⟩ := X201.leave (v := some (.int (1 : Int32))) (fun h => by rw [Bd.returns] at h; cases h)
        refine ⟨_, _, ck203 _ ?_, hrun, hended, _, _, rfl, ?_, ⟨_, rfl⟩, hW, hsame.mono (by decide) (by decide)⟩
        · refine XS.ifnullNo X201.here hx rfl (hb hby d14_17) rfl ?_
          refine XS.iconst X201.here hx rfl (hb hby d14_20) ?_
          refine XS.goto X201.here hx rfl (pc0 := 21) (pc' := 25) rfl (hb hby d14_21) (by decide) (by decide) ?_
          exact retN X201 hx (t := .boolean) Bd.returns (by simp) (hb hby d14_25) hr
        · show own_Pure (some (.int r)) h0 n0 _ T201.heap _
          rw [e201]
          exact ⟨congrArg (fun z => some (Value.int z)) (hrr.2.2.2 hc1_198 hc8_199 nofun).symm, N0, rfl⟩
theorem d5_0 : decode prog_3_method_4_code 0 = .ok (.aload_n 0, 1) := by decide +kernel
theorem d5_1 : decode prog_3_method_4_code 1 = .ok (.invokespecial 32, 3) := by decide +kernel
theorem d5_4 : decode prog_3_method_4_code 4 = .ok (.aload_n 0, 1) := by decide +kernel
theorem d5_5 : decode prog_3_method_4_code 5 = .ok (.ldc 37, 2) := by decide +kernel
theorem d5_7 : decode prog_3_method_4_code 7 = .ok (.anewarray 38, 3) := by decide +kernel
theorem d5_10 : decode prog_3_method_4_code 10 = .ok (.putfield 40, 3) := by decide +kernel
theorem d5_13 : decode prog_3_method_4_code 13 = .ok (.aload_n 0, 1) := by decide +kernel
theorem d5_14 : decode prog_3_method_4_code 14 = .ok (.new 44, 3) := by decide +kernel
theorem d5_17 : decode prog_3_method_4_code 17 = .ok (.dup, 1) := by decide +kernel
theorem d5_18 : decode prog_3_method_4_code 18 = .ok (.invokespecial 46, 3) := by decide +kernel
theorem d5_21 : decode prog_3_method_4_code 21 = .ok (.putfield 47, 3) := by decide +kernel
theorem d5_24 : decode prog_3_method_4_code 24 = .ok (.aload_n 0, 1) := by decide +kernel
theorem d5_25 : decode prog_3_method_4_code 25 = .ok (.new 51, 3) := by decide +kernel
theorem d5_28 : decode prog_3_method_4_code 28 = .ok (.dup, 1) := by decide +kernel
theorem d5_29 : decode prog_3_method_4_code 29 = .ok (.invokespecial 53, 3) := by decide +kernel
theorem d5_32 : decode prog_3_method_4_code 32 = .ok (.putfield 54, 3) := by decide +kernel
theorem d5_35 : decode prog_3_method_4_code 35 = .ok (.aload_n 0, 1) := by decide +kernel
theorem d5_36 : decode prog_3_method_4_code 36 = .ok (.new 44, 3) := by decide +kernel
theorem d5_39 : decode prog_3_method_4_code 39 = .ok (.dup, 1) := by decide +kernel
theorem d5_40 : decode prog_3_method_4_code 40 = .ok (.invokespecial 46, 3) := by decide +kernel
theorem d5_43 : decode prog_3_method_4_code 43 = .ok (.putfield 58, 3) := by decide +kernel
theorem d5_46 : decode prog_3_method_4_code 46 = .ok (.aload_n 0, 1) := by decide +kernel
theorem d5_47 : decode prog_3_method_4_code 47 = .ok (.new 44, 3) := by decide +kernel
theorem d5_50 : decode prog_3_method_4_code 50 = .ok (.dup, 1) := by decide +kernel
theorem d5_51 : decode prog_3_method_4_code 51 = .ok (.invokespecial 46, 3) := by decide +kernel
theorem d5_54 : decode prog_3_method_4_code 54 = .ok (.putfield 61, 3) := by decide +kernel
theorem d5_57 : decode prog_3_method_4_code 57 = .ok (.aload_n 0, 1) := by decide +kernel
theorem d5_58 : decode prog_3_method_4_code 58 = .ok (.new 44, 3) := by decide +kernel
theorem d5_61 : decode prog_3_method_4_code 61 = .ok (.dup, 1) := by decide +kernel
theorem d5_62 : decode prog_3_method_4_code 62 = .ok (.invokespecial 46, 3) := by decide +kernel
theorem d5_65 : decode prog_3_method_4_code 65 = .ok (.putfield 64, 3) := by decide +kernel
theorem d5_68 : decode prog_3_method_4_code 68 = .ok (.aload_n 0, 1) := by decide +kernel
theorem d5_69 : decode prog_3_method_4_code 69 = .ok (.new 67, 3) := by decide +kernel
theorem d5_72 : decode prog_3_method_4_code 72 = .ok (.dup, 1) := by decide +kernel
theorem d5_73 : decode prog_3_method_4_code 73 = .ok (.invokespecial 69, 3) := by decide +kernel
theorem d5_76 : decode prog_3_method_4_code 76 = .ok (.putfield 70, 3) := by decide +kernel
theorem d5_79 : decode prog_3_method_4_code 79 = .ok (.aload_n 0, 1) := by decide +kernel
theorem d5_80 : decode prog_3_method_4_code 80 = .ok (.new 67, 3) := by decide +kernel
theorem d5_83 : decode prog_3_method_4_code 83 = .ok (.dup, 1) := by decide +kernel
theorem d5_84 : decode prog_3_method_4_code 84 = .ok (.invokespecial 69, 3) := by decide +kernel
theorem d5_87 : decode prog_3_method_4_code 87 = .ok (.putfield 74, 3) := by decide +kernel
theorem d5_90 : decode prog_3_method_4_code 90 = .ok (.aload_n 0, 1) := by decide +kernel
theorem d5_91 : decode prog_3_method_4_code 91 = .ok (.lload_n 1, 1) := by decide +kernel
theorem pd_332 : parseMethodDescriptor "(J)J" = some ⟨[.long], some .long⟩ := by decide +kernel
theorem d5_92 : decode prog_3_method_4_code 92 = .ok (.invokestatic 21, 3) := by decide +kernel
theorem d5_95 : decode prog_3_method_4_code 95 = .ok (.putfield 77, 3) := by decide +kernel
theorem d5_98 : decode prog_3_method_4_code 98 = .ok (.aload_n 3, 1) := by decide +kernel
theorem pd_336 : parseMethodDescriptor "()Ljava/util/Iterator;" = some ⟨[], some (.object "java/util/Iterator")⟩ := by decide +kernel
theorem d5_99 : decode prog_3_method_4_code 99 = .ok (.invokeinterface 81 1, 5) := by decide +kernel
theorem d5_104 : decode prog_3_method_4_code 104 = .ok (.astore 5, 2) := by decide +kernel
theorem d5_106 : decode prog_3_method_4_code 106 = .ok (.aload 5, 2) := by decide +kernel
theorem pd_340 : parseMethodDescriptor "()Z" = some ⟨[], some .boolean⟩ := by decide +kernel
theorem d5_108 : decode prog_3_method_4_code 108 = .ok (.invokeinterface 87 1, 5) := by decide +kernel
theorem d5_113 : decode prog_3_method_4_code 113 = .ok (.ifCond .eq 67, 3) := by decide +kernel
theorem d5_180 : decode prog_3_method_4_code 180 = .ok (.aload 4, 2) := by decide +kernel
theorem d5_182 : decode prog_3_method_4_code 182 = .ok (.invokeinterface 81 1, 5) := by decide +kernel
theorem d5_187 : decode prog_3_method_4_code 187 = .ok (.astore 5, 2) := by decide +kernel
theorem d5_189 : decode prog_3_method_4_code 189 = .ok (.aload 5, 2) := by decide +kernel
theorem d5_191 : decode prog_3_method_4_code 191 = .ok (.invokeinterface 87 1, 5) := by decide +kernel
theorem d5_196 : decode prog_3_method_4_code 196 = .ok (.ifCond .eq 81, 3) := by decide +kernel
theorem d5_277 : decode prog_3_method_4_code 277 = .ok (.aload_n 3, 1) := by decide +kernel
theorem d5_278 : decode prog_3_method_4_code 278 = .ok (.invokeinterface 81 1, 5) := by decide +kernel
theorem d5_283 : decode prog_3_method_4_code 283 = .ok (.astore 5, 2) := by decide +kernel
theorem d5_285 : decode prog_3_method_4_code 285 = .ok (.aload 5, 2) := by decide +kernel
theorem d5_287 : decode prog_3_method_4_code 287 = .ok (.invokeinterface 87 1, 5) := by decide +kernel
theorem d5_292 : decode prog_3_method_4_code 292 = .ok (.ifCond .eq 71, 3) := by decide +kernel
theorem d5_363 : decode prog_3_method_4_code 363 = .ok (.return_, 1) := by decide +kernel
theorem ef_rm_cfi_0 (m : MethodId) (x0 : Addr) (x1 : Int64) (x2 : Addr) (x3 : Addr) : entryFrame m #[(.ref x0), (.long x1), (.ref x2), (.ref x3)] 8 = mkF m 0 #[.val (.ref x0), .val (.long x1), .second, .val (.ref x2), .val (.ref x3), .unset, .unset, .unset] [] := by first | (simp [entryFrame, mkF, argsToLocals, Value.category]; done) | rfl
set_option maxRecDepth 65536 in
set_option maxHeartbeats 40000000 in
theorem rm_cfi_0 (l : Launch) (Z : State) (a0 : Array Value) (hw : ∀ d ∈ tables_1, d.before a0 Z = true) (ws : List Jvm.Cond) (a1 : Addr) (x : Int64) (fl : Addr) (us : Addr) (h0 : Heap) (n0 : Nat) (Z0 : n0 ≤ h0.size) (E_a : Exa Z h0 a1 "com/example/parley/parley/floor/Conference") (F_floors : Fld Z h0 a1 "com/example/parley/parley/floor/Conference" "floors" "[Lcom/example/parley/parley/floor/Conference$Floor;" .null) (F_users : Fld Z h0 a1 "com/example/parley/parley/floor/Conference" "users" "Ljava/util/Map;" .null) (F_pinned : Fld Z h0 a1 "com/example/parley/parley/floor/Conference" "pinned" "Ljava/util/Set;" .null) (F_requests : Fld Z h0 a1 "com/example/parley/parley/floor/Conference" "requests" "Ljava/util/Map;" .null) (F_madeBy : Fld Z h0 a1 "com/example/parley/parley/floor/Conference" "madeBy" "Ljava/util/Map;" .null) (F_madeFor : Fld Z h0 a1 "com/example/parley/parley/floor/Conference" "madeFor" "Ljava/util/Map;" .null) (F_requesterListeners : Fld Z h0 a1 "com/example/parley/parley/floor/Conference" "requesterListeners" "Ljava/util/List;" .null) (F_changeListeners : Fld Z h0 a1 "com/example/parley/parley/floor/Conference" "changeListeners" "Ljava/util/List;" .null) (F_id : Fld Z h0 a1 "com/example/parley/parley/floor/Conference" "id" "J" (.long (0 : Int64))) (gn_a : n0 ≤ a1) (hS : Heap) (hn : hS.size ≤ n0) (hEx : Ext hS h0) (dE oe : Addr) (kD : ClassId) (hWd : own_Wd Z hS dE kD oe) (hx0 : 0 ≤ x.toInt) (hx1 : x.toInt ≤ 4294967295) (hFl : own_AL Z h0 fl (.ref dE) (0 : Int32) (0 : Int32)) (hUs : own_AL Z h0 us (.ref dE) (0 : Int32) (0 : Int32)) (nf : fl ≠ a1) (nu : us ≠ a1)  :
    MetFree l (⟨"com/example/parley/parley/floor/Conference", "<init>", "(JLjava/util/Collection;Ljava/util/Collection;)V"⟩ : MethodName) (head1 (Jvm.Cond.code (⟨"com/example/parley/parley/floor/Conference", "<init>", "(JLjava/util/Collection;Ljava/util/Collection;)V"⟩ : MethodName) prog_3_method_4_code 8 none :: ws) ({ frames := 4, cells := 12, slots := 65595, locals := 52 } : Room)) (fun aQ UQ => aQ = #[(.ref a1), (.long x), (.ref fl), (.ref us)] ∧ Z.Warmed39 UQ.vm ∧ UQ.heap = h0) (fun _ _ _ _ _ => True) (fun _ UQ oQ UR => ∃ vQ LQ, oQ = .returned vQ ∧ own_Do none [a1] (fun h => ∃ (fa : Addr) (kF : ClassId), Exa Z h a1 "com/example/parley/parley/floor/Conference" ∧ Fld Z h a1 "com/example/parley/parley/floor/Conference" "floors" "[Lcom/example/parley/parley/floor/Conference$Floor;" (.ref fa) ∧ Arh Z h fa kF (.object "com/example/parley/parley/floor/Conference$Floor") (65536 : Int32) [] [] .null) h0 n0 vQ UR.heap LQ ∧ FrameEnd UQ oQ UR LQ ({ frames := 4, cells := 12, slots := 65595, locals := 52 } : Room).cells ({ frames := 4, cells := 12, slots := 65595, locals := 52 } : Room).slots) := by
  refine MetFree.of_bodySF (plainFor_of_name pn_57) hisR ?_
  intro p e s m args below meth c s₁ Bd hml0 hP hK
  obtain ⟨rfl, hZ, hh⟩ := hP
  have hx := Bd.exec
  have hby := Bd.bytes
  have hml : c.maxLocals = 8 := hml0
  have hown : s.vm.findClass "com/example/parley/parley/floor/Conference" = some m.cls := findClass_of_methodNamed Bd.named
  have hnm := (name_of_methodNamed Bd.named Bd.method).1
  have X0 : Stand p l e ({ frames := 4, cells := 12, slots := 65595, locals := 52 } : Room) s m #[(.ref a1), (.long x), (.ref fl), (.ref us)] below meth c s₁ [] 0 0 := Stand.of_body Bd
  have e0 : s₁.heap = h0 := by rw [← hh, Bd.state]; rfl
  have N0 := Fr.nil n0
  have pre0 : ∀ t, Steps p.tables e below (s₁.setTop (mkF m 0 #[.val (.ref a1), .val (.long x), .second, .val (.ref fl), .val (.ref us), .unset, .unset, .unset] [])) t → Steps p.tables e below (s₁.setTop (entryFrame m #[(.ref a1), (.long x), (.ref fl), (.ref us)] 8)) t := fun t kq => castTop (ef_rm_cfi_0 m a1 x fl us) kq
  obtain ⟨S_D, A_D, S_O, E_O, F_O⟩ := id hWd
  obtain ⟨T204, X204, e204, st204⟩ := initO X0 hx hZ hown (own_q hw 34 rfl) (own_q hw 20 rfl) (own_q hw 21 rfl) e0 (g := (mkF m 1 #[.val (.ref a1), .val (.long x), .second, .val (.ref fl), .val (.ref us), .unset, .unset, .unset] [(.ref a1)])) rfl (by rw [hml]; rfl) rfl (hb hby d5_1) (by decide) (W := 0) (by show 2 * 0 + _ ≤ _; exact Nat.le_of_eq rfl) (by decide)
  obtain ⟨T205, h205, k205, X205, e205, E205, A205, O205, st205⟩ := newR X204 hx hZ hown (own_q hw 36 rfl) (own_q hw 37 rfl) e204 (g := (mkF m 7 #[.val (.ref a1), .val (.long x), .second, .val (.ref fl), .val (.ref us), .unset, .unset, .unset] [(.int (65536 : Int32)), (.ref a1)])) rfl (hb hby d5_7) rfl (by decide) (cap := 65536) (by decide) (by decide) (by decide) (by decide)
  obtain ⟨b205, g205⟩ : ∃ z, z = h0.size := ⟨_, rfl⟩
  rw [← g205] at A205 st205
  have sz_b205 : h0.size ≤ b205 := Nat.le_trans (Keep.refl h0 [a1]).1 (Nat.le_of_eq g205.symm)
  have gn_b205 : n0 ≤ b205 := Nat.le_trans Z0 sz_b205
  have ne_a1_b205 : a1 ≠ b205 := Nat.ne_of_lt (Nat.lt_of_lt_of_le E_a.lt (Nat.le_of_eq g205.symm))
  have EX205 := own_ext_trans (own_ext_refl h0) E205
  have KP205 := Keep.ext (Keep.refl h0 [a1]) E205
  have V205 : Arh Z h205 b205 k205 (.object "com/example/parley/parley/floor/Conference$Floor") (65536 : Int32) [] [] .null := Arv.arh (Arv.new A205 (by decide))
  have Fx206 := (E_a.ext E205)
  have Fx207 := (F_floors.ext E205)
  obtain ⟨T208, h208, X208, e208, W208, st208⟩ := putF X205 hx hZ hown (host := "") (Or.inl (own_q hw 38 rfl)) Via.refl e205 Fx207 Fx206 (Or.inr ⟨(own_q hw 39 rfl), rfl, hnm⟩) (own_q hw 28 rfl) (ty := (.array (.object "com/example/parley/parley/floor/Conference$Floor"))) (by decide) rfl rfl (g := (mkF m 10 #[.val (.ref a1), .val (.long x), .second, .val (.ref fl), .val (.ref us), .unset, .unset, .unset] [(.ref b205), (.ref a1)])) rfl rfl (hb hby d5_10)
  have KP208 := Keep.wr KP205 W208 (Or.inl (List.mem_of_getElem? (i := 0) rfl))
  have Fw208 := Fx207.same W208
  have N208 := Fr.snoc X208 N0 gn_a
  have Fx209 := (V205.other W208 (Ne.symm ne_a1_b205))
  have Fx210 := (Fx206.wr W208)
  obtain ⟨T211, h211, X211, e211, E211, A211, D211, -, st211⟩ := newO X208 hx hZ hown (own_q hw 40 rfl) (own_q hw 41 rfl) (own_q hw 42 rfl) e208 (g := (mkF m 14 #[.val (.ref a1), .val (.long x), .second, .val (.ref fl), .val (.ref us), .unset, .unset, .unset] [(.ref a1)])) rfl (hb hby d5_14) (by decide) (by decide)
  obtain ⟨b211, g211⟩ : ∃ z, z = h208.size := ⟨_, rfl⟩
  rw [← g211] at A211 D211 st211
  have sz_b211 : h0.size ≤ b211 := Nat.le_trans KP208.1 (Nat.le_of_eq g211.symm)
  have gn_b211 : n0 ≤ b211 := Nat.le_trans Z0 sz_b211
  have ne_b205_b211 : b205 ≠ b211 := Nat.ne_of_lt (Nat.lt_of_lt_of_le Fx209.lt (Nat.le_of_eq g211.symm))
  have ne_a1_b211 : a1 ≠ b211 := Nat.ne_of_lt (Nat.lt_of_lt_of_le Fx210.lt (Nat.le_of_eq g211.symm))
  have KP211 := Keep.ext KP208 E211
  have F211_loadFactor : Fld Z h211 b211 "java/util/HashMap" "loadFactor" "F" (.float (0 : UInt32)) := D211 (Or.inr (own_q hw 55 rfl)) (ty := .float) (by decide)
  obtain ⟨_, _, ⟨T212, L212, k212, n212⟩, -, X212, ⟨Lc212, hQ212, l212, y212, z212⟩, st212⟩ := X211.specialBack hx (y := (⟨"java/util/HashMap", "<init>", "()V"⟩ : MethodName)) rfl hown (mvT hZ (own_q hw 43 rfl)) (mvT hZ (own_q hw 44 rfl)) (mvT hZ (own_q hw 45 rfl)) (by decide) (backOf (W := 2) (rm_hm l Z a0 hw [] b211 h211 n0 (Nat.le_trans Z0 KP211.1) A211 F211_loadFactor gn_b211) hZ (own_q hw 45 rfl) (own_q hw 42 rfl) (by decide) (by decide)) (g := (mkF m 18 #[.val (.ref a1), .val (.long x), .second, .val (.ref fl), .val (.ref us), .unset, .unset, .unset] [(.ref b211), (.ref b211), (.ref a1)])) rfl (by rw [hml]; rfl) (Steps.refl _) (a := b211) (argsL := []) (rest := [(.ref b211), (.ref a1)]) (lenOf pd_13 rfl) rfl (by show 2 * 0 + _ ≤ _; exact Nat.le_of_eq rfl) (hb hby d5_18) (fun _ _ => ⟨rfl, e211, (by decide : 2 + 0 ≤ _), (by decide : 65544 + 0 ≤ _)⟩)
  dsimp only [Pt.U, Pt.locs, Pt.cells, Pt.slots] at X212 l212 y212 z212 st212 hQ212
  obtain rfl : k212 = 2 := y212; obtain rfl : n212 = 65544 := z212
  obtain ⟨rfl, N212q, K212⟩ := hQ212
  have N212 : Fr n0 L212 := by rw [l212]; exact Fr.app N208 N212q
  have e212 : T212.heap = T212.heap := rfl
  have KP212 := Keep.trans KP211 K212 (allS (Or.inr sz_b211) all0)
  have Fx213 := ((Fx210.ext E211).keep K212)
  have Fx214 := ((((F_users.ext E205).other W208 (Or.inr (slot_ne (Or.inr (own_q hw 57 rfl)) (Or.inr (own_q hw 39 rfl)) (by decide) (t := (.object "java/util/Map")) (t' := (.array (.object "com/example/parley/parley/floor/Conference$Floor"))) (by decide) (by decide)))).ext E211).keep K212 (ninS ne_a1_b211 nin0))
  obtain ⟨T215, h215, X215, e215, W215, st215⟩ := putF X212 hx hZ hown (host := "") (Or.inl (own_q hw 56 rfl)) Via.refl e212 Fx214 Fx213 (Or.inr ⟨(own_q hw 57 rfl), rfl, hnm⟩) (own_q hw 28 rfl) (ty := (.object "java/util/Map")) (by decide) rfl rfl (g := (mkF m 21 #[.val (.ref a1), .val (.long x), .second, .val (.ref fl), .val (.ref us), .unset, .unset, .unset] [(.ref b211), (.ref a1)])) rfl rfl (hb hby d5_21)
  have KP215 := Keep.wr KP212 W215 (Or.inl (List.mem_of_getElem? (i := 0) rfl))
  have Fw215 := Fx214.same W215
  have N215 := Fr.snoc X215 N212 gn_a
  have Fx216 := (((Fx209.ext E211).keep K212 (ninS ne_b205_b211 nin0)).other W215 (Ne.symm ne_a1_b205))
  have Fx217 := (Fx213.wr W215)
  obtain ⟨T218, h218, X218, e218, E218, A218, D218, -, st218⟩ := newO X215 hx hZ hown (own_q hw 58 rfl) (own_q hw 59 rfl) (own_q hw 60 rfl) e215 (g := (mkF m 25 #[.val (.ref a1), .val (.long x), .second, .val (.ref fl), .val (.ref us), .unset, .unset, .unset] [(.ref a1)])) rfl (hb hby d5_25) (by decide) (by decide)
  obtain ⟨b218, g218⟩ : ∃ z, z = h215.size := ⟨_, rfl⟩
  rw [← g218] at A218 D218 st218
  have sz_b218 : h0.size ≤ b218 := Nat.le_trans KP215.1 (Nat.le_of_eq g218.symm)
  have gn_b218 : n0 ≤ b218 := Nat.le_trans Z0 sz_b218
  have ne_b205_b218 : b205 ≠ b218 := Nat.ne_of_lt (Nat.lt_of_lt_of_le Fx216.lt (Nat.le_of_eq g218.symm))
  have ne_a1_b218 : a1 ≠ b218 := Nat.ne_of_lt (Nat.lt_of_lt_of_le Fx217.lt (Nat.le_of_eq g218.symm))
  have KP218 := Keep.ext KP215 E218
  have F218_map : Fld Z h218 b218 "java/util/HashSet" "map" "Ljava/util/HashMap;" .null := D218 (Or.inl (own_q hw 76 rfl)) (ty := (.object "java/util/HashMap")) (by decide)
  obtain ⟨_, _, ⟨T219, L219, k219, n219⟩, -, X219, ⟨Lc219, hQ219, l219, y219, z219⟩, st219⟩ := X218.specialBack hx (y := (⟨"java/util/HashSet", "<init>", "()V"⟩ : MethodName)) rfl hown (mvT hZ (own_q hw 61 rfl)) (mvT hZ (own_q hw 62 rfl)) (mvT hZ (own_q hw 63 rfl)) (by decide) (backOf (W := 2) (rm_hs l Z a0 hw [] b218 h218 n0 (Nat.le_trans Z0 KP218.1) A218 F218_map gn_b218) hZ (own_q hw 63 rfl) (own_q hw 60 rfl) (by decide) (by decide)) (g := (mkF m 29 #[.val (.ref a1), .val (.long x), .second, .val (.ref fl), .val (.ref us), .unset, .unset, .unset] [(.ref b218), (.ref b218), (.ref a1)])) rfl (by rw [hml]; rfl) (Steps.refl _) (a := b218) (argsL := []) (rest := [(.ref b218), (.ref a1)]) (lenOf pd_13 rfl) rfl (by show 2 * 0 + _ ≤ _; exact Nat.le_of_eq rfl) (hb hby d5_29) (fun _ _ => ⟨rfl, e218, (by decide : 3 + 1 ≤ _), (by decide : 65545 + 8 ≤ _)⟩)
  dsimp only [Pt.U, Pt.locs, Pt.cells, Pt.slots] at X219 l219 y219 z219 st219 hQ219
  obtain rfl : k219 = 4 := y219; obtain rfl : n219 = 65553 := z219
  obtain ⟨rfl, N219q, K219⟩ := hQ219
  have N219 : Fr n0 L219 := by rw [l219]; exact Fr.app N215 N219q
  have e219 : T219.heap = T219.heap := rfl
  have KP219 := Keep.trans KP218 K219 (allS (Or.inr sz_b218) all0)
  have Fx220 := ((Fx217.ext E218).keep K219)
  have Fx221 := (((((((F_pinned.ext E205).other W208 (Or.inr (slot_ne (Or.inr (own_q hw 78 rfl)) (Or.inr (own_q hw 39 rfl)) (by decide) (t := (.object "java/util/Set")) (t' := (.array (.object "com/example/parley/parley/floor/Conference$Floor"))) (by decide) (by decide)))).ext E211).keep K212 (ninS ne_a1_b211 nin0)).other W215 (Or.inr (slot_ne (Or.inr (own_q hw 78 rfl)) (Or.inr (own_q hw 57 rfl)) (by decide) (t := (.object "java/util/Set")) (t' := (.object "java/util/Map")) (by decide) (by decide)))).ext E218).keep K219 (ninS ne_a1_b218 nin0))
  obtain ⟨T222, h222, X222, e222, W222, st222⟩ := putF X219 hx hZ hown (host := "") (Or.inl (own_q hw 77 rfl)) Via.refl e219 Fx221 Fx220 (Or.inr ⟨(own_q hw 78 rfl), rfl, hnm⟩) (own_q hw 28 rfl) (ty := (.object "java/util/Set")) (by decide) rfl rfl (g := (mkF m 32 #[.val (.ref a1), .val (.long x), .second, .val (.ref fl), .val (.ref us), .unset, .unset, .unset] [(.ref b218), (.ref a1)])) rfl rfl (hb hby d5_32)
  have KP222 := Keep.wr KP219 W222 (Or.inl (List.mem_of_getElem? (i := 0) rfl))
  have Fw222 := Fx221.same W222
  have N222 := Fr.snoc X222 N219 gn_a
  have Fx223 := (((Fx216.ext E218).keep K219 (ninS ne_b205_b218 nin0)).other W222 (Ne.symm ne_a1_b205))
  have Fx224 := (Fx220.wr W222)
  obtain ⟨T225, h225, X225, e225, E225, A225, D225, -, st225⟩ := newO X222 hx hZ hown (own_q hw 40 rfl) (own_q hw 41 rfl) (own_q hw 42 rfl) e222 (g := (mkF m 36 #[.val (.ref a1), .val (.long x), .second, .val (.ref fl), .val (.ref us), .unset, .unset, .unset] [(.ref a1)])) rfl (hb hby d5_36) (by decide) (by decide)
  obtain ⟨b225, g225⟩ : ∃ z, z = h222.size := ⟨_, rfl⟩
  rw [← g225] at A225 D225 st225
  have sz_b225 : h0.size ≤ b225 := Nat.le_trans KP222.1 (Nat.le_of_eq g225.symm)
  have gn_b225 : n0 ≤ b225 := Nat.le_trans Z0 sz_b225
  have ne_b205_b225 : b205 ≠ b225 := Nat.ne_of_lt (Nat.lt_of_lt_of_le Fx223.lt (Nat.le_of_eq g225.symm))
  have ne_a1_b225 : a1 ≠ b225 := Nat.ne_of_lt (Nat.lt_of_lt_of_le Fx224.lt (Nat.le_of_eq g225.symm))
  have KP225 := Keep.ext KP222 E225
  have F225_loadFactor : Fld Z h225 b225 "java/util/HashMap" "loadFactor" "F" (.float (0 : UInt32)) := D225 (Or.inr (own_q hw 55 rfl)) (ty := .float) (by decide)
  obtain ⟨_, _, ⟨T226, L226, k226, n226⟩, -, X226, ⟨Lc226, hQ226, l226, y226, z226⟩, st226⟩ := X225.specialBack hx (y := (⟨"java/util/HashMap", "<init>", "()V"⟩ : MethodName)) rfl hown (mvT hZ (own_q hw 43 rfl)) (mvT hZ (own_q hw 44 rfl)) (mvT hZ (own_q hw 45 rfl)) (by decide) (backOf (W := 2) (rm_hm l Z a0 hw [] b225 h225 n0 (Nat.le_trans Z0 KP225.1) A225 F225_loadFactor gn_b225) hZ (own_q hw 45 rfl) (own_q hw 42 rfl) (by decide) (by decide)) (g := (mkF m 40 #[.val (.ref a1), .val (.long x), .second, .val (.ref fl), .val (.ref us), .unset, .unset, .unset] [(.ref b225), (.ref b225), (.ref a1)])) rfl (by rw [hml]; rfl) (Steps.refl _) (a := b225) (argsL := []) (rest := [(.ref b225), (.ref a1)]) (lenOf pd_13 rfl) rfl (by show 2 * 0 + _ ≤ _; exact Nat.le_of_eq rfl) (hb hby d5_40) (fun _ _ => ⟨rfl, e225, (by decide : 5 + 0 ≤ _), (by decide : 65561 + 0 ≤ _)⟩)
  dsimp only [Pt.U, Pt.locs, Pt.cells, Pt.slots] at X226 l226 y226 z226 st226 hQ226
  obtain rfl : k226 = 5 := y226; obtain rfl : n226 = 65561 := z226
  obtain ⟨rfl, N226q, K226⟩ := hQ226
  have N226 : Fr n0 L226 := by rw [l226]; exact Fr.app N222 N226q
  have e226 : T226.heap = T226.heap := rfl
  have KP226 := Keep.trans KP225 K226 (allS (Or.inr sz_b225) all0)
  have Fx227 := ((Fx224.ext E225).keep K226)
  have Fx228 := ((((((((((F_requests.ext E205).other W208 (Or.inr (slot_ne (Or.inr (own_q hw 80 rfl)) (Or.inr (own_q hw 39 rfl)) (by decide) (t := (.object "java/util/Map")) (t' := (.array (.object "com/example/parley/parley/floor/Conference$Floor"))) (by decide) (by decide)))).ext E211).keep K212 (ninS ne_a1_b211 nin0)).other W215 (Or.inr (slot_ne (Or.inr (own_q hw 80 rfl)) (Or.inr (own_q hw 57 rfl)) (by decide) (t := (.object "java/util/Map")) (t' := (.object "java/util/Map")) (by decide) (by decide)))).ext E218).keep K219 (ninS ne_a1_b218 nin0)).other W222 (Or.inr (slot_ne (Or.inr (own_q hw 80 rfl)) (Or.inr (own_q hw 78 rfl)) (by decide) (t := (.object "java/util/Map")) (t' := (.object "java/util/Set")) (by decide) (by decide)))).ext E225).keep K226 (ninS ne_a1_b225 nin0))
  obtain ⟨T229, h229, X229, e229, W229, st229⟩ := putF X226 hx hZ hown (host := "") (Or.inl (own_q hw 79 rfl)) Via.refl e226 Fx228 Fx227 (Or.inr ⟨(own_q hw 80 rfl), rfl, hnm⟩) (own_q hw 28 rfl) (ty := (.object "java/util/Map")) (by decide) rfl rfl (g := (mkF m 43 #[.val (.ref a1), .val (.long x), .second, .val (.ref fl), .val (.ref us), .unset, .unset, .unset] [(.ref b225), (.ref a1)])) rfl rfl (hb hby d5_43)
  have KP229 := Keep.wr KP226 W229 (Or.inl (List.mem_of_getElem? (i := 0) rfl))
  have Fw229 := Fx228.same W229
  have N229 := Fr.snoc X229 N226 gn_a
  have Fx230 := (((Fx223.ext E225).keep K226 (ninS ne_b205_b225 nin0)).other W229 (Ne.symm ne_a1_b205))
  have Fx231 := (Fx227.wr W229)
  obtain ⟨T232, h232, X232, e232, E232, A232, D232, -, st232⟩ := newO X229 hx hZ hown (own_q hw 40 rfl) (own_q hw 41 rfl) (own_q hw 42 rfl) e229 (g := (mkF m 47 #[.val (.ref a1), .val (.long x), .second, .val (.ref fl), .val (.ref us), .unset, .unset, .unset] [(.ref a1)])) rfl (hb hby d5_47) (by decide) (by decide)
  obtain ⟨b232, g232⟩ : ∃ z, z = h229.size := ⟨_, rfl⟩
  rw [← g232] at A232 D232 st232
  have sz_b232 : h0.size ≤ b232 := Nat.le_trans KP229.1 (Nat.le_of_eq g232.symm)
  have gn_b232 : n0 ≤ b232 := Nat.le_trans Z0 sz_b232
  have ne_b205_b232 : b205 ≠ b232 := Nat.ne_of_lt (Nat.lt_of_lt_of_le Fx230.lt (Nat.le_of_eq g232.symm))
  have ne_a1_b232 : a1 ≠ b232 := Nat.ne_of_lt (Nat.lt_of_lt_of_le Fx231.lt (Nat.le_of_eq g232.symm))
  have KP232 := Keep.ext KP229 E232
  have F232_loadFactor : Fld Z h232 b232 "java/util/HashMap" "loadFactor" "F" (.float (0 : UInt32)) := D232 (Or.inr (own_q hw 55 rfl)) (ty := .float) (by decide)
  obtain ⟨_, _, ⟨T233, L233, k233, n233⟩, -, X233, ⟨Lc233, hQ233, l233, y233, z233⟩, st233⟩ := X232.specialBack hx (y := (⟨"java/util/HashMap", "<init>", "()V"⟩ : MethodName)) rfl hown (mvT hZ (own_q hw 43 rfl)) (mvT hZ (own_q hw 44 rfl)) (mvT hZ (own_q hw 45 rfl)) (by decide) (backOf (W := 2) (rm_hm l Z a0 hw [] b232 h232 n0 (Nat.le_trans Z0 KP232.1) A232 F232_loadFactor gn_b232) hZ (own_q hw 45 rfl) (own_q hw 42 rfl) (by decide) (by decide)) (g := (mkF m 51 #[.val (.ref a1), .val (.long x), .second, .val (.ref fl), .val (.ref us), .unset, .unset, .unset] [(.ref b232), (.ref b232), (.ref a1)])) rfl (by rw [hml]; rfl) (Steps.refl _) (a := b232) (argsL := []) (rest := [(.ref b232), (.ref a1)]) (lenOf pd_13 rfl) rfl (by show 2 * 0 + _ ≤ _; exact Nat.le_of_eq rfl) (hb hby d5_51) (fun _ _ => ⟨rfl, e232, (by decide : 6 + 0 ≤ _), (by decide : 65569 + 0 ≤ _)⟩)
  dsimp only [Pt.U, Pt.locs, Pt.cells, Pt.slots] at X233 l233 y233 z233 st233 hQ233
  obtain rfl : k233 = 6 := y233; obtain rfl : n233 = 65569 := z233
  obtain ⟨rfl, N233q, K233⟩ := hQ233
  have N233 : Fr n0 L233 := by rw [l233]; exact Fr.app N229 N233q
  have e233 : T233.heap = T233.heap := rfl
  have KP233 := Keep.trans KP232 K233 (allS (Or.inr sz_b232) all0)
  have Fx234 := ((Fx231.ext E232).keep K233)
  have Fx235 := (((((((((((((F_madeBy.ext E205).other W208 (Or.inr (slot_ne (Or.inr (own_q hw 82 rfl)) (Or.inr (own_q hw 39 rfl)) (by decide) (t := (.object "java/util/Map")) (t' := (.array (.object "com/example/parley/parley/floor/Conference$Floor"))) (by decide) (by decide)))).ext E211).keep K212 (ninS ne_a1_b211 nin0)).other W215 (Or.inr (slot_ne (Or.inr (own_q hw 82 rfl)) (Or.inr (own_q hw 57 rfl)) (by decide) (t := (.object "java/util/Map")) (t' := (.object "java/util/Map")) (by decide) (by decide)))).ext E218).keep K219 (ninS ne_a1_b218 nin0)).other W222 (Or.inr (slot_ne (Or.inr (own_q hw 82 rfl)) (Or.inr (own_q hw 78 rfl)) (by decide) (t := (.object "java/util/Map")) (t' := (.object "java/util/Set")) (by decide) (by decide)))).ext E225).keep K226 (ninS ne_a1_b225 nin0)).other W229 (Or.inr (slot_ne (Or.inr (own_q hw 82 rfl)) (Or.inr (own_q hw 80 rfl)) (by decide) (t := (.object "java/util/Map")) (t' := (.object "java/util/Map")) (by decide) (by decide)))).ext E232).keep K233 (ninS ne_a1_b232 nin0))
  obtain ⟨T236, h236, X236, e236, W236, st236⟩ := putF X233 hx hZ hown (host := "") (Or.inl (own_q hw 81 rfl)) Via.refl e233 Fx235 Fx234 (Or.inr ⟨(own_q hw 82 rfl), rfl, hnm⟩) (own_q hw 28 rfl) (ty := (.object "java/util/Map")) (by decide) rfl rfl (g := (mkF m 54 #[.val (.ref a1), .val (.long x), .second, .val (.ref fl), .val (.ref us), .unset, .unset, .unset] [(.ref b232), (.ref a1)])) rfl rfl (hb hby d5_54)
  have KP236 := Keep.wr KP233 W236 (Or.inl (List.mem_of_getElem? (i := 0) rfl))
  have Fw236 := Fx235.same W236
  have N236 := Fr.snoc X236 N233 gn_a
  have Fx237 := (((Fx230.ext E232).keep K233 (ninS ne_b205_b232 nin0)).other W236 (Ne.symm ne_a1_b205))
  have Fx238 := (Fx234.wr W236)
  obtain ⟨T239, h239, X239, e239, E239, A239, D239, -, st239⟩ := newO X236 hx hZ hown (own_q hw 40 rfl) (own_q hw 41 rfl) (own_q hw 42 rfl) e236 (g := (mkF m 58 #[.val (.ref a1), .val (.long x), .second, .val (.ref fl), .val (.ref us), .unset, .unset, .unset] [(.ref a1)])) rfl (hb hby d5_58) (by decide) (by decide)
  obtain ⟨b239, g239⟩ : ∃ z, z = h236.size := ⟨_, rfl⟩
  rw [← g239] at A239 D239 st239
  have sz_b239 : h0.size ≤ b239 := Nat.le_trans KP236.1 (Nat.le_of_eq g239.symm)
  have gn_b239 : n0 ≤ b239 := Nat.le_trans Z0 sz_b239
  have ne_b205_b239 : b205 ≠ b239 := Nat.ne_of_lt (Nat.lt_of_lt_of_le Fx237.lt (Nat.le_of_eq g239.symm))
  have ne_a1_b239 : a1 ≠ b239 := Nat.ne_of_lt (Nat.lt_of_lt_of_le Fx238.lt (Nat.le_of_eq g239.symm))
  have KP239 := Keep.ext KP236 E239
  have F239_loadFactor : Fld Z h239 b239 "java/util/HashMap" "loadFactor" "F" (.float (0 : UInt32)) := D239 (Or.inr (own_q hw 55 rfl)) (ty := .float) (by decide)
  obtain ⟨_, _, ⟨T240, L240, k240, n240⟩, -, X240, ⟨Lc240, hQ240, l240, y240, z240⟩, st240⟩ := X239.specialBack hx (y := (⟨"java/util/HashMap", "<init>", "()V"⟩ : MethodName)) rfl hown (mvT hZ (own_q hw 43 rfl)) (mvT hZ (own_q hw 44 rfl)) (mvT hZ (own_q hw 45 rfl)) (by decide) (backOf (W := 2) (rm_hm l Z a0 hw [] b239 h239 n0 (Nat.le_trans Z0 KP239.1) A239 F239_loadFactor gn_b239) hZ (own_q hw 45 rfl) (own_q hw 42 rfl) (by decide) (by decide)) (g := (mkF m 62 #[.val (.ref a1), .val (.long x), .second, .val (.ref fl), .val (.ref us), .unset, .unset, .unset] [(.ref b239), (.ref b239), (.ref a1)])) rfl (by rw [hml]; rfl) (Steps.refl _) (a := b239) (argsL := []) (rest := [(.ref b239), (.ref a1)]) (lenOf pd_13 rfl) rfl (by show 2 * 0 + _ ≤ _; exact Nat.le_of_eq rfl) (hb hby d5_62) (fun _ _ => ⟨rfl, e239, (by decide : 7 + 0 ≤ _), (by decide : 65577 + 0 ≤ _)⟩)
  dsimp only [Pt.U, Pt.locs, Pt.cells, Pt.slots] at X240 l240 y240 z240 st240 hQ240
  obtain rfl : k240 = 7 := y240; obtain rfl : n240 = 65577 := z240
  obtain ⟨rfl, N240q, K240⟩ := hQ240
  have N240 : Fr n0 L240 := by rw [l240]; exact Fr.app N236 N240q
  have e240 : T240.heap = T240.heap := rfl
  have KP240 := Keep.trans KP239 K240 (allS (Or.inr sz_b239) all0)
  have Fx241 := ((Fx238.ext E239).keep K240)
  have Fx242 := ((((((((((((((((F_madeFor.ext E205).other W208 (Or.inr (slot_ne (Or.inr (own_q hw 84 rfl)) (Or.inr (own_q hw 39 rfl)) (by decide) (t := (.object "java/util/Map")) (t' := (.array (.object "com/example/parley/parley/floor/Conference$Floor"))) (by decide) (by decide)))).ext E211).keep K212 (ninS ne_a1_b211 nin0)).other W215 (Or.inr (slot_ne (Or.inr (own_q hw 84 rfl)) (Or.inr (own_q hw 57 rfl)) (by decide) (t := (.object "java/util/Map")) (t' := (.object "java/util/Map")) (by decide) (by decide)))).ext E218).keep K219 (ninS ne_a1_b218 nin0)).other W222 (Or.inr (slot_ne (Or.inr (own_q hw 84 rfl)) (Or.inr (own_q hw 78 rfl)) (by decide) (t := (.object "java/util/Map")) (t' := (.object "java/util/Set")) (by decide) (by decide)))).ext E225).keep K226 (ninS ne_a1_b225 nin0)).other W229 (Or.inr (slot_ne (Or.inr (own_q hw 84 rfl)) (Or.inr (own_q hw 80 rfl)) (by decide) (t := (.object "java/util/Map")) (t' := (.object "java/util/Map")) (by decide) (by decide)))).ext E232).keep K233 (ninS ne_a1_b232 nin0)).other W236 (Or.inr (slot_ne (Or.inr (own_q hw 84 rfl)) (Or.inr (own_q hw 82 rfl)) (by decide) (t := (.object "java/util/Map")) (t' := (.object "java/util/Map")) (by decide) (by decide)))).ext E239).keep K240 (ninS ne_a1_b239 nin0))
  obtain ⟨T243, h243, X243, e243, W243, st243⟩ := putF X240 hx hZ hown (host := "") (Or.inl (own_q hw 83 rfl)) Via.refl e240 Fx242 Fx241 (Or.inr ⟨(own_q hw 84 rfl), rfl, hnm⟩) (own_q hw 28 rfl) (ty := (.object "java/util/Map")) (by decide) rfl rfl (g := (mkF m 65 #[.val (.ref a1), .val (.long x), .second, .val (.ref fl), .val (.ref us), .unset, .unset, .unset] [(.ref b239), (.ref a1)])) rfl rfl (hb hby d5_65)
  have KP243 := Keep.wr KP240 W243 (Or.inl (List.mem_of_getElem? (i := 0) rfl))
  have Fw243 := Fx242.same W243
  have N243 := Fr.snoc X243 N240 gn_a
  have Fx244 := (((Fx237.ext E239).keep K240 (ninS ne_b205_b239 nin0)).other W243 (Ne.symm ne_a1_b205))
  have Fx245 := (Fx241.wr W243)
  obtain ⟨T246, h246, X246, e246, E246, A246, D246, -, st246⟩ := newO X243 hx hZ hown (own_q hw 85 rfl) (own_q hw 2 rfl) (own_q hw 3 rfl) e243 (g := (mkF m 69 #[.val (.ref a1), .val (.long x), .second, .val (.ref fl), .val (.ref us), .unset, .unset, .unset] [(.ref a1)])) rfl (hb hby d5_69) (by decide) (by decide)
  obtain ⟨b246, g246⟩ : ∃ z, z = h243.size := ⟨_, rfl⟩
  rw [← g246] at A246 D246 st246
  have sz_b246 : h0.size ≤ b246 := Nat.le_trans KP243.1 (Nat.le_of_eq g246.symm)
  have gn_b246 : n0 ≤ b246 := Nat.le_trans Z0 sz_b246
  have ne_b205_b246 : b205 ≠ b246 := Nat.ne_of_lt (Nat.lt_of_lt_of_le Fx244.lt (Nat.le_of_eq g246.symm))
  have ne_a1_b246 : a1 ≠ b246 := Nat.ne_of_lt (Nat.lt_of_lt_of_le Fx245.lt (Nat.le_of_eq g246.symm))
  have KP246 := Keep.ext KP243 E246
  have F246_modCount : Fld Z h246 b246 "java/util/AbstractList" "modCount" "I" (.int (0 : Int32)) := D246 (Or.inl (own_q hw 23 rfl)) (ty := .int) (by decide)
  have F246_elementData : Fld Z h246 b246 "java/util/ArrayList" "elementData" "[Ljava/lang/Object;" .null := D246 (Or.inl (own_q hw 26 rfl)) (ty := (.array (.object "java/lang/Object"))) (by decide)
  have F246_size : Fld Z h246 b246 "java/util/ArrayList" "size" "I" (.int (0 : Int32)) := D246 (Or.inl (own_q hw 134 rfl)) (ty := .int) (by decide)
  obtain ⟨_, _, ⟨T247, L247, k247, n247⟩, -, X247, ⟨Lc247, hQ247, l247, y247, z247⟩, st247⟩ := X246.specialBack hx (y := (⟨"java/util/ArrayList", "<init>", "()V"⟩ : MethodName)) rfl hown (mvT hZ (own_q hw 86 rfl)) (mvT hZ (own_q hw 5 rfl)) (mvT hZ (own_q hw 6 rfl)) (by decide) (backOf (W := 2) (rm_ali l Z a0 hw [] b246 h246 n0 (Nat.le_trans Z0 KP246.1) ⟨A246, F246_elementData, F246_size, F246_modCount⟩ gn_b246 hS hn (own_ext_keep hEx KP246 (allS (Nat.le_trans hn gn_a) all0)) dE oe kD hWd) hZ (own_q hw 6 rfl) (own_q hw 3 rfl) (by decide) (by decide)) (g := (mkF m 73 #[.val (.ref a1), .val (.long x), .second, .val (.ref fl), .val (.ref us), .unset, .unset, .unset] [(.ref b246), (.ref b246), (.ref a1)])) rfl (by rw [hml]; rfl) (Steps.refl _) (a := b246) (argsL := []) (rest := [(.ref b246), (.ref a1)]) (lenOf pd_13 rfl) rfl (by show 2 * 0 + _ ≤ _; exact Nat.le_of_eq rfl) (hb hby d5_73) (fun _ _ => ⟨rfl, e246, (by decide : 8 + 0 ≤ _), (by decide : 65580 + 0 ≤ _)⟩)
  dsimp only [Pt.U, Pt.locs, Pt.cells, Pt.slots] at X247 l247 y247 z247 st247 hQ247
  obtain rfl : k247 = 8 := y247; obtain rfl : n247 = 65580 := z247
  obtain ⟨rfl, N247q, K247, EA247, FE247, FZ247, FM247⟩ := hQ247
  have N247 : Fr n0 L247 := by rw [l247]; exact Fr.app N243 N247q
  have e247 : T247.heap = T247.heap := rfl
  have KP247 := Keep.trans KP246 K247 (allS (Or.inr sz_b246) all0)
  have Fx248 := ((Fx245.ext E246).keep K247)
  have Fx249 := (((((((((((((((((((F_requesterListeners.ext E205).other W208 (Or.inr (slot_ne (Or.inr (own_q hw 88 rfl)) (Or.inr (own_q hw 39 rfl)) (by decide) (t := (.object "java/util/List")) (t' := (.array (.object "com/example/parley/parley/floor/Conference$Floor"))) (by decide) (by decide)))).ext E211).keep K212 (ninS ne_a1_b211 nin0)).other W215 (Or.inr (slot_ne (Or.inr (own_q hw 88 rfl)) (Or.inr (own_q hw 57 rfl)) (by decide) (t := (.object "java/util/List")) (t' := (.object "java/util/Map")) (by decide) (by decide)))).ext E218).keep K219 (ninS ne_a1_b218 nin0)).other W222 (Or.inr (slot_ne (Or.inr (own_q hw 88 rfl)) (Or.inr (own_q hw 78 rfl)) (by decide) (t := (.object "java/util/List")) (t' := (.object "java/util/Set")) (by decide) (by decide)))).ext E225).keep K226 (ninS ne_a1_b225 nin0)).other W229 (Or.inr (slot_ne (Or.inr (own_q hw 88 rfl)) (Or.inr (own_q hw 80 rfl)) (by decide) (t := (.object "java/util/List")) (t' := (.object "java/util/Map")) (by decide) (by decide)))).ext E232).keep K233 (ninS ne_a1_b232 nin0)).other W236 (Or.inr (slot_ne (Or.inr (own_q hw 88 rfl)) (Or.inr (own_q hw 82 rfl)) (by decide) (t := (.object "java/util/List")) (t' := (.object "java/util/Map")) (by decide) (by decide)))).ext E239).keep K240 (ninS ne_a1_b239 nin0)).other W243 (Or.inr (slot_ne (Or.inr (own_q hw 88 rfl)) (Or.inr (own_q hw 84 rfl)) (by decide) (t := (.object "java/util/List")) (t' := (.object "java/util/Map")) (by decide) (by decide)))).ext E246).keep K247 (ninS ne_a1_b246 nin0))
  obtain ⟨T250, h250, X250, e250, W250, st250⟩ := putF X247 hx hZ hown (host := "") (Or.inl (own_q hw 87 rfl)) Via.refl e247 Fx249 Fx248 (Or.inr ⟨(own_q hw 88 rfl), rfl, hnm⟩) (own_q hw 28 rfl) (ty := (.object "java/util/List")) (by decide) rfl rfl (g := (mkF m 76 #[.val (.ref a1), .val (.long x), .second, .val (.ref fl), .val (.ref us), .unset, .unset, .unset] [(.ref b246), (.ref a1)])) rfl rfl (hb hby d5_76)
  have KP250 := Keep.wr KP247 W250 (Or.inl (List.mem_of_getElem? (i := 0) rfl))
  have Fw250 := Fx249.same W250
  have N250 := Fr.snoc X250 N247 gn_a
  have Fx251 := (((Fx244.ext E246).keep K247 (ninS ne_b205_b246 nin0)).other W250 (Ne.symm ne_a1_b205))
  have Fx252 := (Fx248.wr W250)
  obtain ⟨T253, h253, X253, e253, E253, A253, D253, -, st253⟩ := newO X250 hx hZ hown (own_q hw 85 rfl) (own_q hw 2 rfl) (own_q hw 3 rfl) e250 (g := (mkF m 80 #[.val (.ref a1), .val (.long x), .second, .val (.ref fl), .val (.ref us), .unset, .unset, .unset] [(.ref a1)])) rfl (hb hby d5_80) (by decide) (by decide)
  obtain ⟨b253, g253⟩ : ∃ z, z = h250.size := ⟨_, rfl⟩
  rw [← g253] at A253 D253 st253
  have sz_b253 : h0.size ≤ b253 := Nat.le_trans KP250.1 (Nat.le_of_eq g253.symm)
  have gn_b253 : n0 ≤ b253 := Nat.le_trans Z0 sz_b253
  have ne_b205_b253 : b205 ≠ b253 := Nat.ne_of_lt (Nat.lt_of_lt_of_le Fx251.lt (Nat.le_of_eq g253.symm))
  have ne_a1_b253 : a1 ≠ b253 := Nat.ne_of_lt (Nat.lt_of_lt_of_le Fx252.lt (Nat.le_of_eq g253.symm))
  have KP253 := Keep.ext KP250 E253
  have F253_modCount : Fld Z h253 b253 "java/util/AbstractList" "modCount" "I" (.int (0 : Int32)) := D253 (Or.inl (own_q hw 23 rfl)) (ty := .int) (by decide)
  have F253_elementData : Fld Z h253 b253 "java/util/ArrayList" "elementData" "[Ljava/lang/Object;" .null := D253 (Or.inl (own_q hw 26 rfl)) (ty := (.array (.object "java/lang/Object"))) (by decide)
  have F253_size : Fld Z h253 b253 "java/util/ArrayList" "size" "I" (.int (0 : Int32)) := D253 (Or.inl (own_q hw 134 rfl)) (ty := .int) (by decide)
  obtain ⟨_, _, ⟨T254, L254, k254, n254⟩, -, X254, ⟨Lc254, hQ254, l254, y254, z254⟩, st254⟩ := X253.specialBack hx (y := (⟨"java/util/ArrayList", "<init>", "()V"⟩ : MethodName)) rfl hown (mvT hZ (own_q hw 86 rfl)) (mvT hZ (own_q hw 5 rfl)) (mvT hZ (own_q hw 6 rfl)) (by decide) (backOf (W := 2) (rm_ali l Z a0 hw [] b253 h253 n0 (Nat.le_trans Z0 KP253.1) ⟨A253, F253_elementData, F253_size, F253_modCount⟩ gn_b253 hS hn (own_ext_keep hEx KP253 (allS (Nat.le_trans hn gn_a) all0)) dE oe kD hWd) hZ (own_q hw 6 rfl) (own_q hw 3 rfl) (by decide) (by decide)) (g := (mkF m 84 #[.val (.ref a1), .val (.long x), .second, .val (.ref fl), .val (.ref us), .unset, .unset, .unset] [(.ref b253), (.ref b253), (.ref a1)])) rfl (by rw [hml]; rfl) (Steps.refl _) (a := b253) (argsL := []) (rest := [(.ref b253), (.ref a1)]) (lenOf pd_13 rfl) rfl (by show 2 * 0 + _ ≤ _; exact Nat.le_of_eq rfl) (hb hby d5_84) (fun _ _ => ⟨rfl, e253, (by decide : 9 + 0 ≤ _), (by decide : 65583 + 0 ≤ _)⟩)
  dsimp only [Pt.U, Pt.locs, Pt.cells, Pt.slots] at X254 l254 y254 z254 st254 hQ254
  obtain rfl : k254 = 9 := y254; obtain rfl : n254 = 65583 := z254
  obtain ⟨rfl, N254q, K254, EA254, FE254, FZ254, FM254⟩ := hQ254
  have N254 : Fr n0 L254 := by rw [l254]; exact Fr.app N250 N254q
  have e254 : T254.heap = T254.heap := rfl
  have KP254 := Keep.trans KP253 K254 (allS (Or.inr sz_b253) all0)
  have Fx255 := ((Fx252.ext E253).keep K254)
  have Fx256 := ((((((((((((((((((((((F_changeListeners.ext E205).other W208 (Or.inr (slot_ne (Or.inr (own_q hw 90 rfl)) (Or.inr (own_q hw 39 rfl)) (by decide) (t := (.object "java/util/List")) (t' := (.array (.object "com/example/parley/parley/floor/Conference$Floor"))) (by decide) (by decide)))).ext E211).keep K212 (ninS ne_a1_b211 nin0)).other W215 (Or.inr (slot_ne (Or.inr (own_q hw 90 rfl)) (Or.inr (own_q hw 57 rfl)) (by decide) (t := (.object "java/util/List")) (t' := (.object "java/util/Map")) (by decide) (by decide)))).ext E218).keep K219 (ninS ne_a1_b218 nin0)).other W222 (Or.inr (slot_ne (Or.inr (own_q hw 90 rfl)) (Or.inr (own_q hw 78 rfl)) (by decide) (t := (.object "java/util/List")) (t' := (.object "java/util/Set")) (by decide) (by decide)))).ext E225).keep K226 (ninS ne_a1_b225 nin0)).other W229 (Or.inr (slot_ne (Or.inr (own_q hw 90 rfl)) (Or.inr (own_q hw 80 rfl)) (by decide) (t := (.object "java/util/List")) (t' := (.object "java/util/Map")) (by decide) (by decide)))).ext E232).keep K233 (ninS ne_a1_b232 nin0)).other W236 (Or.inr (slot_ne (Or.inr (own_q hw 90 rfl)) (Or.inr (own_q hw 82 rfl)) (by decide) (t := (.object "java/util/List")) (t' := (.object "java/util/Map")) (by decide) (by decide)))).ext E239).keep K240 (ninS ne_a1_b239 nin0)).other W243 (Or.inr (slot_ne (Or.inr (own_q hw 90 rfl)) (Or.inr (own_q hw 84 rfl)) (by decide) (t := (.object "java/util/List")) (t' := (.object "java/util/Map")) (by decide) (by decide)))).ext E246).keep K247 (ninS ne_a1_b246 nin0)).other W250 (Or.inr (slot_ne (Or.inr (own_q hw 90 rfl)) (Or.inr (own_q hw 88 rfl)) (by decide) (t := (.object "java/util/List")) (t' := (.object "java/util/List")) (by decide) (by decide)))).ext E253).keep K254 (ninS ne_a1_b253 nin0))
  obtain ⟨T257, h257, X257, e257, W257, st257⟩ := putF X254 hx hZ hown (host := "") (Or.inl (own_q hw 89 rfl)) Via.refl e254 Fx256 Fx255 (Or.inr ⟨(own_q hw 90 rfl), rfl, hnm⟩) (own_q hw 28 rfl) (ty := (.object "java/util/List")) (by decide) rfl rfl (g := (mkF m 87 #[.val (.ref a1), .val (.long x), .second, .val (.ref fl), .val (.ref us), .unset, .unset, .unset] [(.ref b253), (.ref a1)])) rfl rfl (hb hby d5_87)
  have KP257 := Keep.wr KP254 W257 (Or.inl (List.mem_of_getElem? (i := 0) rfl))
  have Fw257 := Fx256.same W257
  have N257 := Fr.snoc X257 N254 gn_a
  obtain ⟨_, _, ⟨T258, L258, k258, n258⟩, -, X258, ⟨Lc258, hQ258, l258, y258, z258⟩, st258⟩ := Jvm.LawKit.callS X257 hx (y := (⟨"com/example/parley/parley/floor/Conference", "checkId", "(J)J"⟩ : MethodName)) hown (mvT hZ (own_q hw 91 rfl)) (mvT hZ (own_q hw 92 rfl)) (mvT hZ (own_q hw 29 rfl)) (mvT hZ (own_q hw 93 rfl)) (by decide) (backOf (W := 1) (rm_cid l Z a0 hw [] x h257 n0 (Nat.le_trans Z0 KP257.1) hx0 hx1) hZ (own_q hw 93 rfl) (own_q hw 29 rfl) (by decide) (by decide)) (g := (mkF m 92 #[.val (.ref a1), .val (.long x), .second, .val (.ref fl), .val (.ref us), .unset, .unset, .unset] [(.long x), (.ref a1)])) rfl (by rw [hml]; rfl) (argsL := [(.long x)]) (rest := [(.ref a1)]) (lenOf pd_332 rfl) rfl (by show 2 * 0 + _ ≤ _; exact Nat.le_of_eq rfl) (hb hby d5_92) (fun _ _ => ⟨rfl, e257, (by decide : 9 + 0 ≤ _), (by decide : 65583 + 0 ≤ _)⟩)
  dsimp only [Pt.U, Pt.locs, Pt.cells, Pt.slots] at X258 l258 y258 z258 st258 hQ258
  obtain rfl : k258 = 9 := y258; obtain rfl : n258 = 65583 := z258
  obtain ⟨rfl, N258q, e258⟩ := hQ258
  have N258 : Fr n0 L258 := by rw [l258]; exact Fr.app N257 N258q
  have Fx259 := (Fx255.wr W257)
  have Fx260 := (((((((((((((((((((((((F_id.ext E205).other W208 (Or.inr (slot_ne (Or.inr (own_q hw 96 rfl)) (Or.inr (own_q hw 39 rfl)) (by decide) (t := .long) (t' := (.array (.object "com/example/parley/parley/floor/Conference$Floor"))) (by decide) (by decide)))).ext E211).keep K212 (ninS ne_a1_b211 nin0)).other W215 (Or.inr (slot_ne (Or.inr (own_q hw 96 rfl)) (Or.inr (own_q hw 57 rfl)) (by decide) (t := .long) (t' := (.object "java/util/Map")) (by decide) (by decide)))).ext E218).keep K219 (ninS ne_a1_b218 nin0)).other W222 (Or.inr (slot_ne (Or.inr (own_q hw 96 rfl)) (Or.inr (own_q hw 78 rfl)) (by decide) (t := .long) (t' := (.object "java/util/Set")) (by decide) (by decide)))).ext E225).keep K226 (ninS ne_a1_b225 nin0)).other W229 (Or.inr (slot_ne (Or.inr (own_q hw 96 rfl)) (Or.inr (own_q hw 80 rfl)) (by decide) (t := .long) (t' := (.object "java/util/Map")) (by decide) (by decide)))).ext E232).keep K233 (ninS ne_a1_b232 nin0)).other W236 (Or.inr (slot_ne (Or.inr (own_q hw 96 rfl)) (Or.inr (own_q hw 82 rfl)) (by decide) (t := .long) (t' := (.object "java/util/Map")) (by decide) (by decide)))).ext E239).keep K240 (ninS ne_a1_b239 nin0)).other W243 (Or.inr (slot_ne (Or.inr (own_q hw 96 rfl)) (Or.inr (own_q hw 84 rfl)) (by decide) (t := .long) (t' := (.object "java/util/Map")) (by decide) (by decide)))).ext E246).keep K247 (ninS ne_a1_b246 nin0)).other W250 (Or.inr (slot_ne (Or.inr (own_q hw 96 rfl)) (Or.inr (own_q hw 88 rfl)) (by decide) (t := .long) (t' := (.object "java/util/List")) (by decide) (by decide)))).ext E253).keep K254 (ninS ne_a1_b253 nin0)).other W257 (Or.inr (slot_ne (Or.inr (own_q hw 96 rfl)) (Or.inr (own_q hw 90 rfl)) (by decide) (t := .long) (t' := (.object "java/util/List")) (by decide) (by decide))))
  obtain ⟨T261, h261, X261, e261, W261, st261⟩ := putF X258 hx hZ hown (host := "") (Or.inl (own_q hw 95 rfl)) Via.refl e258 Fx260 Fx259 (Or.inr ⟨(own_q hw 96 rfl), rfl, hnm⟩) (own_q hw 28 rfl) (ty := .long) (by decide) rfl rfl (g := (mkF m 95 #[.val (.ref a1), .val (.long x), .second, .val (.ref fl), .val (.ref us), .unset, .unset, .unset] [(.long x), (.ref a1)])) rfl rfl (hb hby d5_95)
  have KP261 := Keep.wr KP257 W261 (Or.inl (List.mem_of_getElem? (i := 0) rfl))
  have Fw261 := Fx260.same W261
  have N261 := Fr.snoc X261 N258 gn_a
  have Fx262 := ((((Fx251.ext E253).keep K254 (ninS ne_b205_b253 nin0)).other W257 (Ne.symm ne_a1_b205)).other W261 (Ne.symm ne_a1_b205))
  have Fx263 := (Fx259.wr W261)
  obtain ⟨cq264, kq264, q264a, q264b, q264c⟩ := isOf hZ e261 (((hFl.keep KP261 (ninS nf nin0))).1)
  obtain ⟨_, _, ⟨T264, L264, k264, n264⟩, -, X264, ⟨Lc264, hQ264, l264, y264, z264⟩, st264⟩ := X261.interfaceBack hx (xi := (⟨"java/util/Collection", "iterator", "()Ljava/util/Iterator;"⟩ : MethodName)) (y := (⟨"java/util/ArrayList", "iterator", "()Ljava/util/Iterator;"⟩ : MethodName)) hown (mvT hZ (own_q hw 97 rfl)) (mvT hZ (own_q hw 98 rfl)) (mvT hZ (own_q hw 99 rfl)) (mvT hZ (own_q hw 100 rfl)) (mvT hZ (own_q hw 101 rfl)) (mvT hZ (own_q hw 102 rfl)) (mvT hZ (own_q hw 103 rfl)) (mvT hZ (own_q hw 104 rfl)) (by decide) (backOf (W := 0) (rm_ite l Z a0 hw [] fl h261 n0 (Nat.le_trans Z0 KP261.1) (0 : Int32) ((hFl.keep KP261 (ninS nf nin0))).2.2.2) hZ (own_q hw 105 rfl) (own_q hw 3 rfl) (by decide) (by decide)) q264a q264b q264c (g := (mkF m 99 #[.val (.ref a1), .val (.long x), .second, .val (.ref fl), .val (.ref us), .unset, .unset, .unset] [(.ref fl)])) rfl (by rw [hml]; rfl) (Steps.refl _) (argsL := []) (rest := []) (lenOf pd_336 rfl) rfl (by show 2 * 0 + _ ≤ _; exact Nat.le_of_eq rfl) (hb hby d5_99) (fun _ _ => ⟨rfl, e261, (by decide : 9 + 1 ≤ _), (by decide : 65583 + 4 ≤ _)⟩)
  dsimp only [Pt.U, Pt.locs, Pt.cells, Pt.slots] at X264 l264 y264 z264 st264 hQ264
  obtain rfl : k264 = 10 := y264; obtain rfl : n264 = 65587 := z264
  obtain ⟨it264, rfl, N264q, E264, z264', hIt264⟩ := hQ264
  have N264 : Fr n0 L264 := by rw [l264]; exact Fr.app N261 N264q
  have e264 : T264.heap = T264.heap := rfl
  have KP264 := Keep.ext KP261 E264
  have sz_it264 : h0.size ≤ it264 := Nat.le_trans KP261.1 z264'
  have gn_it264 : n0 ≤ it264 := Nat.le_trans Z0 sz_it264
  have na_it264 : a1 ≠ it264 := Nat.ne_of_lt (Nat.lt_of_lt_of_le E_a.lt sz_it264)
  have ne_b205_it264 : b205 ≠ it264 := Nat.ne_of_lt (Nat.lt_of_lt_of_le Fx262.lt z264')
  obtain ⟨cq265, kq265, q265a, q265b, q265c⟩ := isOf hZ e264 ((hIt264).1)
  obtain ⟨_, _, ⟨T265, L265, k265, n265⟩, -, X265, ⟨Lc265, hQ265, l265, y265, z265⟩, st265⟩ := X264.interfaceBack hx (xi := (⟨"java/util/Iterator", "hasNext", "()Z"⟩ : MethodName)) (y := (⟨"java/util/ArrayList$Itr", "hasNext", "()Z"⟩ : MethodName)) hown (mvT hZ (own_q hw 122 rfl)) (mvT hZ (own_q hw 123 rfl)) (mvT hZ (own_q hw 124 rfl)) (mvT hZ (own_q hw 125 rfl)) (mvT hZ (own_q hw 126 rfl)) (mvT hZ (own_q hw 127 rfl)) (mvT hZ (own_q hw 128 rfl)) (mvT hZ (own_q hw 129 rfl)) (by decide) (backOf (W := 0) (rm_hn l Z a0 hw [] it264 T264.heap n0 (Nat.le_trans Z0 KP264.1) fl _ _ _ _ hIt264 ((hFl.keep KP264 (ninS nf nin0))).2.2.1 (0 : Int32) (by decide)) hZ (own_q hw 130 rfl) (own_q hw 108 rfl) (by decide) (by decide)) q265a q265b q265c (g := (mkF m 108 #[.val (.ref a1), .val (.long x), .second, .val (.ref fl), .val (.ref us), .val (.ref it264), .unset, .unset] [(.ref it264)])) rfl (by rw [hml]; rfl) (Steps.refl _) (argsL := []) (rest := []) (lenOf pd_340 rfl) rfl (by show 2 * 0 + _ ≤ _; exact Nat.le_of_eq rfl) (hb hby d5_108) (fun _ _ => ⟨rfl, e264, (by decide : 10 + 0 ≤ _), (by decide : 65587 + 0 ≤ _)⟩)
  dsimp only [Pt.U, Pt.locs, Pt.cells, Pt.slots] at X265 l265 y265 z265 st265 hQ265
  obtain rfl : k265 = 10 := y265; obtain rfl : n265 = 65587 := z265
  obtain ⟨rfl, N265q, e265⟩ := hQ265
  have N265 : Fr n0 L265 := by rw [l265]; exact Fr.app N264 N265q
  have Fx266 := (Fx262.ext E264)
  have Fx267 := (Fx263.ext E264)
  obtain ⟨cq268, kq268, q268a, q268b, q268c⟩ := isOf hZ e265 (((hUs.keep KP264 (ninS nu nin0))).1)
  obtain ⟨_, _, ⟨T268, L268, k268, n268⟩, -, X268, ⟨Lc268, hQ268, l268, y268, z268⟩, st268⟩ := X265.interfaceBack hx (xi := (⟨"java/util/Collection", "iterator", "()Ljava/util/Iterator;"⟩ : MethodName)) (y := (⟨"java/util/ArrayList", "iterator", "()Ljava/util/Iterator;"⟩ : MethodName)) hown (mvT hZ (own_q hw 97 rfl)) (mvT hZ (own_q hw 98 rfl)) (mvT hZ (own_q hw 99 rfl)) (mvT hZ (own_q hw 100 rfl)) (mvT hZ (own_q hw 101 rfl)) (mvT hZ (own_q hw 102 rfl)) (mvT hZ (own_q hw 103 rfl)) (mvT hZ (own_q hw 104 rfl)) (by decide) (backOf (W := 0) (rm_ite l Z a0 hw [] us T264.heap n0 (Nat.le_trans Z0 KP264.1) (0 : Int32) ((hUs.keep KP264 (ninS nu nin0))).2.2.2) hZ (own_q hw 105 rfl) (own_q hw 3 rfl) (by decide) (by decide)) q268a q268b q268c (g := (mkF m 182 #[.val (.ref a1), .val (.long x), .second, .val (.ref fl), .val (.ref us), .val (.ref it264), .unset, .unset] [(.ref us)])) rfl (by rw [hml]; rfl) (Steps.refl _) (argsL := []) (rest := []) (lenOf pd_336 rfl) rfl (by show 2 * 0 + _ ≤ _; exact Nat.le_of_eq rfl) (hb hby d5_182) (fun _ _ => ⟨rfl, e265, (by decide : 10 + 1 ≤ _), (by decide : 65587 + 4 ≤ _)⟩)
  dsimp only [Pt.U, Pt.locs, Pt.cells, Pt.slots] at X268 l268 y268 z268 st268 hQ268
  obtain rfl : k268 = 11 := y268; obtain rfl : n268 = 65591 := z268
  obtain ⟨it268, rfl, N268q, E268, z268', hIt268⟩ := hQ268
  have N268 : Fr n0 L268 := by rw [l268]; exact Fr.app N265 N268q
  have e268 : T268.heap = T268.heap := rfl
  have KP268 := Keep.ext KP264 E268
  have sz_it268 : h0.size ≤ it268 := Nat.le_trans KP264.1 z268'
  have gn_it268 : n0 ≤ it268 := Nat.le_trans Z0 sz_it268
  have na_it268 : a1 ≠ it268 := Nat.ne_of_lt (Nat.lt_of_lt_of_le E_a.lt sz_it268)
  have ne_b205_it268 : b205 ≠ it268 := Nat.ne_of_lt (Nat.lt_of_lt_of_le Fx266.lt z268')
  have ne_it264_it268 : it264 ≠ it268 := Nat.ne_of_lt (Nat.lt_of_lt_of_le hIt264.lt z268')
  obtain ⟨cq269, kq269, q269a, q269b, q269c⟩ := isOf hZ e268 ((hIt268).1)
  obtain ⟨_, _, ⟨T269, L269, k269, n269⟩, -, X269, ⟨Lc269, hQ269, l269, y269, z269⟩, st269⟩ := X268.interfaceBack hx (xi := (⟨"java/util/Iterator", "hasNext", "()Z"⟩ : MethodName)) (y := (⟨"java/util/ArrayList$Itr", "hasNext", "()Z"⟩ : MethodName)) hown (mvT hZ (own_q hw 122 rfl)) (mvT hZ (own_q hw 123 rfl)) (mvT hZ (own_q hw 124 rfl)) (mvT hZ (own_q hw 125 rfl)) (mvT hZ (own_q hw 126 rfl)) (mvT hZ (own_q hw 127 rfl)) (mvT hZ (own_q hw 128 rfl)) (mvT hZ (own_q hw 129 rfl)) (by decide) (backOf (W := 0) (rm_hn l Z a0 hw [] it268 T268.heap n0 (Nat.le_trans Z0 KP268.1) us _ _ _ _ hIt268 ((hUs.keep KP268 (ninS nu nin0))).2.2.1 (0 : Int32) (by decide)) hZ (own_q hw 130 rfl) (own_q hw 108 rfl) (by decide) (by decide)) q269a q269b q269c (g := (mkF m 191 #[.val (.ref a1), .val (.long x), .second, .val (.ref fl), .val (.ref us), .val (.ref it268), .unset, .unset] [(.ref it268)])) rfl (by rw [hml]; rfl) (Steps.refl _) (argsL := []) (rest := []) (lenOf pd_340 rfl) rfl (by show 2 * 0 + _ ≤ _; exact Nat.le_of_eq rfl) (hb hby d5_191) (fun _ _ => ⟨rfl, e268, (by decide : 11 + 0 ≤ _), (by decide : 65591 + 0 ≤ _)⟩)
  dsimp only [Pt.U, Pt.locs, Pt.cells, Pt.slots] at X269 l269 y269 z269 st269 hQ269
  obtain rfl : k269 = 11 := y269; obtain rfl : n269 = 65591 := z269
  obtain ⟨rfl, N269q, e269⟩ := hQ269
  have N269 : Fr n0 L269 := by rw [l269]; exact Fr.app N268 N269q
  have Fx270 := (Fx266.ext E268)
  have Fx271 := (Fx267.ext E268)
  obtain ⟨cq272, kq272, q272a, q272b, q272c⟩ := isOf hZ e269 (((hFl.keep KP268 (ninS nf nin0))).1)
  obtain ⟨_, _, ⟨T272, L272, k272, n272⟩, -, X272, ⟨Lc272, hQ272, l272, y272, z272⟩, st272⟩ := X269.interfaceBack hx (xi := (⟨"java/util/Collection", "iterator", "()Ljava/util/Iterator;"⟩ : MethodName)) (y := (⟨"java/util/ArrayList", "iterator", "()Ljava/util/Iterator;"⟩ : MethodName)) hown (mvT hZ (own_q hw 97 rfl)) (mvT hZ (own_q hw 98 rfl)) (mvT hZ (own_q hw 99 rfl)) (mvT hZ (own_q hw 100 rfl)) (mvT hZ (own_q hw 101 rfl)) (mvT hZ (own_q hw 102 rfl)) (mvT hZ (own_q hw 103 rfl)) (mvT hZ (own_q hw 104 rfl)) (by decide) (backOf (W := 0) (rm_ite l Z a0 hw [] fl T268.heap n0 (Nat.le_trans Z0 KP268.1) (0 : Int32) ((hFl.keep KP268 (ninS nf nin0))).2.2.2) hZ (own_q hw 105 rfl) (own_q hw 3 rfl) (by decide) (by decide)) q272a q272b q272c (g := (mkF m 278 #[.val (.ref a1), .val (.long x), .second, .val (.ref fl), .val (.ref us), .val (.ref it268), .unset, .unset] [(.ref fl)])) rfl (by rw [hml]; rfl) (Steps.refl _) (argsL := []) (rest := []) (lenOf pd_336 rfl) rfl (by show 2 * 0 + _ ≤ _; exact Nat.le_of_eq rfl) (hb hby d5_278) (fun _ _ => ⟨rfl, e269, (by decide : 11 + 1 ≤ _), (by decide : 65591 + 4 ≤ _)⟩)
  dsimp only [Pt.U, Pt.locs, Pt.cells, Pt.slots] at X272 l272 y272 z272 st272 hQ272
  obtain rfl : k272 = 12 := y272; obtain rfl : n272 = 65595 := z272
  obtain ⟨it272, rfl, N272q, E272, z272', hIt272⟩ := hQ272
  have N272 : Fr n0 L272 := by rw [l272]; exact Fr.app N269 N272q
  have e272 : T272.heap = T272.heap := rfl
  have KP272 := Keep.ext KP268 E272
  have sz_it272 : h0.size ≤ it272 := Nat.le_trans KP268.1 z272'
  have gn_it272 : n0 ≤ it272 := Nat.le_trans Z0 sz_it272
  have na_it272 : a1 ≠ it272 := Nat.ne_of_lt (Nat.lt_of_lt_of_le E_a.lt sz_it272)
  have ne_b205_it272 : b205 ≠ it272 := Nat.ne_of_lt (Nat.lt_of_lt_of_le Fx270.lt z272')
  have ne_it268_it272 : it268 ≠ it272 := Nat.ne_of_lt (Nat.lt_of_lt_of_le hIt268.lt z272')
  obtain ⟨cq273, kq273, q273a, q273b, q273c⟩ := isOf hZ e272 ((hIt272).1)
  obtain ⟨_, _, ⟨T273, L273, k273, n273⟩, -, X273, ⟨Lc273, hQ273, l273, y273, z273⟩, st273⟩ := X272.interfaceBack hx (xi := (⟨"java/util/Iterator", "hasNext", "()Z"⟩ : MethodName)) (y := (⟨"java/util/ArrayList$Itr", "hasNext", "()Z"⟩ : MethodName)) hown (mvT hZ (own_q hw 122 rfl)) (mvT hZ (own_q hw 123 rfl)) (mvT hZ (own_q hw 124 rfl)) (mvT hZ (own_q hw 125 rfl)) (mvT hZ (own_q hw 126 rfl)) (mvT hZ (own_q hw 127 rfl)) (mvT hZ (own_q hw 128 rfl)) (mvT hZ (own_q hw 129 rfl)) (by decide) (backOf (W := 0) (rm_hn l Z a0 hw [] it272 T272.heap n0 (Nat.le_trans Z0 KP272.1) fl _ _ _ _ hIt272 ((hFl.keep KP272 (ninS nf nin0))).2.2.1 (0 : Int32) (by decide)) hZ (own_q hw 130 rfl) (own_q hw 108 rfl) (by decide) (by decide)) q273a q273b q273c (g := (mkF m 287 #[.val (.ref a1), .val (.long x), .second, .val (.ref fl), .val (.ref us), .val (.ref it272), .unset, .unset] [(.ref it272)])) rfl (by rw [hml]; rfl) (Steps.refl _) (argsL := []) (rest := []) (lenOf pd_340 rfl) rfl (by show 2 * 0 + _ ≤ _; exact Nat.le_of_eq rfl) (hb hby d5_287) (fun _ _ => ⟨rfl, e272, (by decide : 12 + 0 ≤ _), (by decide : 65595 + 0 ≤ _)⟩)
  dsimp only [Pt.U, Pt.locs, Pt.cells, Pt.slots] at X273 l273 y273 z273 st273 hQ273
  obtain rfl : k273 = 12 := y273; obtain rfl : n273 = 65595 := z273
  obtain ⟨rfl, N273q, e273⟩ := hQ273
  have N273 : Fr n0 L273 := by rw [l273]; exact Fr.app N272 N273q
  have Fx274 := (Fx271.ext E272)
  have Fx275 := (((((((((((((((((((((((((Fw208.ext E211).keep K212 (ninS ne_a1_b211 nin0)).other W215 (Or.inr (slot_ne (Or.inr (own_q hw 39 rfl)) (Or.inr (own_q hw 57 rfl)) (by decide) (t := (.array (.object "com/example/parley/parley/floor/Conference$Floor"))) (t' := (.object "java/util/Map")) (by decide) (by decide)))).ext E218).keep K219 (ninS ne_a1_b218 nin0)).other W222 (Or.inr (slot_ne (Or.inr (own_q hw 39 rfl)) (Or.inr (own_q hw 78 rfl)) (by decide) (t := (.array (.object "com/example/parley/parley/floor/Conference$Floor"))) (t' := (.object "java/util/Set")) (by decide) (by decide)))).ext E225).keep K226 (ninS ne_a1_b225 nin0)).other W229 (Or.inr (slot_ne (Or.inr (own_q hw 39 rfl)) (Or.inr (own_q hw 80 rfl)) (by decide) (t := (.array (.object "com/example/parley/parley/floor/Conference$Floor"))) (t' := (.object "java/util/Map")) (by decide) (by decide)))).ext E232).keep K233 (ninS ne_a1_b232 nin0)).other W236 (Or.inr (slot_ne (Or.inr (own_q hw 39 rfl)) (Or.inr (own_q hw 82 rfl)) (by decide) (t := (.array (.object "com/example/parley/parley/floor/Conference$Floor"))) (t' := (.object "java/util/Map")) (by decide) (by decide)))).ext E239).keep K240 (ninS ne_a1_b239 nin0)).other W243 (Or.inr (slot_ne (Or.inr (own_q hw 39 rfl)) (Or.inr (own_q hw 84 rfl)) (by decide) (t := (.array (.object "com/example/parley/parley/floor/Conference$Floor"))) (t' := (.object "java/util/Map")) (by decide) (by decide)))).ext E246).keep K247 (ninS ne_a1_b246 nin0)).other W250 (Or.inr (slot_ne (Or.inr (own_q hw 39 rfl)) (Or.inr (own_q hw 88 rfl)) (by decide) (t := (.array (.object "com/example/parley/parley/floor/Conference$Floor"))) (t' := (.object "java/util/List")) (by decide) (by decide)))).ext E253).keep K254 (ninS ne_a1_b253 nin0)).other W257 (Or.inr (slot_ne (Or.inr (own_q hw 39 rfl)) (Or.inr (own_q hw 90 rfl)) (by decide) (t := (.array (.object "com/example/parley/parley/floor/Conference$Floor"))) (t' := (.object "java/util/List")) (by decide) (by decide)))).other W261 (Or.inr (slot_ne (Or.inr (own_q hw 39 rfl)) (Or.inr (own_q hw 96 rfl)) (by decide) (t := (.array (.object "com/example/parley/parley/floor/Conference$Floor"))) (t' := .long) (by decide) (by decide)))).ext E264).ext E268).ext E272)
  have Fx276 := (Fx270.ext E272)
  obtain ⟨fs, hr, hrun, hended, hW, hsame⟩ := X273.leave (v := none) (fun _ => rfl)
  refine ⟨_, _, pre0 _ ?_, hrun, hended, _, _, rfl, ?_, ⟨_, rfl⟩, hW, hsame.mono (by decide) (by decide)⟩
  · refine XS.aloadN X0.here hx rfl (hb hby d5_0) rfl rfl ?_
    refine st204 _ ?_
    show Steps p.tables e below (T204.setTop (mkF m 4 #[.val (.ref a1), .val (.long x), .second, .val (.ref fl), .val (.ref us), .unset, .unset, .unset] [])) _
    refine XS.aloadN X204.here hx rfl (hb hby d5_4) rfl rfl ?_
    refine X204.ldcInt hx hown (mvT hZ (own_q hw 35 rfl)) (g := (mkF m 5 #[.val (.ref a1), .val (.long x), .second, .val (.ref fl), .val (.ref us), .unset, .unset, .unset] [(.ref a1)])) rfl (hb hby d5_5) _ ?_
    show Steps p.tables e below (T204.setTop (mkF m 7 #[.val (.ref a1), .val (.long x), .second, .val (.ref fl), .val (.ref us), .unset, .unset, .unset] [(.int (65536 : Int32)), (.ref a1)])) _
    refine st205 _ ?_
    show Steps p.tables e below (T205.setTop (mkF m 10 #[.val (.ref a1), .val (.long x), .second, .val (.ref fl), .val (.ref us), .unset, .unset, .unset] [(.ref b205), (.ref a1)])) _
    refine st208 _ ?_
    show Steps p.tables e below (T208.setTop (mkF m 13 #[.val (.ref a1), .val (.long x), .second, .val (.ref fl), .val (.ref us), .unset, .unset, .unset] [])) _
    refine XS.aloadN X208.here hx rfl (hb hby d5_13) rfl rfl ?_
    refine st211 _ ?_
    show Steps p.tables e below (T211.setTop (mkF m 17 #[.val (.ref a1), .val (.long x), .second, .val (.ref fl), .val (.ref us), .unset, .unset, .unset] [(.ref b211), (.ref a1)])) _
    refine XS.dup X211.here hx rfl (hb hby d5_17) rfl rfl ?_
    refine st212.trans ?_
    show Steps p.tables e below (T212.setTop (mkF m 21 #[.val (.ref a1), .val (.long x), .second, .val (.ref fl), .val (.ref us), .unset, .unset, .unset] [(.ref b211), (.ref a1)])) _
    refine st215 _ ?_
    show Steps p.tables e below (T215.setTop (mkF m 24 #[.val (.ref a1), .val (.long x), .second, .val (.ref fl), .val (.ref us), .unset, .unset, .unset] [])) _
    refine XS.aloadN X215.here hx rfl (hb hby d5_24) rfl rfl ?_
    refine st218 _ ?_
    show Steps p.tables e below (T218.setTop (mkF m 28 #[.val (.ref a1), .val (.long x), .second, .val (.ref fl), .val (.ref us), .unset, .unset, .unset] [(.ref b218), (.ref a1)])) _
    refine XS.dup X218.here hx rfl (hb hby d5_28) rfl rfl ?_
    refine st219.trans ?_
    show Steps p.tables e below (T219.setTop (mkF m 32 #[.val (.ref a1), .val (.long x), .second, .val (.ref fl), .val (.ref us), .unset, .unset, .unset] [(.ref b218), (.ref a1)])) _
    refine st222 _ ?_
    show Steps p.tables e below (T222.setTop (mkF m 35 #[.val (.ref a1), .val (.long x), .second, .val (.ref fl), .val (.ref us), .unset, .unset, .unset] [])) _
    refine XS.aloadN X222.here hx rfl (hb hby d5_35) rfl rfl ?_
    refine st225 _ ?_
    show Steps p.tables e below (T225.setTop (mkF m 39 #[.val (.ref a1), .val (.long x), .second, .val (.ref fl), .val (.ref us), .unset, .unset, .unset] [(.ref b225), (.ref a1)])) _
    refine XS.dup X225.here hx rfl (hb hby d5_39) rfl rfl ?_
    refine st226.trans ?_
    show Steps p.tables e below (T226.setTop (mkF m 43 #[.val (.ref a1), .val (.long x), .second, .val (.ref fl), .val (.ref us), .unset, .unset, .unset] [(.ref b225), (.ref a1)])) _
    refine st229 _ ?_
    show Steps p.tables e below (T229.setTop (mkF m 46 #[.val (.ref a1), .val (.long x), .second, .val (.ref fl), .val (.ref us), .unset, .unset, .unset] [])) _
    refine XS.aloadN X229.here hx rfl (hb hby d5_46) rfl rfl ?_
    refine st232 _ ?_
    show Steps p.tables e below (T232.setTop (mkF m 50 #[.val (.ref a1), .val (.long x), .second, .val (.ref fl), .val (.ref us), .unset, .unset, .unset] [(.ref b232), (.ref a1)])) _
    refine XS.dup X232.here hx rfl (hb hby d5_50) rfl rfl ?_
    refine st233.trans ?_
    show Steps p.tables e below (T233.setTop (mkF m 54 #[.val (.ref a1), .val (.long x), .second, .val (.ref fl), .val (.ref us), .unset, .unset, .unset] [(.ref b232), (.ref a1)])) _
    refine st236 _ ?_
    show Steps p.tables e below (T236.setTop (mkF m 57 #[.val (.ref a1), .val (.long x), .second, .val (.ref fl), .val (.ref us), .unset, .unset, .unset] [])) _
    refine XS.aloadN X236.here hx rfl (hb hby d5_57) rfl rfl ?_
    refine st239 _ ?_
    show Steps p.tables e below (T239.setTop (mkF m 61 #[.val (.ref a1), .val (.long x), .second, .val (.ref fl), .val (.ref us), .unset, .unset, .unset] [(.ref b239), (.ref a1)])) _
    refine XS.dup X239.here hx rfl (hb hby d5_61) rfl rfl ?_
    refine st240.trans ?_
    show Steps p.tables e below (T240.setTop (mkF m 65 #[.val (.ref a1), .val (.long x), .second, .val (.ref fl), .val (.ref us), .unset, .unset, .unset] [(.ref b239), (.ref a1)])) _
    refine st243 _ ?_
    show Steps p.tables e below (T243.setTop (mkF m 68 #[.val (.ref a1), .val (.long x), .second, .val (.ref fl), .val (.ref us), .unset, .unset, .unset] [])) _
    refine XS.aloadN X243.here hx rfl (hb hby d5_68) rfl rfl ?_
    refine st246 _ ?_
    show Steps p.tables e below (T246.setTop (mkF m 72 #[.val (.ref a1), .val (.long x), .second, .val (.ref fl), .val (.ref us), .unset, .unset, .unset] [(.ref b246), (.ref a1)])) _
    refine XS.dup X246.here hx rfl (hb hby d5_72) rfl rfl ?_
    refine st247.trans ?_
    show Steps p.tables e below (T247.setTop (mkF m 76 #[.val (.ref a1), .val (.long x), .second, .val (.ref fl), .val (.ref us), .unset, .unset, .unset] [(.ref b246), (.ref a1)])) _
    refine st250 _ ?_
    show Steps p.tables e below (T250.setTop (mkF m 79 #[.val (.ref a1), .val (.long x), .second, .val (.ref fl), .val (.ref us), .unset, .unset, .unset] [])) _
    refine XS.aloadN X250.here hx rfl (hb hby d5_79) rfl rfl ?_
    refine st253 _ ?_
    show Steps p.tables e below (T253.setTop (mkF m 83 #[.val (.ref a1), .val (.long x), .second, .val (.ref fl), .val (.ref us), .unset, .unset, .unset] [(.ref b253), (.ref a1)])) _
    refine XS.dup X253.here hx rfl (hb hby d5_83) rfl rfl ?_
    refine st254.trans ?_
    show Steps p.tables e below (T254.setTop (mkF m 87 #[.val (.ref a1), .val (.long x), .second, .val (.ref fl), .val (.ref us), .unset, .unset, .unset] [(.ref b253), (.ref a1)])) _
    refine st257 _ ?_
    show Steps p.tables e below (T257.setTop (mkF m 90 #[.val (.ref a1), .val (.long x), .second, .val (.ref fl), .val (.ref us), .unset, .unset, .unset] [])) _
    refine XS.aloadN X257.here hx rfl (hb hby d5_90) rfl rfl ?_
    refine XS.lloadN X257.here hx rfl (hb hby d5_91) rfl ?_
    refine st258 _ ?_
    show Steps p.tables e below (T258.setTop (mkF m 95 #[.val (.ref a1), .val (.long x), .second, .val (.ref fl), .val (.ref us), .unset, .unset, .unset] [(.long x), (.ref a1)])) _
    refine st261 _ ?_
    show Steps p.tables e below (T261.setTop (mkF m 98 #[.val (.ref a1), .val (.long x), .second, .val (.ref fl), .val (.ref us), .unset, .unset, .unset] [])) _
    refine XS.aloadN X261.here hx rfl (hb hby d5_98) rfl rfl ?_
    refine st264.trans ?_
    show Steps p.tables e below (T264.setTop (mkF m 104 #[.val (.ref a1), .val (.long x), .second, .val (.ref fl), .val (.ref us), .unset, .unset, .unset] [(.ref it264)])) _
    refine XS.astore X264.here hx rfl (hb hby d5_104) rfl rfl (l' := #[.val (.ref a1), .val (.long x), .second, .val (.ref fl), .val (.ref us), .val (.ref it264), .unset, .unset]) rfl ?_
    refine XS.aload X264.here hx rfl (hb hby d5_106) rfl rfl ?_
    refine st265.trans ?_
    show Steps p.tables e below (T265.setTop (mkF m 113 #[.val (.ref a1), .val (.long x), .second, .val (.ref fl), .val (.ref us), .val (.ref it264), .unset, .unset] [(.int (0 : Int32))])) _
    refine XS.ifYes X265.here hx rfl (pc0 := 113) (pc' := 180) rfl (hb hby d5_113) rfl ((if0 _ _).trans (teq (by decide : (0 : Int32) = (0 : Int32))).1) (by decide) (by decide) ?_
    refine XS.aload X265.here hx rfl (hb hby d5_180) rfl rfl ?_
    refine st268.trans ?_
    show Steps p.tables e below (T268.setTop (mkF m 187 #[.val (.ref a1), .val (.long x), .second, .val (.ref fl), .val (.ref us), .val (.ref it264), .unset, .unset] [(.ref it268)])) _
    refine XS.astore X268.here hx rfl (hb hby d5_187) rfl rfl (l' := #[.val (.ref a1), .val (.long x), .second, .val (.ref fl), .val (.ref us), .val (.ref it268), .unset, .unset]) rfl ?_
    refine XS.aload X268.here hx rfl (hb hby d5_189) rfl rfl ?_
    refine st269.trans ?_
    show Steps p.tables e below (T269.setTop (mkF m 196 #[.val (.ref a1), .val (.long x), .second, .val (.ref fl), .val (.ref us), .val (.ref it268), .unset, .unset] [(.int (0 : Int32))])) _
    refine XS.ifYes X269.here hx rfl (pc0 := 196) (pc' := 277) rfl (hb hby d5_196) rfl ((if0 _ _).trans (teq (by decide : (0 : Int32) = (0 : Int32))).1) (by decide) (by decide) ?_
    refine XS.aloadN X269.here hx rfl (hb hby d5_277) rfl rfl ?_
    refine st272.trans ?_
    show Steps p.tables e below (T272.setTop (mkF m 283 #[.val (.ref a1), .val (.long x), .second, .val (.ref fl), .val (.ref us), .val (.ref it268), .unset, .unset] [(.ref it272)])) _
    refine XS.astore X272.here hx rfl (hb hby d5_283) rfl rfl (l' := #[.val (.ref a1), .val (.long x), .second, .val (.ref fl), .val (.ref us), .val (.ref it272), .unset, .unset]) rfl ?_
    refine XS.aload X272.here hx rfl (hb hby d5_285) rfl rfl ?_
    refine st273.trans ?_
    show Steps p.tables e below (T273.setTop (mkF m 292 #[.val (.ref a1), .val (.long x), .second, .val (.ref fl), .val (.ref us), .val (.ref it272), .unset, .unset] [(.int (0 : Int32))])) _
    refine XS.ifYes X273.here hx rfl (pc0 := 292) (pc' := 363) rfl (hb hby d5_292) rfl ((if0 _ _).trans (teq (by decide : (0 : Int32) = (0 : Int32))).1) (by decide) (by decide) ?_
    exact X273.returnOut hx Bd.returns (hb hby d5_363) hr
  · show own_Do none [a1] (fun h => ∃ (fa : Addr) (kF : ClassId), Exa Z h a1 "com/example/parley/parley/floor/Conference" ∧ Fld Z h a1 "com/example/parley/parley/floor/Conference" "floors" "[Lcom/example/parley/parley/floor/Conference$Floor;" (.ref fa) ∧ Arh Z h fa kF (.object "com/example/parley/parley/floor/Conference$Floor") (65536 : Int32) [] [] .null) h0 n0 _ T273.heap _
    rw [e273]
    exact ⟨rfl, N273, KP272, b205, _, Fx274, Fx275, Fx276⟩
theorem d5_116 : decode prog_3_method_4_code 116 = .ok (.aload 5, 2) := by decide +kernel
theorem pd_357 : parseMethodDescriptor "()Ljava/lang/Object;" = some ⟨[], some (.object "java/lang/Object")⟩ := by decide +kernel
theorem d5_118 : decode prog_3_method_4_code 118 = .ok (.invokeinterface 93 1, 5) := by decide +kernel
theorem d5_123 : decode prog_3_method_4_code 123 = .ok (.checkcast 97, 3) := by decide +kernel
theorem d5_126 : decode prog_3_method_4_code 126 = .ok (.astore 6, 2) := by decide +kernel
theorem d5_128 : decode prog_3_method_4_code 128 = .ok (.aload_n 0, 1) := by decide +kernel
theorem d5_129 : decode prog_3_method_4_code 129 = .ok (.aload 6, 2) := by decide +kernel
theorem pd_363 : parseMethodDescriptor "()I" = some ⟨[], some .int⟩ := by decide +kernel
theorem d5_131 : decode prog_3_method_4_code 131 = .ok (.invokevirtual 99, 3) := by decide +kernel
theorem pd_365 : parseMethodDescriptor "(I)Z" = some ⟨[.int], some .boolean⟩ := by decide +kernel
theorem d5_134 : decode prog_3_method_4_code 134 = .ok (.invokevirtual 102, 3) := by decide +kernel
theorem d5_137 : decode prog_3_method_4_code 137 = .ok (.ifCond .eq 21, 3) := by decide +kernel
theorem d5_158 : decode prog_3_method_4_code 158 = .ok (.aload_n 0, 1) := by decide +kernel
theorem d5_159 : decode prog_3_method_4_code 159 = .ok (.getfield 40, 3) := by decide +kernel
theorem d5_162 : decode prog_3_method_4_code 162 = .ok (.aload 6, 2) := by decide +kernel
theorem d5_164 : decode prog_3_method_4_code 164 = .ok (.invokevirtual 99, 3) := by decide +kernel
theorem d5_167 : decode prog_3_method_4_code 167 = .ok (.new 38, 3) := by decide +kernel
theorem d5_170 : decode prog_3_method_4_code 170 = .ok (.dup, 1) := by decide +kernel
theorem d5_171 : decode prog_3_method_4_code 171 = .ok (.aload 6, 2) := by decide +kernel
theorem pd_375 : parseMethodDescriptor "(Lcom/example/parley/parley/floor/FloorSettings;)V" = some ⟨[(.object "com/example/parley/parley/floor/FloorSettings")], none⟩ := by decide +kernel
theorem d5_173 : decode prog_3_method_4_code 173 = .ok (.invokespecial 115, 3) := by decide +kernel
theorem d5_176 : decode prog_3_method_4_code 176 = .ok (.aastore, 1) := by decide +kernel
theorem d5_177 : decode prog_3_method_4_code 177 = .ok (.goto (-71), 3) := by decide +kernel
theorem d5_295 : decode prog_3_method_4_code 295 = .ok (.aload 5, 2) := by decide +kernel
theorem d5_297 : decode prog_3_method_4_code 297 = .ok (.invokeinterface 93 1, 5) := by decide +kernel
theorem d5_302 : decode prog_3_method_4_code 302 = .ok (.checkcast 97, 3) := by decide +kernel
theorem d5_305 : decode prog_3_method_4_code 305 = .ok (.astore 6, 2) := by decide +kernel
theorem d5_307 : decode prog_3_method_4_code 307 = .ok (.aload 6, 2) := by decide +kernel
theorem d5_309 : decode prog_3_method_4_code 309 = .ok (.invokevirtual 142, 3) := by decide +kernel
theorem d5_312 : decode prog_3_method_4_code 312 = .ok (.astore 7, 2) := by decide +kernel
theorem d5_314 : decode prog_3_method_4_code 314 = .ok (.aload 7, 2) := by decide +kernel
theorem d5_316 : decode prog_3_method_4_code 316 = .ok (.invokevirtual 146, 3) := by decide +kernel
theorem d5_319 : decode prog_3_method_4_code 319 = .ok (.ifCond .eq 41, 3) := by decide +kernel
theorem d5_360 : decode prog_3_method_4_code 360 = .ok (.goto (-75), 3) := by decide +kernel
theorem ef_rm_cfi_1 (m : MethodId) (x0 : Addr) (x1 : Int64) (x2 : Addr) (x3 : Addr) : entryFrame m #[(.ref x0), (.long x1), (.ref x2), (.ref x3)] 8 = mkF m 0 #[.val (.ref x0), .val (.long x1), .second, .val (.ref x2), .val (.ref x3), .unset, .unset, .unset] [] := by first | (simp [entryFrame, mkF, argsToLocals, Value.category]; done) | rfl
set_option maxRecDepth 65536 in
set_option maxHeartbeats 40000000 in
theorem rm_cfi_1 (l : Launch) (Z : State) (a0 : Array Value) (hw : ∀ d ∈ tables_1, d.before a0 Z = true) (ws : List Jvm.Cond) (a1 : Addr) (x : Int64) (fl : Addr) (us : Addr) (h0 : Heap) (n0 : Nat) (Z0 : n0 ≤ h0.size) (E_a : Exa Z h0 a1 "com/example/parley/parley/floor/Conference") (F_floors : Fld Z h0 a1 "com/example/parley/parley/floor/Conference" "floors" "[Lcom/example/parley/parley/floor/Conference$Floor;" .null) (F_users : Fld Z h0 a1 "com/example/parley/parley/floor/Conference" "users" "Ljava/util/Map;" .null) (F_pinned : Fld Z h0 a1 "com/example/parley/parley/floor/Conference" "pinned" "Ljava/util/Set;" .null) (F_requests : Fld Z h0 a1 "com/example/parley/parley/floor/Conference" "requests" "Ljava/util/Map;" .null) (F_madeBy : Fld Z h0 a1 "com/example/parley/parley/floor/Conference" "madeBy" "Ljava/util/Map;" .null) (F_madeFor : Fld Z h0 a1 "com/example/parley/parley/floor/Conference" "madeFor" "Ljava/util/Map;" .null) (F_requesterListeners : Fld Z h0 a1 "com/example/parley/parley/floor/Conference" "requesterListeners" "Ljava/util/List;" .null) (F_changeListeners : Fld Z h0 a1 "com/example/parley/parley/floor/Conference" "changeListeners" "Ljava/util/List;" .null) (F_id : Fld Z h0 a1 "com/example/parley/parley/floor/Conference" "id" "J" (.long (0 : Int64))) (gn_a : n0 ≤ a1) (hS : Heap) (hn : hS.size ≤ n0) (hEx : Ext hS h0) (dE oe : Addr) (kD : ClassId) (hWd : own_Wd Z hS dE kD oe) (ed x0 : Addr) (kE : ClassId) (f1 : Int32) (hx0 : 0 ≤ x.toInt) (hx1 : x.toInt ≤ 4294967295) (hFl : own_AL Z h0 fl (.ref ed) (1 : Int32) (1 : Int32)) (hUs : own_AL Z h0 us (.ref dE) (0 : Int32) (0 : Int32)) (nf : fl ≠ a1) (nu : us ≠ a1) (A_E : Arv Z h0 ed kE (.object "java/lang/Object") (10 : Int32) [(.ref x0), .null, .null, .null, .null, .null, .null, .null, .null, .null] .null) (nd : ed ≠ a1) (hX0 : own_FS Z h0 x0 f1 oe) (nx0 : x0 ≠ a1) (hf1 : 0 ≤ f1.toInt ∧ f1.toInt ≤ 65535)  :
    MetFree l (⟨"com/example/parley/parley/floor/Conference", "<init>", "(JLjava/util/Collection;Ljava/util/Collection;)V"⟩ : MethodName) (head1 (Jvm.Cond.code (⟨"com/example/parley/parley/floor/Conference", "<init>", "(JLjava/util/Collection;Ljava/util/Collection;)V"⟩ : MethodName) prog_3_method_4_code 8 none :: ws) ({ frames := 5, cells := 15, slots := 65605, locals := 66 } : Room)) (fun aQ UQ => aQ = #[(.ref a1), (.long x), (.ref fl), (.ref us)] ∧ Z.Warmed39 UQ.vm ∧ UQ.heap = h0) (fun _ _ _ _ _ => True) (fun _ UQ oQ UR => ∃ vQ LQ, oQ = .returned vQ ∧ own_Do none [a1] (fun h => ∃ (fa : Addr) (kF : ClassId) (g1 : Addr), Exa Z h a1 "com/example/parley/parley/floor/Conference" ∧ Fld Z h a1 "com/example/parley/parley/floor/Conference" "floors" "[Lcom/example/parley/parley/floor/Conference$Floor;" (.ref fa) ∧ Arh Z h fa kF (.object "com/example/parley/parley/floor/Conference$Floor") (65536 : Int32) [(f1, .ref g1)] [] .null) h0 n0 vQ UR.heap LQ ∧ FrameEnd UQ oQ UR LQ ({ frames := 5, cells := 15, slots := 65605, locals := 66 } : Room).cells ({ frames := 5, cells := 15, slots := 65605, locals := 66 } : Room).slots) := by
  refine MetFree.of_bodySF (plainFor_of_name pn_57) hisR ?_
  intro p e s m args below meth c s₁ Bd hml0 hP hK
  obtain ⟨rfl, hZ, hh⟩ := hP
  have hx := Bd.exec
  have hby := Bd.bytes
  have hml : c.maxLocals = 8 := hml0
  have hown : s.vm.findClass "com/example/parley/parley/floor/Conference" = some m.cls := findClass_of_methodNamed Bd.named
  have hnm := (name_of_methodNamed Bd.named Bd.method).1
  have X0 : Stand p l e ({ frames := 5, cells := 15, slots := 65605, locals := 66 } : Room) s m #[(.ref a1), (.long x), (.ref fl), (.ref us)] below meth c s₁ [] 0 0 := Stand.of_body Bd
  have e0 : s₁.heap = h0 := by rw [← hh, Bd.state]; rfl
  have N0 := Fr.nil n0
  have pre0 : ∀ t, Steps p.tables e below (s₁.setTop (mkF m 0 #[.val (.ref a1), .val (.long x), .second, .val (.ref fl), .val (.ref us), .unset, .unset, .unset] [])) t → Steps p.tables e below (s₁.setTop (entryFrame m #[(.ref a1), (.long x), (.ref fl), (.ref us)] 8)) t := fun t kq => castTop (ef_rm_cfi_1 m a1 x fl us) kq
  obtain ⟨S_D, A_D, S_O, E_O, F_O⟩ := id hWd
  obtain ⟨T277, X277, e277, st277⟩ := initO X0 hx hZ hown (own_q hw 34 rfl) (own_q hw 20 rfl) (own_q hw 21 rfl) e0 (g := (mkF m 1 #[.val (.ref a1), .val (.long x), .second, .val (.ref fl), .val (.ref us), .unset, .unset, .unset] [(.ref a1)])) rfl (by rw [hml]; rfl) rfl (hb hby d5_1) (by decide) (W := 0) (by show 2 * 0 + _ ≤ _; exact Nat.le_of_eq rfl) (by decide)
  obtain ⟨T278, h278, k278, X278, e278, E278, A278, O278, st278⟩ := newR X277 hx hZ hown (own_q hw 36 rfl) (own_q hw 37 rfl) e277 (g := (mkF m 7 #[.val (.ref a1), .val (.long x), .second, .val (.ref fl), .val (.ref us), .unset, .unset, .unset] [(.int (65536 : Int32)), (.ref a1)])) rfl (hb hby d5_7) rfl (by decide) (cap := 65536) (by decide) (by decide) (by decide) (by decide)
  obtain ⟨b278, g278⟩ : ∃ z, z = h0.size := ⟨_, rfl⟩
  rw [← g278] at A278 st278
  have sz_b278 : h0.size ≤ b278 := Nat.le_trans (Keep.refl h0 [a1]).1 (Nat.le_of_eq g278.symm)
  have gn_b278 : n0 ≤ b278 := Nat.le_trans Z0 sz_b278
  have ne_a1_b278 : a1 ≠ b278 := Nat.ne_of_lt (Nat.lt_of_lt_of_le E_a.lt (Nat.le_of_eq g278.symm))
  have EX278 := own_ext_trans (own_ext_refl h0) E278
  have KP278 := Keep.ext (Keep.refl h0 [a1]) E278
  have V278 : Arh Z h278 b278 k278 (.object "com/example/parley/parley/floor/Conference$Floor") (65536 : Int32) [] [] .null := Arv.arh (Arv.new A278 (by decide))
  have Fx279 := (E_a.ext E278)
  have Fx280 := (F_floors.ext E278)
  obtain ⟨T281, h281, X281, e281, W281, st281⟩ := putF X278 hx hZ hown (host := "") (Or.inl (own_q hw 38 rfl)) Via.refl e278 Fx280 Fx279 (Or.inr ⟨(own_q hw 39 rfl), rfl, hnm⟩) (own_q hw 28 rfl) (ty := (.array (.object "com/example/parley/parley/floor/Conference$Floor"))) (by decide) rfl rfl (g := (mkF m 10 #[.val (.ref a1), .val (.long x), .second, .val (.ref fl), .val (.ref us), .unset, .unset, .unset] [(.ref b278), (.ref a1)])) rfl rfl (hb hby d5_10)
  have KP281 := Keep.wr KP278 W281 (Or.inl (List.mem_of_getElem? (i := 0) rfl))
  have Fw281 := Fx280.same W281
  have N281 := Fr.snoc X281 N0 gn_a
  have Fx282 := (V278.other W281 (Ne.symm ne_a1_b278))
  have Fx283 := (Fx279.wr W281)
  obtain ⟨T284, h284, X284, e284, E284, A284, D284, -, st284⟩ := newO X281 hx hZ hown (own_q hw 40 rfl) (own_q hw 41 rfl) (own_q hw 42 rfl) e281 (g := (mkF m 14 #[.val (.ref a1), .val (.long x), .second, .val (.ref fl), .val (.ref us), .unset, .unset, .unset] [(.ref a1)])) rfl (hb hby d5_14) (by decide) (by decide)
  obtain ⟨b284, g284⟩ : ∃ z, z = h281.size := ⟨_, rfl⟩
  rw [← g284] at A284 D284 st284
  have sz_b284 : h0.size ≤ b284 := Nat.le_trans KP281.1 (Nat.le_of_eq g284.symm)
  have gn_b284 : n0 ≤ b284 := Nat.le_trans Z0 sz_b284
  have ne_b278_b284 : b278 ≠ b284 := Nat.ne_of_lt (Nat.lt_of_lt_of_le Fx282.lt (Nat.le_of_eq g284.symm))
  have ne_a1_b284 : a1 ≠ b284 := Nat.ne_of_lt (Nat.lt_of_lt_of_le Fx283.lt (Nat.le_of_eq g284.symm))
  have KP284 := Keep.ext KP281 E284
  have F284_loadFactor : Fld Z h284 b284 "java/util/HashMap" "loadFactor" "F" (.float (0 : UInt32)) := D284 (Or.inr (own_q hw 55 rfl)) (ty := .float) (by decide)
  obtain ⟨_, _, ⟨T285, L285, k285, n285⟩, -, X285, ⟨Lc285, hQ285, l285, y285, z285⟩, st285⟩ := X284.specialBack hx (y := (⟨"java/util/HashMap", "<init>", "()V"⟩ : MethodName)) rfl hown (mvT hZ (own_q hw 43 rfl)) (mvT hZ (own_q hw 44 rfl)) (mvT hZ (own_q hw 45 rfl)) (by decide) (backOf (W := 2) (rm_hm l Z a0 hw [] b284 h284 n0 (Nat.le_trans Z0 KP284.1) A284 F284_loadFactor gn_b284) hZ (own_q hw 45 rfl) (own_q hw 42 rfl) (by decide) (by decide)) (g := (mkF m 18 #[.val (.ref a1), .val (.long x), .second, .val (.ref fl), .val (.ref us), .unset, .unset, .unset] [(.ref b284), (.ref b284), (.ref a1)])) rfl (by rw [hml]; rfl) (Steps.refl _) (a := b284) (argsL := []) (rest := [(.ref b284), (.ref a1)]) (lenOf pd_13 rfl) rfl (by show 2 * 0 + _ ≤ _; exact Nat.le_of_eq rfl) (hb hby d5_18) (fun _ _ => ⟨rfl, e284, (by decide : 2 + 0 ≤ _), (by decide : 65544 + 0 ≤ _)⟩)
  dsimp only [Pt.U, Pt.locs, Pt.cells, Pt.slots] at X285 l285 y285 z285 st285 hQ285
  obtain rfl : k285 = 2 := y285; obtain rfl : n285 = 65544 := z285
  obtain ⟨rfl, N285q, K285⟩ := hQ285
  have N285 : Fr n0 L285 := by rw [l285]; exact Fr.app N281 N285q
  have e285 : T285.heap = T285.heap := rfl
  have KP285 := Keep.trans KP284 K285 (allS (Or.inr sz_b284) all0)
  have Fx286 := ((Fx283.ext E284).keep K285)
  have Fx287 := ((((F_users.ext E278).other W281 (Or.inr (slot_ne (Or.inr (own_q hw 57 rfl)) (Or.inr (own_q hw 39 rfl)) (by decide) (t := (.object "java/util/Map")) (t' := (.array (.object "com/example/parley/parley/floor/Conference$Floor"))) (by decide) (by decide)))).ext E284).keep K285 (ninS ne_a1_b284 nin0))
  obtain ⟨T288, h288, X288, e288, W288, st288⟩ := putF X285 hx hZ hown (host := "") (Or.inl (own_q hw 56 rfl)) Via.refl e285 Fx287 Fx286 (Or.inr ⟨(own_q hw 57 rfl), rfl, hnm⟩) (own_q hw 28 rfl) (ty := (.object "java/util/Map")) (by decide) rfl rfl (g := (mkF m 21 #[.val (.ref a1), .val (.long x), .second, .val (.ref fl), .val (.ref us), .unset, .unset, .unset] [(.ref b284), (.ref a1)])) rfl rfl (hb hby d5_21)
  have KP288 := Keep.wr KP285 W288 (Or.inl (List.mem_of_getElem? (i := 0) rfl))
  have Fw288 := Fx287.same W288
  have N288 := Fr.snoc X288 N285 gn_a
  have Fx289 := (((Fx282.ext E284).keep K285 (ninS ne_b278_b284 nin0)).other W288 (Ne.symm ne_a1_b278))
  have Fx290 := (Fx286.wr W288)
  obtain ⟨T291, h291, X291, e291, E291, A291, D291, -, st291⟩ := newO X288 hx hZ hown (own_q hw 58 rfl) (own_q hw 59 rfl) (own_q hw 60 rfl) e288 (g := (mkF m 25 #[.val (.ref a1), .val (.long x), .second, .val (.ref fl), .val (.ref us), .unset, .unset, .unset] [(.ref a1)])) rfl (hb hby d5_25) (by decide) (by decide)
  obtain ⟨b291, g291⟩ : ∃ z, z = h288.size := ⟨_, rfl⟩
  rw [← g291] at A291 D291 st291
  have sz_b291 : h0.size ≤ b291 := Nat.le_trans KP288.1 (Nat.le_of_eq g291.symm)
  have gn_b291 : n0 ≤ b291 := Nat.le_trans Z0 sz_b291
  have ne_b278_b291 : b278 ≠ b291 := Nat.ne_of_lt (Nat.lt_of_lt_of_le Fx289.lt (Nat.le_of_eq g291.symm))
  have ne_a1_b291 : a1 ≠ b291 := Nat.ne_of_lt (Nat.lt_of_lt_of_le Fx290.lt (Nat.le_of_eq g291.symm))
  have KP291 := Keep.ext KP288 E291
  have F291_map : Fld Z h291 b291 "java/util/HashSet" "map" "Ljava/util/HashMap;" .null := D291 (Or.inl (own_q hw 76 rfl)) (ty := (.object "java/util/HashMap")) (by decide)
  obtain ⟨_, _, ⟨T292, L292, k292, n292⟩, -, X292, ⟨Lc292, hQ292, l292, y292, z292⟩, st292⟩ := X291.specialBack hx (y := (⟨"java/util/HashSet", "<init>", "()V"⟩ : MethodName)) rfl hown (mvT hZ (own_q hw 61 rfl)) (mvT hZ (own_q hw 62 rfl)) (mvT hZ (own_q hw 63 rfl)) (by decide) (backOf (W := 2) (rm_hs l Z a0 hw [] b291 h291 n0 (Nat.le_trans Z0 KP291.1) A291 F291_map gn_b291) hZ (own_q hw 63 rfl) (own_q hw 60 rfl) (by decide) (by decide)) (g := (mkF m 29 #[.val (.ref a1), .val (.long x), .second, .val (.ref fl), .val (.ref us), .unset, .unset, .unset] [(.ref b291), (.ref b291), (.ref a1)])) rfl (by rw [hml]; rfl) (Steps.refl _) (a := b291) (argsL := []) (rest := [(.ref b291), (.ref a1)]) (lenOf pd_13 rfl) rfl (by show 2 * 0 + _ ≤ _; exact Nat.le_of_eq rfl) (hb hby d5_29) (fun _ _ => ⟨rfl, e291, (by decide : 3 + 1 ≤ _), (by decide : 65545 + 8 ≤ _)⟩)
  dsimp only [Pt.U, Pt.locs, Pt.cells, Pt.slots] at X292 l292 y292 z292 st292 hQ292
  obtain rfl : k292 = 4 := y292; obtain rfl : n292 = 65553 := z292
  obtain ⟨rfl, N292q, K292⟩ := hQ292
  have N292 : Fr n0 L292 := by rw [l292]; exact Fr.app N288 N292q
  have e292 : T292.heap = T292.heap := rfl
  have KP292 := Keep.trans KP291 K292 (allS (Or.inr sz_b291) all0)
  have Fx293 := ((Fx290.ext E291).keep K292)
  have Fx294 := (((((((F_pinned.ext E278).other W281 (Or.inr (slot_ne (Or.inr (own_q hw 78 rfl)) (Or.inr (own_q hw 39 rfl)) (by decide) (t := (.object "java/util/Set")) (t' := (.array (.object "com/example/parley/parley/floor/Conference$Floor"))) (by decide) (by decide)))).ext E284).keep K285 (ninS ne_a1_b284 nin0)).other W288 (Or.inr (slot_ne (Or.inr (own_q hw 78 rfl)) (Or.inr (own_q hw 57 rfl)) (by decide) (t := (.object "java/util/Set")) (t' := (.object "java/util/Map")) (by decide) (by decide)))).ext E291).keep K292 (ninS ne_a1_b291 nin0))
  obtain ⟨T295, h295, X295, e295, W295, st295⟩ := putF X292 hx hZ hown (host := "") (Or.inl (own_q hw 77 rfl)) Via.refl e292 Fx294 Fx293 (Or.inr ⟨(own_q hw 78 rfl), rfl, hnm⟩) (own_q hw 28 rfl) (ty := (.object "java/util/Set")) (by decide) rfl rfl (g := (mkF m 32 #[.val (.ref a1), .val (.long x), .second, .val (.ref fl), .val (.ref us), .unset, .unset, .unset] [(.ref b291), (.ref a1)])) rfl rfl (hb hby d5_32)
  have KP295 := Keep.wr KP292 W295 (Or.inl (List.mem_of_getElem? (i := 0) rfl))
  have Fw295 := Fx294.same W295
  have N295 := Fr.snoc X295 N292 gn_a
  have Fx296 := (((Fx289.ext E291).keep K292 (ninS ne_b278_b291 nin0)).other W295 (Ne.symm ne_a1_b278))
  have Fx297 := (Fx293.wr W295)
  obtain ⟨T298, h298, X298, e298, E298, A298, D298, -, st298⟩ := newO X295 hx hZ hown (own_q hw 40 rfl) (own_q hw 41 rfl) (own_q hw 42 rfl) e295 (g := (mkF m 36 #[.val (.ref a1), .val (.long x), .second, .val (.ref fl), .val (.ref us), .unset, .unset, .unset] [(.ref a1)])) rfl (hb hby d5_36) (by decide) (by decide)
  obtain ⟨b298, g298⟩ : ∃ z, z = h295.size := ⟨_, rfl⟩
  rw [← g298] at A298 D298 st298
  have sz_b298 : h0.size ≤ b298 := Nat.le_trans KP295.1 (Nat.le_of_eq g298.symm)
  have gn_b298 : n0 ≤ b298 := Nat.le_trans Z0 sz_b298
  have ne_b278_b298 : b278 ≠ b298 := Nat.ne_of_lt (Nat.lt_of_lt_of_le Fx296.lt (Nat.le_of_eq g298.symm))
  have ne_a1_b298 : a1 ≠ b298 := Nat.ne_of_lt (Nat.lt_of_lt_of_le Fx297.lt (Nat.le_of_eq g298.symm))
  have KP298 := Keep.ext KP295 E298
  have F298_loadFactor : Fld Z h298 b298 "java/util/HashMap" "loadFactor" "F" (.float (0 : UInt32)) := D298 (Or.inr (own_q hw 55 rfl)) (ty := .float) (by decide)
  obtain ⟨_, _, ⟨T299, L299, k299, n299⟩, -, X299, ⟨Lc299, hQ299, l299, y299, z299⟩, st299⟩ := X298.specialBack hx (y := (⟨"java/util/HashMap", "<init>", "()V"⟩ : MethodName)) rfl hown (mvT hZ (own_q hw 43 rfl)) (mvT hZ (own_q hw 44 rfl)) (mvT hZ (own_q hw 45 rfl)) (by decide) (backOf (W := 2) (rm_hm l Z a0 hw [] b298 h298 n0 (Nat.le_trans Z0 KP298.1) A298 F298_loadFactor gn_b298) hZ (own_q hw 45 rfl) (own_q hw 42 rfl) (by decide) (by decide)) (g := (mkF m 40 #[.val (.ref a1), .val (.long x), .second, .val (.ref fl), .val (.ref us), .unset, .unset, .unset] [(.ref b298), (.ref b298), (.ref a1)])) rfl (by rw [hml]; rfl) (Steps.refl _) (a := b298) (argsL := []) (rest := [(.ref b298), (.ref a1)]) (lenOf pd_13 rfl) rfl (by show 2 * 0 + _ ≤ _; exact Nat.le_of_eq rfl) (hb hby d5_40) (fun _ _ => ⟨rfl, e298, (by decide : 5 + 0 ≤ _), (by decide : 65561 + 0 ≤ _)⟩)
  dsimp only [Pt.U, Pt.locs, Pt.cells, Pt.slots] at X299 l299 y299 z299 st299 hQ299
  obtain rfl : k299 = 5 := y299; obtain rfl : n299 = 65561 := z299
  obtain ⟨rfl, N299q, K299⟩ := hQ299
  have N299 : Fr n0 L299 := by rw [l299]; exact Fr.app N295 N299q
  have e299 : T299.heap = T299.heap := rfl
  have KP299 := Keep.trans KP298 K299 (allS (Or.inr sz_b298) all0)
  have Fx300 := ((Fx297.ext E298).keep K299)
  have Fx301 := ((((((((((F_requests.ext E278).other W281 (Or.inr (slot_ne (Or.inr (own_q hw 80 rfl)) (Or.inr (own_q hw 39 rfl)) (by decide) (t := (.object "java/util/Map")) (t' := (.array (.object "com/example/parley/parley/floor/Conference$Floor"))) (by decide) (by decide)))).ext E284).keep K285 (ninS ne_a1_b284 nin0)).other W288 (Or.inr (slot_ne (Or.inr (own_q hw 80 rfl)) (Or.inr (own_q hw 57 rfl)) (by decide) (t := (.object "java/util/Map")) (t' := (.object "java/util/Map")) (by decide) (by decide)))).ext E291).keep K292 (ninS ne_a1_b291 nin0)).other W295 (Or.inr (slot_ne (Or.inr (own_q hw 80 rfl)) (Or.inr (own_q hw 78 rfl)) (by decide) (t := (.object "java/util/Map")) (t' := (.object "java/util/Set")) (by decide) (by decide)))).ext E298).keep K299 (ninS ne_a1_b298 nin0))
  obtain ⟨T302, h302, X302, e302, W302, st302⟩ := putF X299 hx hZ hown (host := "") (Or.inl (own_q hw 79 rfl)) Via.refl e299 Fx301 Fx300 (Or.inr ⟨(own_q hw 80 rfl), rfl, hnm⟩) (own_q hw 28 rfl) (ty := (.object "java/util/Map")) (by decide) rfl rfl (g := (mkF m 43 #[.val (.ref a1), .val (.long x), .second, .val (.ref fl), .val (.ref us), .unset, .unset, .unset] [(.ref b298), (.ref a1)])) rfl rfl (hb hby d5_43)
  have KP302 := Keep.wr KP299 W302 (Or.inl (List.mem_of_getElem? (i := 0) rfl))
  have Fw302 := Fx301.same W302
  have N302 := Fr.snoc X302 N299 gn_a
  have Fx303 := (((Fx296.ext E298).keep K299 (ninS ne_b278_b298 nin0)).other W302 (Ne.symm ne_a1_b278))
  have Fx304 := (Fx300.wr W302)
  obtain ⟨T305, h305, X305, e305, E305, A305, D305, -, st305⟩ := newO X302 hx hZ hown (own_q hw 40 rfl) (own_q hw 41 rfl) (own_q hw 42 rfl) e302 (g := (mkF m 47 #[.val (.ref a1), .val (.long x), .second, .val (.ref fl), .val (.ref us), .unset, .unset, .unset] [(.ref a1)])) rfl (hb hby d5_47) (by decide) (by decide)
  obtain ⟨b305, g305⟩ : ∃ z, z = h302.size := ⟨_, rfl⟩
  rw [← g305] at A305 D305 st305
  have sz_b305 : h0.size ≤ b305 := Nat.le_trans KP302.1 (Nat.le_of_eq g305.symm)
  have gn_b305 : n0 ≤ b305 := Nat.le_trans Z0 sz_b305
  have ne_b278_b305 : b278 ≠ b305 := Nat.ne_of_lt (Nat.lt_of_lt_of_le Fx303.lt (Nat.le_of_eq g305.symm))
  have ne_a1_b305 : a1 ≠ b305 := Nat.ne_of_lt (Nat.lt_of_lt_of_le Fx304.lt (Nat.le_of_eq g305.symm))
  have KP305 := Keep.ext KP302 E305
  have F305_loadFactor : Fld Z h305 b305 "java/util/HashMap" "loadFactor" "F" (.float (0 : UInt32)) := D305 (Or.inr (own_q hw 55 rfl)) (ty := .float) (by decide)
  obtain ⟨_, _, ⟨T306, L306, k306, n306⟩, -, X306, ⟨Lc306, hQ306, l306, y306, z306⟩, st306⟩ := X305.specialBack hx (y := (⟨"java/util/HashMap", "<init>", "()V"⟩ : MethodName)) rfl hown (mvT hZ (own_q hw 43 rfl)) (mvT hZ (own_q hw 44 rfl)) (mvT hZ (own_q hw 45 rfl)) (by decide) (backOf (W := 2) (rm_hm l Z a0 hw [] b305 h305 n0 (Nat.le_trans Z0 KP305.1) A305 F305_loadFactor gn_b305) hZ (own_q hw 45 rfl) (own_q hw 42 rfl) (by decide) (by decide)) (g := (mkF m 51 #[.val (.ref a1), .val (.long x), .second, .val (.ref fl), .val (.ref us), .unset, .unset, .unset] [(.ref b305), (.ref b305), (.ref a1)])) rfl (by rw [hml]; rfl) (Steps.refl _) (a := b305) (argsL := []) (rest := [(.ref b305), (.ref a1)]) (lenOf pd_13 rfl) rfl (by show 2 * 0 + _ ≤ _; exact Nat.le_of_eq rfl) (hb hby d5_51) (fun _ _ => ⟨rfl, e305, (by decide : 6 + 0 ≤ _), (by decide : 65569 + 0 ≤ _)⟩)
  dsimp only [Pt.U, Pt.locs, Pt.cells, Pt.slots] at X306 l306 y306 z306 st306 hQ306
  obtain rfl : k306 = 6 := y306; obtain rfl : n306 = 65569 := z306
  obtain ⟨rfl, N306q, K306⟩ := hQ306
  have N306 : Fr n0 L306 := by rw [l306]; exact Fr.app N302 N306q
  have e306 : T306.heap = T306.heap := rfl
  have KP306 := Keep.trans KP305 K306 (allS (Or.inr sz_b305) all0)
  have Fx307 := ((Fx304.ext E305).keep K306)
  have Fx308 := (((((((((((((F_madeBy.ext E278).other W281 (Or.inr (slot_ne (Or.inr (own_q hw 82 rfl)) (Or.inr (own_q hw 39 rfl)) (by decide) (t := (.object "java/util/Map")) (t' := (.array (.object "com/example/parley/parley/floor/Conference$Floor"))) (by decide) (by decide)))).ext E284).keep K285 (ninS ne_a1_b284 nin0)).other W288 (Or.inr (slot_ne (Or.inr (own_q hw 82 rfl)) (Or.inr (own_q hw 57 rfl)) (by decide) (t := (.object "java/util/Map")) (t' := (.object "java/util/Map")) (by decide) (by decide)))).ext E291).keep K292 (ninS ne_a1_b291 nin0)).other W295 (Or.inr (slot_ne (Or.inr (own_q hw 82 rfl)) (Or.inr (own_q hw 78 rfl)) (by decide) (t := (.object "java/util/Map")) (t' := (.object "java/util/Set")) (by decide) (by decide)))).ext E298).keep K299 (ninS ne_a1_b298 nin0)).other W302 (Or.inr (slot_ne (Or.inr (own_q hw 82 rfl)) (Or.inr (own_q hw 80 rfl)) (by decide) (t := (.object "java/util/Map")) (t' := (.object "java/util/Map")) (by decide) (by decide)))).ext E305).keep K306 (ninS ne_a1_b305 nin0))
  obtain ⟨T309, h309, X309, e309, W309, st309⟩ := putF X306 hx hZ hown (host := "") (Or.inl (own_q hw 81 rfl)) Via.refl e306 Fx308 Fx307 (Or.inr ⟨(own_q hw 82 rfl), rfl, hnm⟩) (own_q hw 28 rfl) (ty := (.object "java/util/Map")) (by decide) rfl rfl (g := (mkF m 54 #[.val (.ref a1), .val (.long x), .second, .val (.ref fl), .val (.ref us), .unset, .unset, .unset] [(.ref b305), (.ref a1)])) rfl rfl (hb hby d5_54)
  have KP309 := Keep.wr KP306 W309 (Or.inl (List.mem_of_getElem? (i := 0) rfl))
  have Fw309 := Fx308.same W309
  have N309 := Fr.snoc X309 N306 gn_a
  have Fx310 := (((Fx303.ext E305).keep K306 (ninS ne_b278_b305 nin0)).other W309 (Ne.symm ne_a1_b278))
  have Fx311 := (Fx307.wr W309)
  obtain ⟨T312, h312, X312, e312, E312, A312, D312, -, st312⟩ := newO X309 hx hZ hown (own_q hw 40 rfl) (own_q hw 41 rfl) (own_q hw 42 rfl) e309 (g := (mkF m 58 #[.val (.ref a1), .val (.long x), .second, .val (.ref fl), .val (.ref us), .unset, .unset, .unset] [(.ref a1)])) rfl (hb hby d5_58) (by decide) (by decide)
  obtain ⟨b312, g312⟩ : ∃ z, z = h309.size := ⟨_, rfl⟩
  rw [← g312] at A312 D312 st312
  have sz_b312 : h0.size ≤ b312 := Nat.le_trans KP309.1 (Nat.le_of_eq g312.symm)
  have gn_b312 : n0 ≤ b312 := Nat.le_trans Z0 sz_b312
  have ne_b278_b312 : b278 ≠ b312 := Nat.ne_of_lt (Nat.lt_of_lt_of_le Fx310.lt (Nat.le_of_eq g312.symm))
  have ne_a1_b312 : a1 ≠ b312 := Nat.ne_of_lt (Nat.lt_of_lt_of_le Fx311.lt (Nat.le_of_eq g312.symm))
  have KP312 := Keep.ext KP309 E312
  have F312_loadFactor : Fld Z h312 b312 "java/util/HashMap" "loadFactor" "F" (.float (0 : UInt32)) := D312 (Or.inr (own_q hw 55 rfl)) (ty := .float) (by decide)
  obtain ⟨_, _, ⟨T313, L313, k313, n313⟩, -, X313, ⟨Lc313, hQ313, l313, y313, z313⟩, st313⟩ := X312.specialBack hx (y := (⟨"java/util/HashMap", "<init>", "()V"⟩ : MethodName)) rfl hown (mvT hZ (own_q hw 43 rfl)) (mvT hZ (own_q hw 44 rfl)) (mvT hZ (own_q hw 45 rfl)) (by decide) (backOf (W := 2) (rm_hm l Z a0 hw [] b312 h312 n0 (Nat.le_trans Z0 KP312.1) A312 F312_loadFactor gn_b312) hZ (own_q hw 45 rfl) (own_q hw 42 rfl) (by decide) (by decide)) (g := (mkF m 62 #[.val (.ref a1), .val (.long x), .second, .val (.ref fl), .val (.ref us), .unset, .unset, .unset] [(.ref b312), (.ref b312), (.ref a1)])) rfl (by rw [hml]; rfl) (Steps.refl _) (a := b312) (argsL := []) (rest := [(.ref b312), (.ref a1)]) (lenOf pd_13 rfl) rfl (by show 2 * 0 + _ ≤ _; exact Nat.le_of_eq rfl) (hb hby d5_62) (fun _ _ => ⟨rfl, e312, (by decide : 7 + 0 ≤ _), (by decide : 65577 + 0 ≤ _)⟩)
  dsimp only [Pt.U, Pt.locs, Pt.cells, Pt.slots] at X313 l313 y313 z313 st313 hQ313
  obtain rfl : k313 = 7 := y313; obtain rfl : n313 = 65577 := z313
  obtain ⟨rfl, N313q, K313⟩ := hQ313
  have N313 : Fr n0 L313 := by rw [l313]; exact Fr.app N309 N313q
  have e313 : T313.heap = T313.heap := rfl
  have KP313 := Keep.trans KP312 K313 (allS (Or.inr sz_b312) all0)
  have Fx314 := ((Fx311.ext E312).keep K313)
  have Fx315 := ((((((((((((((((F_madeFor.ext E278).other W281 (Or.inr (slot_ne (Or.inr (own_q hw 84 rfl)) (Or.inr (own_q hw 39 rfl)) (by decide) (t := (.object "java/util/Map")) (t' := (.array (.object "com/example/parley/parley/floor/Conference$Floor"))) (by decide) (by decide)))).ext E284).keep K285 (ninS ne_a1_b284 nin0)).other W288 (Or.inr (slot_ne (Or.inr (own_q hw 84 rfl)) (Or.inr (own_q hw 57 rfl)) (by decide) (t := (.object "java/util/Map")) (t' := (.object "java/util/Map")) (by decide) (by decide)))).ext E291).keep K292 (ninS ne_a1_b291 nin0)).other W295 (Or.inr (slot_ne (Or.inr (own_q hw 84 rfl)) (Or.inr (own_q hw 78 rfl)) (by decide) (t := (.object "java/util/Map")) (t' := (.object "java/util/Set")) (by decide) (by decide)))).ext E298).keep K299 (ninS ne_a1_b298 nin0)).other W302 (Or.inr (slot_ne (Or.inr (own_q hw 84 rfl)) (Or.inr (own_q hw 80 rfl)) (by decide) (t := (.object "java/util/Map")) (t' := (.object "java/util/Map")) (by decide) (by decide)))).ext E305).keep K306 (ninS ne_a1_b305 nin0)).other W309 (Or.inr (slot_ne (Or.inr (own_q hw 84 rfl)) (Or.inr (own_q hw 82 rfl)) (by decide) (t := (.object "java/util/Map")) (t' := (.object "java/util/Map")) (by decide) (by decide)))).ext E312).keep K313 (ninS ne_a1_b312 nin0))
  obtain ⟨T316, h316, X316, e316, W316, st316⟩ := putF X313 hx hZ hown (host := "") (Or.inl (own_q hw 83 rfl)) Via.refl e313 Fx315 Fx314 (Or.inr ⟨(own_q hw 84 rfl), rfl, hnm⟩) (own_q hw 28 rfl) (ty := (.object "java/util/Map")) (by decide) rfl rfl (g := (mkF m 65 #[.val (.ref a1), .val (.long x), .second, .val (.ref fl), .val (.ref us), .unset, .unset, .unset] [(.ref b312), (.ref a1)])) rfl rfl (hb hby d5_65)
  have KP316 := Keep.wr KP313 W316 (Or.inl (List.mem_of_getElem? (i := 0) rfl))
  have Fw316 := Fx315.same W316
  have N316 := Fr.snoc X316 N313 gn_a
  have Fx317 := (((Fx310.ext E312).keep K313 (ninS ne_b278_b312 nin0)).other W316 (Ne.symm ne_a1_b278))
  have Fx318 := (Fx314.wr W316)
  obtain ⟨T319, h319, X319, e319, E319, A319, D319, -, st319⟩ := newO X316 hx hZ hown (own_q hw 85 rfl) (own_q hw 2 rfl) (own_q hw 3 rfl) e316 (g := (mkF m 69 #[.val (.ref a1), .val (.long x), .second, .val (.ref fl), .val (.ref us), .unset, .unset, .unset] [(.ref a1)])) rfl (hb hby d5_69) (by decide) (by decide)
  obtain ⟨b319, g319⟩ : ∃ z, z = h316.size := ⟨_, rfl⟩
  rw [← g319] at A319 D319 st319
  have sz_b319 : h0.size ≤ b319 := Nat.le_trans KP316.1 (Nat.le_of_eq g319.symm)
  have gn_b319 : n0 ≤ b319 := Nat.le_trans Z0 sz_b319
  have ne_b278_b319 : b278 ≠ b319 := Nat.ne_of_lt (Nat.lt_of_lt_of_le Fx317.lt (Nat.le_of_eq g319.symm))
  have ne_a1_b319 : a1 ≠ b319 := Nat.ne_of_lt (Nat.lt_of_lt_of_le Fx318.lt (Nat.le_of_eq g319.symm))
  have KP319 := Keep.ext KP316 E319
  have F319_modCount : Fld Z h319 b319 "java/util/AbstractList" "modCount" "I" (.int (0 : Int32)) := D319 (Or.inl (own_q hw 23 rfl)) (ty := .int) (by decide)
  have F319_elementData : Fld Z h319 b319 "java/util/ArrayList" "elementData" "[Ljava/lang/Object;" .null := D319 (Or.inl (own_q hw 26 rfl)) (ty := (.array (.object "java/lang/Object"))) (by decide)
  have F319_size : Fld Z h319 b319 "java/util/ArrayList" "size" "I" (.int (0 : Int32)) := D319 (Or.inl (own_q hw 134 rfl)) (ty := .int) (by decide)
  obtain ⟨_, _, ⟨T320, L320, k320, n320⟩, -, X320, ⟨Lc320, hQ320, l320, y320, z320⟩, st320⟩ := X319.specialBack hx (y := (⟨"java/util/ArrayList", "<init>", "()V"⟩ : MethodName)) rfl hown (mvT hZ (own_q hw 86 rfl)) (mvT hZ (own_q hw 5 rfl)) (mvT hZ (own_q hw 6 rfl)) (by decide) (backOf (W := 2) (rm_ali l Z a0 hw [] b319 h319 n0 (Nat.le_trans Z0 KP319.1) ⟨A319, F319_elementData, F319_size, F319_modCount⟩ gn_b319 hS hn (own_ext_keep hEx KP319 (allS (Nat.le_trans hn gn_a) all0)) dE oe kD hWd) hZ (own_q hw 6 rfl) (own_q hw 3 rfl) (by decide) (by decide)) (g := (mkF m 73 #[.val (.ref a1), .val (.long x), .second, .val (.ref fl), .val (.ref us), .unset, .unset, .unset] [(.ref b319), (.ref b319), (.ref a1)])) rfl (by rw [hml]; rfl) (Steps.refl _) (a := b319) (argsL := []) (rest := [(.ref b319), (.ref a1)]) (lenOf pd_13 rfl) rfl (by show 2 * 0 + _ ≤ _; exact Nat.le_of_eq rfl) (hb hby d5_73) (fun _ _ => ⟨rfl, e319, (by decide : 8 + 0 ≤ _), (by decide : 65580 + 0 ≤ _)⟩)
  dsimp only [Pt.U, Pt.locs, Pt.cells, Pt.slots] at X320 l320 y320 z320 st320 hQ320
  obtain rfl : k320 = 8 := y320; obtain rfl : n320 = 65580 := z320
  obtain ⟨rfl, N320q, K320, EA320, FE320, FZ320, FM320⟩ := hQ320
  have N320 : Fr n0 L320 := by rw [l320]; exact Fr.app N316 N320q
  have e320 : T320.heap = T320.heap := rfl
  have KP320 := Keep.trans KP319 K320 (allS (Or.inr sz_b319) all0)
  have Fx321 := ((Fx318.ext E319).keep K320)
  have Fx322 := (((((((((((((((((((F_requesterListeners.ext E278).other W281 (Or.inr (slot_ne (Or.inr (own_q hw 88 rfl)) (Or.inr (own_q hw 39 rfl)) (by decide) (t := (.object "java/util/List")) (t' := (.array (.object "com/example/parley/parley/floor/Conference$Floor"))) (by decide) (by decide)))).ext E284).keep K285 (ninS ne_a1_b284 nin0)).other W288 (Or.inr (slot_ne (Or.inr (own_q hw 88 rfl)) (Or.inr (own_q hw 57 rfl)) (by decide) (t := (.object "java/util/List")) (t' := (.object "java/util/Map")) (by decide) (by decide)))).ext E291).keep K292 (ninS ne_a1_b291 nin0)).other W295 (Or.inr (slot_ne (Or.inr (own_q hw 88 rfl)) (Or.inr (own_q hw 78 rfl)) (by decide) (t := (.object "java/util/List")) (t' := (.object "java/util/Set")) (by decide) (by decide)))).ext E298).keep K299 (ninS ne_a1_b298 nin0)).other W302 (Or.inr (slot_ne (Or.inr (own_q hw 88 rfl)) (Or.inr (own_q hw 80 rfl)) (by decide) (t := (.object "java/util/List")) (t' := (.object "java/util/Map")) (by decide) (by decide)))).ext E305).keep K306 (ninS ne_a1_b305 nin0)).other W309 (Or.inr (slot_ne (Or.inr (own_q hw 88 rfl)) (Or.inr (own_q hw 82 rfl)) (by decide) (t := (.object "java/util/List")) (t' := (.object "java/util/Map")) (by decide) (by decide)))).ext E312).keep K313 (ninS ne_a1_b312 nin0)).other W316 (Or.inr (slot_ne (Or.inr (own_q hw 88 rfl)) (Or.inr (own_q hw 84 rfl)) (by decide) (t := (.object "java/util/List")) (t' := (.object "java/util/Map")) (by decide) (by decide)))).ext E319).keep K320 (ninS ne_a1_b319 nin0))
  obtain ⟨T323, h323, X323, e323, W323, st323⟩ := putF X320 hx hZ hown (host := "") (Or.inl (own_q hw 87 rfl)) Via.refl e320 Fx322 Fx321 (Or.inr ⟨(own_q hw 88 rfl), rfl, hnm⟩) (own_q hw 28 rfl) (ty := (.object "java/util/List")) (by decide) rfl rfl (g := (mkF m 76 #[.val (.ref a1), .val (.long x), .second, .val (.ref fl), .val (.ref us), .unset, .unset, .unset] [(.ref b319), (.ref a1)])) rfl rfl (hb hby d5_76)
  have KP323 := Keep.wr KP320 W323 (Or.inl (List.mem_of_getElem? (i := 0) rfl))
  have Fw323 := Fx322.same W323
  have N323 := Fr.snoc X323 N320 gn_a
  have Fx324 := (((Fx317.ext E319).keep K320 (ninS ne_b278_b319 nin0)).other W323 (Ne.symm ne_a1_b278))
  have Fx325 := (Fx321.wr W323)
  obtain ⟨T326, h326, X326, e326, E326, A326, D326, -, st326⟩ := newO X323 hx hZ hown (own_q hw 85 rfl) (own_q hw 2 rfl) (own_q hw 3 rfl) e323 (g := (mkF m 80 #[.val (.ref a1), .val (.long x), .second, .val (.ref fl), .val (.ref us), .unset, .unset, .unset] [(.ref a1)])) rfl (hb hby d5_80) (by decide) (by decide)
  obtain ⟨b326, g326⟩ : ∃ z, z = h323.size := ⟨_, rfl⟩
  rw [← g326] at A326 D326 st326
  have sz_b326 : h0.size ≤ b326 := Nat.le_trans KP323.1 (Nat.le_of_eq g326.symm)
  have gn_b326 : n0 ≤ b326 := Nat.le_trans Z0 sz_b326
  have ne_b278_b326 : b278 ≠ b326 := Nat.ne_of_lt (Nat.lt_of_lt_of_le Fx324.lt (Nat.le_of_eq g326.symm))
  have ne_a1_b326 : a1 ≠ b326 := Nat.ne_of_lt (Nat.lt_of_lt_of_le Fx325.lt (Nat.le_of_eq g326.symm))
  have KP326 := Keep.ext KP323 E326
  have F326_modCount : Fld Z h326 b326 "java/util/AbstractList" "modCount" "I" (.int (0 : Int32)) := D326 (Or.inl (own_q hw 23 rfl)) (ty := .int) (by decide)
  have F326_elementData : Fld Z h326 b326 "java/util/ArrayList" "elementData" "[Ljava/lang/Object;" .null := D326 (Or.inl (own_q hw 26 rfl)) (ty := (.array (.object "java/lang/Object"))) (by decide)
  have F326_size : Fld Z h326 b326 "java/util/ArrayList" "size" "I" (.int (0 : Int32)) := D326 (Or.inl (own_q hw 134 rfl)) (ty := .int) (by decide)
  obtain ⟨_, _, ⟨T327, L327, k327, n327⟩, -, X327, ⟨Lc327, hQ327, l327, y327, z327⟩, st327⟩ := X326.specialBack hx (y := (⟨"java/util/ArrayList", "<init>", "()V"⟩ : MethodName)) rfl hown (mvT hZ (own_q hw 86 rfl)) (mvT hZ (own_q hw 5 rfl)) (mvT hZ (own_q hw 6 rfl)) (by decide) (backOf (W := 2) (rm_ali l Z a0 hw [] b326 h326 n0 (Nat.le_trans Z0 KP326.1) ⟨A326, F326_elementData, F326_size, F326_modCount⟩ gn_b326 hS hn (own_ext_keep hEx KP326 (allS (Nat.le_trans hn gn_a) all0)) dE oe kD hWd) hZ (own_q hw 6 rfl) (own_q hw 3 rfl) (by decide) (by decide)) (g := (mkF m 84 #[.val (.ref a1), .val (.long x), .second, .val (.ref fl), .val (.ref us), .unset, .unset, .unset] [(.ref b326), (.ref b326), (.ref a1)])) rfl (by rw [hml]; rfl) (Steps.refl _) (a := b326) (argsL := []) (rest := [(.ref b326), (.ref a1)]) (lenOf pd_13 rfl) rfl (by show 2 * 0 + _ ≤ _; exact Nat.le_of_eq rfl) (hb hby d5_84) (fun _ _ => ⟨rfl, e326, (by decide : 9 + 0 ≤ _), (by decide : 65583 + 0 ≤ _)⟩)
  dsimp only [Pt.U, Pt.locs, Pt.cells, Pt.slots] at X327 l327 y327 z327 st327 hQ327
  obtain rfl : k327 = 9 := y327; obtain rfl : n327 = 65583 := z327
  obtain ⟨rfl, N327q, K327, EA327, FE327, FZ327, FM327⟩ := hQ327
  have N327 : Fr n0 L327 := by rw [l327]; exact Fr.app N323 N327q
  have e327 : T327.heap = T327.heap := rfl
  have KP327 := Keep.trans KP326 K327 (allS (Or.inr sz_b326) all0)
  have Fx328 := ((Fx325.ext E326).keep K327)
  have Fx329 := ((((((((((((((((((((((F_changeListeners.ext E278).other W281 (Or.inr (slot_ne (Or.inr (own_q hw 90 rfl)) (Or.inr (own_q hw 39 rfl)) (by decide) (t := (.object "java/util/List")) (t' := (.array (.object "com/example/parley/parley/floor/Conference$Floor"))) (by decide) (by decide)))).ext E284).keep K285 (ninS ne_a1_b284 nin0)).other W288 (Or.inr (slot_ne (Or.inr (own_q hw 90 rfl)) (Or.inr (own_q hw 57 rfl)) (by decide) (t := (.object "java/util/List")) (t' := (.object "java/util/Map")) (by decide) (by decide)))).ext E291).keep K292 (ninS ne_a1_b291 nin0)).other W295 (Or.inr (slot_ne (Or.inr (own_q hw 90 rfl)) (Or.inr (own_q hw 78 rfl)) (by decide) (t := (.object "java/util/List")) (t' := (.object "java/util/Set")) (by decide) (by decide)))).ext E298).keep K299 (ninS ne_a1_b298 nin0)).other W302 (Or.inr (slot_ne (Or.inr (own_q hw 90 rfl)) (Or.inr (own_q hw 80 rfl)) (by decide) (t := (.object "java/util/List")) (t' := (.object "java/util/Map")) (by decide) (by decide)))).ext E305).keep K306 (ninS ne_a1_b305 nin0)).other W309 (Or.inr (slot_ne (Or.inr (own_q hw 90 rfl)) (Or.inr (own_q hw 82 rfl)) (by decide) (t := (.object "java/util/List")) (t' := (.object "java/util/Map")) (by decide) (by decide)))).ext E312).keep K313 (ninS ne_a1_b312 nin0)).other W316 (Or.inr (slot_ne (Or.inr (own_q hw 90 rfl)) (Or.inr (own_q hw 84 rfl)) (by decide) (t := (.object "java/util/List")) (t' := (.object "java/util/Map")) (by decide) (by decide)))).ext E319).keep K320 (ninS ne_a1_b319 nin0)).other W323 (Or.inr (slot_ne (Or.inr (own_q hw 90 rfl)) (Or.inr (own_q hw 88 rfl)) (by decide) (t := (.object "java/util/List")) (t' := (.object "java/util/List")) (by decide) (by decide)))).ext E326).keep K327 (ninS ne_a1_b326 nin0))
  obtain ⟨T330, h330, X330, e330, W330, st330⟩ := putF X327 hx hZ hown (host := "") (Or.inl (own_q hw 89 rfl)) Via.refl e327 Fx329 Fx328 (Or.inr ⟨(own_q hw 90 rfl), rfl, hnm⟩) (own_q hw 28 rfl) (ty := (.object "java/util/List")) (by decide) rfl rfl (g := (mkF m 87 #[.val (.ref a1), .val (.long x), .second, .val (.ref fl), .val (.ref us), .unset, .unset, .unset] [(.ref b326), (.ref a1)])) rfl rfl (hb hby d5_87)
  have KP330 := Keep.wr KP327 W330 (Or.inl (List.mem_of_getElem? (i := 0) rfl))
  have Fw330 := Fx329.same W330
  have N330 := Fr.snoc X330 N327 gn_a
  obtain ⟨_, _, ⟨T331, L331, k331, n331⟩, -, X331, ⟨Lc331, hQ331, l331, y331, z331⟩, st331⟩ := Jvm.LawKit.callS X330 hx (y := (⟨"com/example/parley/parley/floor/Conference", "checkId", "(J)J"⟩ : MethodName)) hown (mvT hZ (own_q hw 91 rfl)) (mvT hZ (own_q hw 92 rfl)) (mvT hZ (own_q hw 29 rfl)) (mvT hZ (own_q hw 93 rfl)) (by decide) (backOf (W := 1) (rm_cid l Z a0 hw [] x h330 n0 (Nat.le_trans Z0 KP330.1) hx0 hx1) hZ (own_q hw 93 rfl) (own_q hw 29 rfl) (by decide) (by decide)) (g := (mkF m 92 #[.val (.ref a1), .val (.long x), .second, .val (.ref fl), .val (.ref us), .unset, .unset, .unset] [(.long x), (.ref a1)])) rfl (by rw [hml]; rfl) (argsL := [(.long x)]) (rest := [(.ref a1)]) (lenOf pd_332 rfl) rfl (by show 2 * 0 + _ ≤ _; exact Nat.le_of_eq rfl) (hb hby d5_92) (fun _ _ => ⟨rfl, e330, (by decide : 9 + 0 ≤ _), (by decide : 65583 + 0 ≤ _)⟩)
  dsimp only [Pt.U, Pt.locs, Pt.cells, Pt.slots] at X331 l331 y331 z331 st331 hQ331
  obtain rfl : k331 = 9 := y331; obtain rfl : n331 = 65583 := z331
  obtain ⟨rfl, N331q, e331⟩ := hQ331
  have N331 : Fr n0 L331 := by rw [l331]; exact Fr.app N330 N331q
  have Fx332 := (Fx328.wr W330)
  have Fx333 := (((((((((((((((((((((((F_id.ext E278).other W281 (Or.inr (slot_ne (Or.inr (own_q hw 96 rfl)) (Or.inr (own_q hw 39 rfl)) (by decide) (t := .long) (t' := (.array (.object "com/example/parley/parley/floor/Conference$Floor"))) (by decide) (by decide)))).ext E284).keep K285 (ninS ne_a1_b284 nin0)).other W288 (Or.inr (slot_ne (Or.inr (own_q hw 96 rfl)) (Or.inr (own_q hw 57 rfl)) (by decide) (t := .long) (t' := (.object "java/util/Map")) (by decide) (by decide)))).ext E291).keep K292 (ninS ne_a1_b291 nin0)).other W295 (Or.inr (slot_ne (Or.inr (own_q hw 96 rfl)) (Or.inr (own_q hw 78 rfl)) (by decide) (t := .long) (t' := (.object "java/util/Set")) (by decide) (by decide)))).ext E298).keep K299 (ninS ne_a1_b298 nin0)).other W302 (Or.inr (slot_ne (Or.inr (own_q hw 96 rfl)) (Or.inr (own_q hw 80 rfl)) (by decide) (t := .long) (t' := (.object "java/util/Map")) (by decide) (by decide)))).ext E305).keep K306 (ninS ne_a1_b305 nin0)).other W309 (Or.inr (slot_ne (Or.inr (own_q hw 96 rfl)) (Or.inr (own_q hw 82 rfl)) (by decide) (t := .long) (t' := (.object "java/util/Map")) (by decide) (by decide)))).ext E312).keep K313 (ninS ne_a1_b312 nin0)).other W316 (Or.inr (slot_ne (Or.inr (own_q hw 96 rfl)) (Or.inr (own_q hw 84 rfl)) (by decide) (t := .long) (t' := (.object "java/util/Map")) (by decide) (by decide)))).ext E319).keep K320 (ninS ne_a1_b319 nin0)).other W323 (Or.inr (slot_ne (Or.inr (own_q hw 96 rfl)) (Or.inr (own_q hw 88 rfl)) (by decide) (t := .long) (t' := (.object "java/util/List")) (by decide) (by decide)))).ext E326).keep K327 (ninS ne_a1_b326 nin0)).other W330 (Or.inr (slot_ne (Or.inr (own_q hw 96 rfl)) (Or.inr (own_q hw 90 rfl)) (by decide) (t := .long) (t' := (.object "java/util/List")) (by decide) (by decide))))
  obtain ⟨T334, h334, X334, e334, W334, st334⟩ := putF X331 hx hZ hown (host := "") (Or.inl (own_q hw 95 rfl)) Via.refl e331 Fx333 Fx332 (Or.inr ⟨(own_q hw 96 rfl), rfl, hnm⟩) (own_q hw 28 rfl) (ty := .long) (by decide) rfl rfl (g := (mkF m 95 #[.val (.ref a1), .val (.long x), .second, .val (.ref fl), .val (.ref us), .unset, .unset, .unset] [(.long x), (.ref a1)])) rfl rfl (hb hby d5_95)
  have KP334 := Keep.wr KP330 W334 (Or.inl (List.mem_of_getElem? (i := 0) rfl))
  have Fw334 := Fx333.same W334
  have N334 := Fr.snoc X334 N331 gn_a
  have Fx335 := ((((Fx324.ext E326).keep K327 (ninS ne_b278_b326 nin0)).other W330 (Ne.symm ne_a1_b278)).other W334 (Ne.symm ne_a1_b278))
  have Fx336 := (Fx332.wr W334)
  obtain ⟨cq337, kq337, q337a, q337b, q337c⟩ := isOf hZ e334 (((hFl.keep KP334 (ninS nf nin0))).1)
  obtain ⟨_, _, ⟨T337, L337, k337, n337⟩, -, X337, ⟨Lc337, hQ337, l337, y337, z337⟩, st337⟩ := X334.interfaceBack hx (xi := (⟨"java/util/Collection", "iterator", "()Ljava/util/Iterator;"⟩ : MethodName)) (y := (⟨"java/util/ArrayList", "iterator", "()Ljava/util/Iterator;"⟩ : MethodName)) hown (mvT hZ (own_q hw 97 rfl)) (mvT hZ (own_q hw 98 rfl)) (mvT hZ (own_q hw 99 rfl)) (mvT hZ (own_q hw 100 rfl)) (mvT hZ (own_q hw 101 rfl)) (mvT hZ (own_q hw 102 rfl)) (mvT hZ (own_q hw 103 rfl)) (mvT hZ (own_q hw 104 rfl)) (by decide) (backOf (W := 0) (rm_ite l Z a0 hw [] fl h334 n0 (Nat.le_trans Z0 KP334.1) (1 : Int32) ((hFl.keep KP334 (ninS nf nin0))).2.2.2) hZ (own_q hw 105 rfl) (own_q hw 3 rfl) (by decide) (by decide)) q337a q337b q337c (g := (mkF m 99 #[.val (.ref a1), .val (.long x), .second, .val (.ref fl), .val (.ref us), .unset, .unset, .unset] [(.ref fl)])) rfl (by rw [hml]; rfl) (Steps.refl _) (argsL := []) (rest := []) (lenOf pd_336 rfl) rfl (by show 2 * 0 + _ ≤ _; exact Nat.le_of_eq rfl) (hb hby d5_99) (fun _ _ => ⟨rfl, e334, (by decide : 9 + 1 ≤ _), (by decide : 65583 + 4 ≤ _)⟩)
  dsimp only [Pt.U, Pt.locs, Pt.cells, Pt.slots] at X337 l337 y337 z337 st337 hQ337
  obtain rfl : k337 = 10 := y337; obtain rfl : n337 = 65587 := z337
  obtain ⟨it337, rfl, N337q, E337, z337', hIt337⟩ := hQ337
  have N337 : Fr n0 L337 := by rw [l337]; exact Fr.app N334 N337q
  have e337 : T337.heap = T337.heap := rfl
  have KP337 := Keep.ext KP334 E337
  have sz_it337 : h0.size ≤ it337 := Nat.le_trans KP334.1 z337'
  have gn_it337 : n0 ≤ it337 := Nat.le_trans Z0 sz_it337
  have na_it337 : a1 ≠ it337 := Nat.ne_of_lt (Nat.lt_of_lt_of_le E_a.lt sz_it337)
  have ne_b278_it337 : b278 ≠ it337 := Nat.ne_of_lt (Nat.lt_of_lt_of_le Fx335.lt z337')
  obtain ⟨cq338, kq338, q338a, q338b, q338c⟩ := isOf hZ e337 ((hIt337).1)
  obtain ⟨_, _, ⟨T338, L338, k338, n338⟩, -, X338, ⟨Lc338, hQ338, l338, y338, z338⟩, st338⟩ := X337.interfaceBack hx (xi := (⟨"java/util/Iterator", "hasNext", "()Z"⟩ : MethodName)) (y := (⟨"java/util/ArrayList$Itr", "hasNext", "()Z"⟩ : MethodName)) hown (mvT hZ (own_q hw 122 rfl)) (mvT hZ (own_q hw 123 rfl)) (mvT hZ (own_q hw 124 rfl)) (mvT hZ (own_q hw 125 rfl)) (mvT hZ (own_q hw 126 rfl)) (mvT hZ (own_q hw 127 rfl)) (mvT hZ (own_q hw 128 rfl)) (mvT hZ (own_q hw 129 rfl)) (by decide) (backOf (W := 0) (rm_hn l Z a0 hw [] it337 T337.heap n0 (Nat.le_trans Z0 KP337.1) fl _ _ _ _ hIt337 ((hFl.keep KP337 (ninS nf nin0))).2.2.1 (1 : Int32) (by decide)) hZ (own_q hw 130 rfl) (own_q hw 108 rfl) (by decide) (by decide)) q338a q338b q338c (g := (mkF m 108 #[.val (.ref a1), .val (.long x), .second, .val (.ref fl), .val (.ref us), .val (.ref it337), .unset, .unset] [(.ref it337)])) rfl (by rw [hml]; rfl) (Steps.refl _) (argsL := []) (rest := []) (lenOf pd_340 rfl) rfl (by show 2 * 0 + _ ≤ _; exact Nat.le_of_eq rfl) (hb hby d5_108) (fun _ _ => ⟨rfl, e337, (by decide : 10 + 0 ≤ _), (by decide : 65587 + 0 ≤ _)⟩)
  dsimp only [Pt.U, Pt.locs, Pt.cells, Pt.slots] at X338 l338 y338 z338 st338 hQ338
  obtain rfl : k338 = 10 := y338; obtain rfl : n338 = 65587 := z338
  obtain ⟨rfl, N338q, e338⟩ := hQ338
  have N338 : Fr n0 L338 := by rw [l338]; exact Fr.app N337 N338q
  obtain ⟨cq339, kq339, q339a, q339b, q339c⟩ := isOf hZ e338 ((hIt337).1)
  obtain ⟨_, _, ⟨T339, L339, k339, n339⟩, -, X339, ⟨Lc339, hQ339, l339, y339, z339⟩, st339⟩ := X338.interfaceBack hx (xi := (⟨"java/util/Iterator", "next", "()Ljava/lang/Object;"⟩ : MethodName)) (y := (⟨"java/util/ArrayList$Itr", "next", "()Ljava/lang/Object;"⟩ : MethodName)) hown (mvT hZ (own_q hw 220 rfl)) (mvT hZ (own_q hw 221 rfl)) (mvT hZ (own_q hw 222 rfl)) (mvT hZ (own_q hw 223 rfl)) (mvT hZ (own_q hw 224 rfl)) (mvT hZ (own_q hw 225 rfl)) (mvT hZ (own_q hw 226 rfl)) (mvT hZ (own_q hw 129 rfl)) (by decide) (backOf (W := 0) (rm_nx_0_1 l Z a0 hw [] it337 T337.heap n0 (Nat.le_trans Z0 KP337.1) fl ed x0 kE _ _ hIt337 (hFl.keep KP337 (ninS nf nin0)) (A_E.keep KP337 (ninS nd nin0)) (Nat.ne_of_lt (Nat.lt_of_lt_of_le hFl.1.lt sz_it337)) (Nat.ne_of_lt (Nat.lt_of_lt_of_le A_E.lt sz_it337)) gn_it337) hZ (own_q hw 227 rfl) (own_q hw 108 rfl) (by decide) (by decide)) q339a q339b q339c (g := (mkF m 118 #[.val (.ref a1), .val (.long x), .second, .val (.ref fl), .val (.ref us), .val (.ref it337), .unset, .unset] [(.ref it337)])) rfl (by rw [hml]; rfl) (Steps.refl _) (argsL := []) (rest := []) (lenOf pd_357 rfl) rfl (by show 2 * 0 + _ ≤ _; exact Nat.le_of_eq rfl) (hb hby d5_118) (fun _ _ => ⟨rfl, e338, (by decide : 10 + 0 ≤ _), (by decide : 65587 + 0 ≤ _)⟩)
  dsimp only [Pt.U, Pt.locs, Pt.cells, Pt.slots] at X339 l339 y339 z339 st339 hQ339
  obtain rfl : k339 = 10 := y339; obtain rfl : n339 = 65587 := z339
  obtain ⟨rfl, N339q, K339, hIt339⟩ := hQ339
  have N339 : Fr n0 L339 := by rw [l339]; exact Fr.app N338 N339q
  have e339 : T339.heap = T339.heap := rfl
  have KP339 := Keep.trans KP337 K339 (allS (Or.inr sz_it337) all0)
  obtain ⟨T340, X340, e340, st340⟩ := castY X339 hx hZ hown (own_q hw 234 rfl) e339 (Ins.self ((hX0.keep KP339 (ninS nx0 nin0))).1) (g := (mkF m 123 #[.val (.ref a1), .val (.long x), .second, .val (.ref fl), .val (.ref us), .val (.ref it337), .unset, .unset] [(.ref x0)])) rfl rfl (hb hby d5_123)
  obtain ⟨cq341, kq341, q341a, q341b, q341c⟩ := isOf hZ e340 (((hX0.keep KP339 (ninS nx0 nin0))).1)
  obtain ⟨_, _, ⟨T341, L341, k341, n341⟩, -, X341, ⟨Lc341, hQ341, l341, y341, z341⟩, st341⟩ := X340.virtualBack hx (y := (⟨"com/example/parley/parley/floor/FloorSettings", "id", "()I"⟩ : MethodName)) (z := (⟨"com/example/parley/parley/floor/FloorSettings", "id", "()I"⟩ : MethodName)) hown (mvT hZ (own_q hw 235 rfl)) (mvT hZ (own_q hw 236 rfl)) (notFace_of_selects (args := #[]) (mvT hZ (own_q hw 238 rfl))) (mvT hZ (own_q hw 238 rfl)) (mvT hZ (own_q hw 237 rfl)) (by decide) (backOf (W := 1) (rm_id l Z a0 hw [] x0 T339.heap n0 (Nat.le_trans Z0 KP339.1) f1 oe (hX0.keep KP339 (ninS nx0 nin0))) hZ (own_q hw 239 rfl) (own_q hw 143 rfl) (by decide) (by decide)) q341a q341c (g := (mkF m 131 #[.val (.ref a1), .val (.long x), .second, .val (.ref fl), .val (.ref us), .val (.ref it337), .val (.ref x0), .unset] [(.ref x0), (.ref a1)])) rfl (by rw [hml]; rfl) (Steps.refl _) (argsL := []) (rest := [(.ref a1)]) (lenOf pd_363 rfl) rfl (by show 2 * 0 + _ ≤ _; exact Nat.le_of_eq rfl) (hb hby d5_131) (fun _ _ => ⟨rfl, e340, (by decide : 10 + 0 ≤ _), (by decide : 65587 + 0 ≤ _)⟩)
  dsimp only [Pt.U, Pt.locs, Pt.cells, Pt.slots] at X341 l341 y341 z341 st341 hQ341
  obtain rfl : k341 = 10 := y341; obtain rfl : n341 = 65587 := z341
  obtain ⟨rfl, N341q, e341⟩ := hQ341
  have N341 : Fr n0 L341 := by rw [l341]; exact Fr.app N339 N341q
  have Fx342 := ((Fx335.ext E337).keep K339 (ninS ne_b278_it337 nin0))
  have Fx343 := ((((((((((((((((((((((((Fw281.ext E284).keep K285 (ninS ne_a1_b284 nin0)).other W288 (Or.inr (slot_ne (Or.inr (own_q hw 39 rfl)) (Or.inr (own_q hw 57 rfl)) (by decide) (t := (.array (.object "com/example/parley/parley/floor/Conference$Floor"))) (t' := (.object "java/util/Map")) (by decide) (by decide)))).ext E291).keep K292 (ninS ne_a1_b291 nin0)).other W295 (Or.inr (slot_ne (Or.inr (own_q hw 39 rfl)) (Or.inr (own_q hw 78 rfl)) (by decide) (t := (.array (.object "com/example/parley/parley/floor/Conference$Floor"))) (t' := (.object "java/util/Set")) (by decide) (by decide)))).ext E298).keep K299 (ninS ne_a1_b298 nin0)).other W302 (Or.inr (slot_ne (Or.inr (own_q hw 39 rfl)) (Or.inr (own_q hw 80 rfl)) (by decide) (t := (.array (.object "com/example/parley/parley/floor/Conference$Floor"))) (t' := (.object "java/util/Map")) (by decide) (by decide)))).ext E305).keep K306 (ninS ne_a1_b305 nin0)).other W309 (Or.inr (slot_ne (Or.inr (own_q hw 39 rfl)) (Or.inr (own_q hw 82 rfl)) (by decide) (t := (.array (.object "com/example/parley/parley/floor/Conference$Floor"))) (t' := (.object "java/util/Map")) (by decide) (by decide)))).ext E312).keep K313 (ninS ne_a1_b312 nin0)).other W316 (Or.inr (slot_ne (Or.inr (own_q hw 39 rfl)) (Or.inr (own_q hw 84 rfl)) (by decide) (t := (.array (.object "com/example/parley/parley/floor/Conference$Floor"))) (t' := (.object "java/util/Map")) (by decide) (by decide)))).ext E319).keep K320 (ninS ne_a1_b319 nin0)).other W323 (Or.inr (slot_ne (Or.inr (own_q hw 39 rfl)) (Or.inr (own_q hw 88 rfl)) (by decide) (t := (.array (.object "com/example/parley/parley/floor/Conference$Floor"))) (t' := (.object "java/util/List")) (by decide) (by decide)))).ext E326).keep K327 (ninS ne_a1_b326 nin0)).other W330 (Or.inr (slot_ne (Or.inr (own_q hw 39 rfl)) (Or.inr (own_q hw 90 rfl)) (by decide) (t := (.array (.object "com/example/parley/parley/floor/Conference$Floor"))) (t' := (.object "java/util/List")) (by decide) (by decide)))).other W334 (Or.inr (slot_ne (Or.inr (own_q hw 39 rfl)) (Or.inr (own_q hw 96 rfl)) (by decide) (t := (.array (.object "com/example/parley/parley/floor/Conference$Floor"))) (t' := .long) (by decide) (by decide)))).ext E337).keep K339 (ninS na_it337 nin0))
  have Fx344 := ((Fx336.ext E337).keep K339)
  obtain ⟨cq345, kq345, q345a, q345b, q345c⟩ := isOf hZ e341 (Fx344)
  obtain ⟨_, _, ⟨T345, L345, k345, n345⟩, -, X345, ⟨Lc345, hQ345, l345, y345, z345⟩, st345⟩ := X341.virtualBack hx (y := (⟨"com/example/parley/parley/floor/Conference", "hasFloor", "(I)Z"⟩ : MethodName)) (z := (⟨"com/example/parley/parley/floor/Conference", "hasFloor", "(I)Z"⟩ : MethodName)) hown (mvT hZ (own_q hw 240 rfl)) (mvT hZ (own_q hw 136 rfl)) (notFace_of_selects (args := #[]) (mvT hZ (own_q hw 138 rfl))) (mvT hZ (own_q hw 138 rfl)) (mvT hZ (own_q hw 137 rfl)) (by decide) (backOf (W := 0) (rm_hf l Z a0 hw [] a1 f1 T339.heap n0 (Nat.le_trans Z0 KP339.1) b278 k278 [] Fx343 Fx342 .null (fun _ _ => rfl) (Or.inl rfl) (0 : Int32) ⟨fun _ => rfl, fun _ => rfl, fun _ _ _ => rfl, fun _ _ z => absurd rfl z⟩) hZ (own_q hw 139 rfl) (own_q hw 29 rfl) (by decide) (by decide)) q345a q345c (g := (mkF m 134 #[.val (.ref a1), .val (.long x), .second, .val (.ref fl), .val (.ref us), .val (.ref it337), .val (.ref x0), .unset] [(.int f1), (.ref a1)])) rfl (by rw [hml]; rfl) (Steps.refl _) (argsL := [(.int f1)]) (rest := []) (lenOf pd_365 rfl) rfl (by show 2 * 0 + _ ≤ _; exact Nat.le_of_eq rfl) (hb hby d5_134) (fun _ _ => ⟨rfl, e341, (by decide : 10 + 0 ≤ _), (by decide : 65587 + 0 ≤ _)⟩)
  dsimp only [Pt.U, Pt.locs, Pt.cells, Pt.slots] at X345 l345 y345 z345 st345 hQ345
  obtain rfl : k345 = 10 := y345; obtain rfl : n345 = 65587 := z345
  obtain ⟨rfl, N345q, e345⟩ := hQ345
  have N345 : Fr n0 L345 := by rw [l345]; exact Fr.app N341 N345q
  obtain ⟨T346, X346, e346, st346⟩ := getF X345 hx hZ hown (host := "") (Or.inl (own_q hw 38 rfl)) Via.refl e345 Fx343 (g := (mkF m 159 #[.val (.ref a1), .val (.long x), .second, .val (.ref fl), .val (.ref us), .val (.ref it337), .val (.ref x0), .unset] [(.ref a1)])) rfl rfl (hb hby d5_159)
  obtain ⟨cq347, kq347, q347a, q347b, q347c⟩ := isOf hZ e346 (((hX0.keep KP339 (ninS nx0 nin0))).1)
  obtain ⟨_, _, ⟨T347, L347, k347, n347⟩, -, X347, ⟨Lc347, hQ347, l347, y347, z347⟩, st347⟩ := X346.virtualBack hx (y := (⟨"com/example/parley/parley/floor/FloorSettings", "id", "()I"⟩ : MethodName)) (z := (⟨"com/example/parley/parley/floor/FloorSettings", "id", "()I"⟩ : MethodName)) hown (mvT hZ (own_q hw 235 rfl)) (mvT hZ (own_q hw 236 rfl)) (notFace_of_selects (args := #[]) (mvT hZ (own_q hw 238 rfl))) (mvT hZ (own_q hw 238 rfl)) (mvT hZ (own_q hw 237 rfl)) (by decide) (backOf (W := 1) (rm_id l Z a0 hw [] x0 T339.heap n0 (Nat.le_trans Z0 KP339.1) f1 oe (hX0.keep KP339 (ninS nx0 nin0))) hZ (own_q hw 239 rfl) (own_q hw 143 rfl) (by decide) (by decide)) q347a q347c (g := (mkF m 164 #[.val (.ref a1), .val (.long x), .second, .val (.ref fl), .val (.ref us), .val (.ref it337), .val (.ref x0), .unset] [(.ref x0), (.ref b278)])) rfl (by rw [hml]; rfl) (Steps.refl _) (argsL := []) (rest := [(.ref b278)]) (lenOf pd_363 rfl) rfl (by show 2 * 0 + _ ≤ _; exact Nat.le_of_eq rfl) (hb hby d5_164) (fun _ _ => ⟨rfl, e346, (by decide : 10 + 0 ≤ _), (by decide : 65587 + 0 ≤ _)⟩)
  dsimp only [Pt.U, Pt.locs, Pt.cells, Pt.slots] at X347 l347 y347 z347 st347 hQ347
  obtain rfl : k347 = 10 := y347; obtain rfl : n347 = 65587 := z347
  obtain ⟨rfl, N347q, e347⟩ := hQ347
  have N347 : Fr n0 L347 := by rw [l347]; exact Fr.app N345 N347q
  obtain ⟨T348, h348, X348, e348, E348, A348, D348, -, st348⟩ := newO X347 hx hZ hown (own_q hw 36 rfl) (own_q hw 241 rfl) (own_q hw 242 rfl) e347 (g := (mkF m 167 #[.val (.ref a1), .val (.long x), .second, .val (.ref fl), .val (.ref us), .val (.ref it337), .val (.ref x0), .unset] [(.int f1), (.ref b278)])) rfl (hb hby d5_167) (by decide) (by decide)
  obtain ⟨b348, g348⟩ : ∃ z, z = T339.heap.size := ⟨_, rfl⟩
  rw [← g348] at A348 D348 st348
  have sz_b348 : h0.size ≤ b348 := Nat.le_trans KP339.1 (Nat.le_of_eq g348.symm)
  have gn_b348 : n0 ≤ b348 := Nat.le_trans Z0 sz_b348
  have ne_b278_b348 : b278 ≠ b348 := Nat.ne_of_lt (Nat.lt_of_lt_of_le Fx342.lt (Nat.le_of_eq g348.symm))
  have ne_it337_b348 : it337 ≠ b348 := Nat.ne_of_lt (Nat.lt_of_lt_of_le hIt339.lt (Nat.le_of_eq g348.symm))
  have ne_a1_b348 : a1 ≠ b348 := Nat.ne_of_lt (Nat.lt_of_lt_of_le Fx344.lt (Nat.le_of_eq g348.symm))
  have KP348 := Keep.ext KP339 E348
  have F348_queue : Fld Z h348 b348 "com/example/parley/parley/floor/Conference$Floor" "queue" "Ljava/util/List;" .null := D348 (Or.inr (own_q hw 250 rfl)) (ty := (.object "java/util/List")) (by decide)
  have F348_pending : Fld Z h348 b348 "com/example/parley/parley/floor/Conference$Floor" "pending" "Ljava/util/List;" .null := D348 (Or.inr (own_q hw 252 rfl)) (ty := (.object "java/util/List")) (by decide)
  have F348_settings : Fld Z h348 b348 "com/example/parley/parley/floor/Conference$Floor" "settings" "Lcom/example/parley/parley/floor/FloorSettings;" .null := D348 (Or.inr (own_q hw 254 rfl)) (ty := (.object "com/example/parley/parley/floor/FloorSettings")) (by decide)
  obtain ⟨_, _, ⟨T349, L349, k349, n349⟩, -, X349, ⟨Lc349, hQ349, l349, y349, z349⟩, st349⟩ := X348.specialBack hx (y := (⟨"com/example/parley/parley/floor/Conference$Floor", "<init>", "(Lcom/example/parley/parley/floor/FloorSettings;)V"⟩ : MethodName)) rfl hown (mvT hZ (own_q hw 243 rfl)) (mvT hZ (own_q hw 244 rfl)) (mvT hZ (own_q hw 245 rfl)) (by decide) (backOf (W := 3) (rm_fli l Z a0 hw [] b348 x0 h348 n0 (Nat.le_trans Z0 KP348.1) A348 F348_queue F348_pending F348_settings gn_b348 hS hn (own_ext_keep hEx KP348 (allS (Nat.le_trans hn gn_a) all0)) dE oe kD hWd) hZ (own_q hw 245 rfl) (own_q hw 242 rfl) (by decide) (by decide)) (g := (mkF m 173 #[.val (.ref a1), .val (.long x), .second, .val (.ref fl), .val (.ref us), .val (.ref it337), .val (.ref x0), .unset] [(.ref x0), (.ref b348), (.ref b348), (.int f1), (.ref b278)])) rfl (by rw [hml]; rfl) (Steps.refl _) (a := b348) (argsL := [(.ref x0)]) (rest := [(.ref b348), (.int f1), (.ref b278)]) (lenOf pd_375 rfl) rfl (by show 2 * 0 + _ ≤ _; exact Nat.le_of_eq rfl) (hb hby d5_173) (fun _ _ => ⟨rfl, e348, (by decide : 11 + 2 ≤ _), (by decide : 65591 + 6 ≤ _)⟩)
  dsimp only [Pt.U, Pt.locs, Pt.cells, Pt.slots] at X349 l349 y349 z349 st349 hQ349
  obtain rfl : k349 = 13 := y349; obtain rfl : n349 = 65597 := z349
  obtain ⟨rfl, N349q, K349⟩ := hQ349
  have N349 : Fr n0 L349 := by rw [l349]; exact Fr.app N347 N349q
  have e349 : T349.heap = T349.heap := rfl
  have KP349 := Keep.trans KP348 K349 (allS (Or.inr sz_b348) all0)
  have Fx350 := ((Fx342.ext E348).keep K349 (ninS ne_b278_b348 nin0))
  have Vc351 := Fx350
  obtain ⟨cl351, Ar351, q351, S351, N351_, H351_, G351⟩ := Vc351
  have hin351 : ¬ (f1 < 0 ∨ cl351.slots.size ≤ (f1).toNatClampNeg) := inb_of S351 ⟨(own_r16 hf1).1, (own_r16 hf1).2.2⟩
  have Fx352 := (A348.keep K349)
  obtain ⟨T353, h353, X353, e353, W353, st353⟩ := stR X349 hx hZ e349 Ar351 (j := f1) hin351 rfl (Sto.ofV Ar351 q351 O278 (Ins.self Fx352)) (g := (mkF m 176 #[.val (.ref a1), .val (.long x), .second, .val (.ref fl), .val (.ref us), .val (.ref it337), .val (.ref x0), .unset] [(.ref b348), (.int f1), (.ref b278)])) rfl rfl (hb hby d5_176)
  have KP353 := Keep.wr KP349 W353 (Or.inr sz_b278)
  have V353 : Arh Z h353 b278 k278 (.object "com/example/parley/parley/floor/Conference$Floor") (65536 : Int32) [(f1, (.ref b348))] [] .null := Arh.push Ar351 q351 S351 N351_ H351_ G351 rfl W353 hin351
  have N353 := Fr.snoc X353 N349 gn_b278
  have Fx354 := (((hIt339.ext E348).keep K349 (ninS ne_it337_b348 nin0)).other W353 (Ne.symm ne_b278_it337))
  obtain ⟨cq355, kq355, q355a, q355b, q355c⟩ := isOf hZ e353 ((Fx354).1)
  obtain ⟨_, _, ⟨T355, L355, k355, n355⟩, -, X355, ⟨Lc355, hQ355, l355, y355, z355⟩, st355⟩ := X353.interfaceBack hx (xi := (⟨"java/util/Iterator", "hasNext", "()Z"⟩ : MethodName)) (y := (⟨"java/util/ArrayList$Itr", "hasNext", "()Z"⟩ : MethodName)) hown (mvT hZ (own_q hw 122 rfl)) (mvT hZ (own_q hw 123 rfl)) (mvT hZ (own_q hw 124 rfl)) (mvT hZ (own_q hw 125 rfl)) (mvT hZ (own_q hw 126 rfl)) (mvT hZ (own_q hw 127 rfl)) (mvT hZ (own_q hw 128 rfl)) (mvT hZ (own_q hw 129 rfl)) (by decide) (backOf (W := 0) (rm_hn l Z a0 hw [] it337 h353 n0 (Nat.le_trans Z0 KP353.1) fl _ _ _ _ Fx354 ((hFl.keep KP353 (ninS nf nin0))).2.2.1 (0 : Int32) (by decide)) hZ (own_q hw 130 rfl) (own_q hw 108 rfl) (by decide) (by decide)) q355a q355b q355c (g := (mkF m 108 #[.val (.ref a1), .val (.long x), .second, .val (.ref fl), .val (.ref us), .val (.ref it337), .val (.ref x0), .unset] [(.ref it337)])) rfl (by rw [hml]; rfl) (Steps.refl _) (argsL := []) (rest := []) (lenOf pd_340 rfl) rfl (by show 2 * 0 + _ ≤ _; exact Nat.le_of_eq rfl) (hb hby d5_108) (fun _ _ => ⟨rfl, e353, (by decide : 13 + 0 ≤ _), (by decide : 65597 + 0 ≤ _)⟩)
  dsimp only [Pt.U, Pt.locs, Pt.cells, Pt.slots] at X355 l355 y355 z355 st355 hQ355
  obtain rfl : k355 = 13 := y355; obtain rfl : n355 = 65597 := z355
  obtain ⟨rfl, N355q, e355⟩ := hQ355
  have N355 : Fr n0 L355 := by rw [l355]; exact Fr.app N353 N355q
  have Fx356 := (Fx352.wr W353)
  have Fx357 := (((Fx344.ext E348).keep K349).wr W353)
  obtain ⟨cq358, kq358, q358a, q358b, q358c⟩ := isOf hZ e355 (((hUs.keep KP353 (ninS nu nin0))).1)
  obtain ⟨_, _, ⟨T358, L358, k358, n358⟩, -, X358, ⟨Lc358, hQ358, l358, y358, z358⟩, st358⟩ := X355.interfaceBack hx (xi := (⟨"java/util/Collection", "iterator", "()Ljava/util/Iterator;"⟩ : MethodName)) (y := (⟨"java/util/ArrayList", "iterator", "()Ljava/util/Iterator;"⟩ : MethodName)) hown (mvT hZ (own_q hw 97 rfl)) (mvT hZ (own_q hw 98 rfl)) (mvT hZ (own_q hw 99 rfl)) (mvT hZ (own_q hw 100 rfl)) (mvT hZ (own_q hw 101 rfl)) (mvT hZ (own_q hw 102 rfl)) (mvT hZ (own_q hw 103 rfl)) (mvT hZ (own_q hw 104 rfl)) (by decide) (backOf (W := 0) (rm_ite l Z a0 hw [] us h353 n0 (Nat.le_trans Z0 KP353.1) (0 : Int32) ((hUs.keep KP353 (ninS nu nin0))).2.2.2) hZ (own_q hw 105 rfl) (own_q hw 3 rfl) (by decide) (by decide)) q358a q358b q358c (g := (mkF m 182 #[.val (.ref a1), .val (.long x), .second, .val (.ref fl), .val (.ref us), .val (.ref it337), .val (.ref x0), .unset] [(.ref us)])) rfl (by rw [hml]; rfl) (Steps.refl _) (argsL := []) (rest := []) (lenOf pd_336 rfl) rfl (by show 2 * 0 + _ ≤ _; exact Nat.le_of_eq rfl) (hb hby d5_182) (fun _ _ => ⟨rfl, e355, (by decide : 13 + 1 ≤ _), (by decide : 65597 + 4 ≤ _)⟩)
  dsimp only [Pt.U, Pt.locs, Pt.cells, Pt.slots] at X358 l358 y358 z358 st358 hQ358
  obtain rfl : k358 = 14 := y358; obtain rfl : n358 = 65601 := z358
  obtain ⟨it358, rfl, N358q, E358, z358', hIt358⟩ := hQ358
  have N358 : Fr n0 L358 := by rw [l358]; exact Fr.app N355 N358q
  have e358 : T358.heap = T358.heap := rfl
  have KP358 := Keep.ext KP353 E358
  have sz_it358 : h0.size ≤ it358 := Nat.le_trans KP353.1 z358'
  have gn_it358 : n0 ≤ it358 := Nat.le_trans Z0 sz_it358
  have na_it358 : a1 ≠ it358 := Nat.ne_of_lt (Nat.lt_of_lt_of_le E_a.lt sz_it358)
  have ne_b278_it358 : b278 ≠ it358 := Nat.ne_of_lt (Nat.lt_of_lt_of_le V353.lt z358')
  have ne_it337_it358 : it337 ≠ it358 := Nat.ne_of_lt (Nat.lt_of_lt_of_le Fx354.lt z358')
  have ne_b348_it358 : b348 ≠ it358 := Nat.ne_of_lt (Nat.lt_of_lt_of_le Fx356.lt z358')
  obtain ⟨cq359, kq359, q359a, q359b, q359c⟩ := isOf hZ e358 ((hIt358).1)
  obtain ⟨_, _, ⟨T359, L359, k359, n359⟩, -, X359, ⟨Lc359, hQ359, l359, y359, z359⟩, st359⟩ := X358.interfaceBack hx (xi := (⟨"java/util/Iterator", "hasNext", "()Z"⟩ : MethodName)) (y := (⟨"java/util/ArrayList$Itr", "hasNext", "()Z"⟩ : MethodName)) hown (mvT hZ (own_q hw 122 rfl)) (mvT hZ (own_q hw 123 rfl)) (mvT hZ (own_q hw 124 rfl)) (mvT hZ (own_q hw 125 rfl)) (mvT hZ (own_q hw 126 rfl)) (mvT hZ (own_q hw 127 rfl)) (mvT hZ (own_q hw 128 rfl)) (mvT hZ (own_q hw 129 rfl)) (by decide) (backOf (W := 0) (rm_hn l Z a0 hw [] it358 T358.heap n0 (Nat.le_trans Z0 KP358.1) us _ _ _ _ hIt358 ((hUs.keep KP358 (ninS nu nin0))).2.2.1 (0 : Int32) (by decide)) hZ (own_q hw 130 rfl) (own_q hw 108 rfl) (by decide) (by decide)) q359a q359b q359c (g := (mkF m 191 #[.val (.ref a1), .val (.long x), .second, .val (.ref fl), .val (.ref us), .val (.ref it358), .val (.ref x0), .unset] [(.ref it358)])) rfl (by rw [hml]; rfl) (Steps.refl _) (argsL := []) (rest := []) (lenOf pd_340 rfl) rfl (by show 2 * 0 + _ ≤ _; exact Nat.le_of_eq rfl) (hb hby d5_191) (fun _ _ => ⟨rfl, e358, (by decide : 14 + 0 ≤ _), (by decide : 65601 + 0 ≤ _)⟩)
  dsimp only [Pt.U, Pt.locs, Pt.cells, Pt.slots] at X359 l359 y359 z359 st359 hQ359
  obtain rfl : k359 = 14 := y359; obtain rfl : n359 = 65601 := z359
  obtain ⟨rfl, N359q, e359⟩ := hQ359
  have N359 : Fr n0 L359 := by rw [l359]; exact Fr.app N358 N359q
  have Fx360 := (V353.ext E358)
  have Fx361 := (Fx356.ext E358)
  have Fx362 := (Fx357.ext E358)
  obtain ⟨cq363, kq363, q363a, q363b, q363c⟩ := isOf hZ e359 (((hFl.keep KP358 (ninS nf nin0))).1)
  obtain ⟨_, _, ⟨T363, L363, k363, n363⟩, -, X363, ⟨Lc363, hQ363, l363, y363, z363⟩, st363⟩ := X359.interfaceBack hx (xi := (⟨"java/util/Collection", "iterator", "()Ljava/util/Iterator;"⟩ : MethodName)) (y := (⟨"java/util/ArrayList", "iterator", "()Ljava/util/Iterator;"⟩ : MethodName)) hown (mvT hZ (own_q hw 97 rfl)) (mvT hZ (own_q hw 98 rfl)) (mvT hZ (own_q hw 99 rfl)) (mvT hZ (own_q hw 100 rfl)) (mvT hZ (own_q hw 101 rfl)) (mvT hZ (own_q hw 102 rfl)) (mvT hZ (own_q hw 103 rfl)) (mvT hZ (own_q hw 104 rfl)) (by decide) (backOf (W := 0) (rm_ite l Z a0 hw [] fl T358.heap n0 (Nat.le_trans Z0 KP358.1) (1 : Int32) ((hFl.keep KP358 (ninS nf nin0))).2.2.2) hZ (own_q hw 105 rfl) (own_q hw 3 rfl) (by decide) (by decide)) q363a q363b q363c (g := (mkF m 278 #[.val (.ref a1), .val (.long x), .second, .val (.ref fl), .val (.ref us), .val (.ref it358), .val (.ref x0), .unset] [(.ref fl)])) rfl (by rw [hml]; rfl) (Steps.refl _) (argsL := []) (rest := []) (lenOf pd_336 rfl) rfl (by show 2 * 0 + _ ≤ _; exact Nat.le_of_eq rfl) (hb hby d5_278) (fun _ _ => ⟨rfl, e359, (by decide : 14 + 1 ≤ _), (by decide : 65601 + 4 ≤ _)⟩)
  dsimp only [Pt.U, Pt.locs, Pt.cells, Pt.slots] at X363 l363 y363 z363 st363 hQ363
  obtain rfl : k363 = 15 := y363; obtain rfl : n363 = 65605 := z363
  obtain ⟨it363, rfl, N363q, E363, z363', hIt363⟩ := hQ363
  have N363 : Fr n0 L363 := by rw [l363]; exact Fr.app N359 N363q
  have e363 : T363.heap = T363.heap := rfl
  have KP363 := Keep.ext KP358 E363
  have sz_it363 : h0.size ≤ it363 := Nat.le_trans KP358.1 z363'
  have gn_it363 : n0 ≤ it363 := Nat.le_trans Z0 sz_it363
  have na_it363 : a1 ≠ it363 := Nat.ne_of_lt (Nat.lt_of_lt_of_le E_a.lt sz_it363)
  have ne_b278_it363 : b278 ≠ it363 := Nat.ne_of_lt (Nat.lt_of_lt_of_le Fx360.lt z363')
  have ne_b348_it363 : b348 ≠ it363 := Nat.ne_of_lt (Nat.lt_of_lt_of_le Fx361.lt z363')
  have ne_it358_it363 : it358 ≠ it363 := Nat.ne_of_lt (Nat.lt_of_lt_of_le hIt358.lt z363')
  obtain ⟨cq364, kq364, q364a, q364b, q364c⟩ := isOf hZ e363 ((hIt363).1)
  obtain ⟨_, _, ⟨T364, L364, k364, n364⟩, -, X364, ⟨Lc364, hQ364, l364, y364, z364⟩, st364⟩ := X363.interfaceBack hx (xi := (⟨"java/util/Iterator", "hasNext", "()Z"⟩ : MethodName)) (y := (⟨"java/util/ArrayList$Itr", "hasNext", "()Z"⟩ : MethodName)) hown (mvT hZ (own_q hw 122 rfl)) (mvT hZ (own_q hw 123 rfl)) (mvT hZ (own_q hw 124 rfl)) (mvT hZ (own_q hw 125 rfl)) (mvT hZ (own_q hw 126 rfl)) (mvT hZ (own_q hw 127 rfl)) (mvT hZ (own_q hw 128 rfl)) (mvT hZ (own_q hw 129 rfl)) (by decide) (backOf (W := 0) (rm_hn l Z a0 hw [] it363 T363.heap n0 (Nat.le_trans Z0 KP363.1) fl _ _ _ _ hIt363 ((hFl.keep KP363 (ninS nf nin0))).2.2.1 (1 : Int32) (by decide)) hZ (own_q hw 130 rfl) (own_q hw 108 rfl) (by decide) (by decide)) q364a q364b q364c (g := (mkF m 287 #[.val (.ref a1), .val (.long x), .second, .val (.ref fl), .val (.ref us), .val (.ref it363), .val (.ref x0), .unset] [(.ref it363)])) rfl (by rw [hml]; rfl) (Steps.refl _) (argsL := []) (rest := []) (lenOf pd_340 rfl) rfl (by show 2 * 0 + _ ≤ _; exact Nat.le_of_eq rfl) (hb hby d5_287) (fun _ _ => ⟨rfl, e363, (by decide : 15 + 0 ≤ _), (by decide : 65605 + 0 ≤ _)⟩)
  dsimp only [Pt.U, Pt.locs, Pt.cells, Pt.slots] at X364 l364 y364 z364 st364 hQ364
  obtain rfl : k364 = 15 := y364; obtain rfl : n364 = 65605 := z364
  obtain ⟨rfl, N364q, e364⟩ := hQ364
  have N364 : Fr n0 L364 := by rw [l364]; exact Fr.app N363 N364q
  obtain ⟨cq365, kq365, q365a, q365b, q365c⟩ := isOf hZ e364 ((hIt363).1)
  obtain ⟨_, _, ⟨T365, L365, k365, n365⟩, -, X365, ⟨Lc365, hQ365, l365, y365, z365⟩, st365⟩ := X364.interfaceBack hx (xi := (⟨"java/util/Iterator", "next", "()Ljava/lang/Object;"⟩ : MethodName)) (y := (⟨"java/util/ArrayList$Itr", "next", "()Ljava/lang/Object;"⟩ : MethodName)) hown (mvT hZ (own_q hw 220 rfl)) (mvT hZ (own_q hw 221 rfl)) (mvT hZ (own_q hw 222 rfl)) (mvT hZ (own_q hw 223 rfl)) (mvT hZ (own_q hw 224 rfl)) (mvT hZ (own_q hw 225 rfl)) (mvT hZ (own_q hw 226 rfl)) (mvT hZ (own_q hw 129 rfl)) (by decide) (backOf (W := 0) (rm_nx_0_1 l Z a0 hw [] it363 T363.heap n0 (Nat.le_trans Z0 KP363.1) fl ed x0 kE _ _ hIt363 (hFl.keep KP363 (ninS nf nin0)) (A_E.keep KP363 (ninS nd nin0)) (Nat.ne_of_lt (Nat.lt_of_lt_of_le hFl.1.lt sz_it363)) (Nat.ne_of_lt (Nat.lt_of_lt_of_le A_E.lt sz_it363)) gn_it363) hZ (own_q hw 227 rfl) (own_q hw 108 rfl) (by decide) (by decide)) q365a q365b q365c (g := (mkF m 297 #[.val (.ref a1), .val (.long x), .second, .val (.ref fl), .val (.ref us), .val (.ref it363), .val (.ref x0), .unset] [(.ref it363)])) rfl (by rw [hml]; rfl) (Steps.refl _) (argsL := []) (rest := []) (lenOf pd_357 rfl) rfl (by show 2 * 0 + _ ≤ _; exact Nat.le_of_eq rfl) (hb hby d5_297) (fun _ _ => ⟨rfl, e364, (by decide : 15 + 0 ≤ _), (by decide : 65605 + 0 ≤ _)⟩)
  dsimp only [Pt.U, Pt.locs, Pt.cells, Pt.slots] at X365 l365 y365 z365 st365 hQ365
  obtain rfl : k365 = 15 := y365; obtain rfl : n365 = 65605 := z365
  obtain ⟨rfl, N365q, K365, hIt365⟩ := hQ365
  have N365 : Fr n0 L365 := by rw [l365]; exact Fr.app N364 N365q
  have e365 : T365.heap = T365.heap := rfl
  have KP365 := Keep.trans KP363 K365 (allS (Or.inr sz_it363) all0)
  obtain ⟨T366, X366, e366, st366⟩ := castY X365 hx hZ hown (own_q hw 234 rfl) e365 (Ins.self ((hX0.keep KP365 (ninS nx0 nin0))).1) (g := (mkF m 302 #[.val (.ref a1), .val (.long x), .second, .val (.ref fl), .val (.ref us), .val (.ref it363), .val (.ref x0), .unset] [(.ref x0)])) rfl rfl (hb hby d5_302)
  obtain ⟨cq367, kq367, q367a, q367b, q367c⟩ := isOf hZ e366 (((hX0.keep KP365 (ninS nx0 nin0))).1)
  obtain ⟨_, _, ⟨T367, L367, k367, n367⟩, -, X367, ⟨Lc367, hQ367, l367, y367, z367⟩, st367⟩ := X366.virtualBack hx (y := (⟨"com/example/parley/parley/floor/FloorSettings", "chair", "()Ljava/util/OptionalInt;"⟩ : MethodName)) (z := (⟨"com/example/parley/parley/floor/FloorSettings", "chair", "()Ljava/util/OptionalInt;"⟩ : MethodName)) hown (mvT hZ (own_q hw 256 rfl)) (mvT hZ (own_q hw 257 rfl)) (notFace_of_selects (args := #[]) (mvT hZ (own_q hw 259 rfl))) (mvT hZ (own_q hw 259 rfl)) (mvT hZ (own_q hw 258 rfl)) (by decide) (backOf (W := 0) (rm_chair l Z a0 hw [] x0 T365.heap n0 (Nat.le_trans Z0 KP365.1) f1 oe (hX0.keep KP365 (ninS nx0 nin0))) hZ (own_q hw 260 rfl) (own_q hw 143 rfl) (by decide) (by decide)) q367a q367c (g := (mkF m 309 #[.val (.ref a1), .val (.long x), .second, .val (.ref fl), .val (.ref us), .val (.ref it363), .val (.ref x0), .unset] [(.ref x0)])) rfl (by rw [hml]; rfl) (Steps.refl _) (argsL := []) (rest := []) (lenOf pd_117 rfl) rfl (by show 2 * 0 + _ ≤ _; exact Nat.le_of_eq rfl) (hb hby d5_309) (fun _ _ => ⟨rfl, e366, (by decide : 15 + 0 ≤ _), (by decide : 65605 + 0 ≤ _)⟩)
  dsimp only [Pt.U, Pt.locs, Pt.cells, Pt.slots] at X367 l367 y367 z367 st367 hQ367
  obtain rfl : k367 = 15 := y367; obtain rfl : n367 = 65605 := z367
  obtain ⟨rfl, N367q, e367⟩ := hQ367
  have N367 : Fr n0 L367 := by rw [l367]; exact Fr.app N365 N367q
  obtain ⟨cq368, kq368, q368a, q368b, q368c⟩ := isOf hZ e367 ((E_O.ext (own_ext_keep hEx KP365 (allS (Nat.le_trans hn gn_a) all0))))
  obtain ⟨_, _, ⟨T368, L368, k368, n368⟩, -, X368, ⟨Lc368, hQ368, l368, y368, z368⟩, st368⟩ := X367.virtualBack hx (y := (⟨"java/util/OptionalInt", "isPresent", "()Z"⟩ : MethodName)) (z := (⟨"java/util/OptionalInt", "isPresent", "()Z"⟩ : MethodName)) hown (mvT hZ (own_q hw 261 rfl)) (mvT hZ (own_q hw 262 rfl)) (notFace_of_selects (args := #[]) (mvT hZ (own_q hw 264 rfl))) (mvT hZ (own_q hw 264 rfl)) (mvT hZ (own_q hw 263 rfl)) (by decide) (backOf (W := 0) (rm_isp l Z a0 hw [] oe T365.heap n0 (Nat.le_trans Z0 KP365.1) (F_O.ext (own_ext_keep hEx KP365 (allS (Nat.le_trans hn gn_a) all0)))) hZ (own_q hw 265 rfl) (own_q hw 149 rfl) (by decide) (by decide)) q368a q368c (g := (mkF m 316 #[.val (.ref a1), .val (.long x), .second, .val (.ref fl), .val (.ref us), .val (.ref it363), .val (.ref x0), .val (.ref oe)] [(.ref oe)])) rfl (by rw [hml]; rfl) (Steps.refl _) (argsL := []) (rest := []) (lenOf pd_340 rfl) rfl (by show 2 * 0 + _ ≤ _; exact Nat.le_of_eq rfl) (hb hby d5_316) (fun _ _ => ⟨rfl, e367, (by decide : 15 + 0 ≤ _), (by decide : 65605 + 0 ≤ _)⟩)
  dsimp only [Pt.U, Pt.locs, Pt.cells, Pt.slots] at X368 l368 y368 z368 st368 hQ368
  obtain rfl : k368 = 15 := y368; obtain rfl : n368 = 65605 := z368
  obtain ⟨rfl, N368q, e368⟩ := hQ368
  have N368 : Fr n0 L368 := by rw [l368]; exact Fr.app N367 N368q
  obtain ⟨cq369, kq369, q369a, q369b, q369c⟩ := isOf hZ e368 ((hIt365).1)
  obtain ⟨_, _, ⟨T369, L369, k369, n369⟩, -, X369, ⟨Lc369, hQ369, l369, y369, z369⟩, st369⟩ := X368.interfaceBack hx (xi := (⟨"java/util/Iterator", "hasNext", "()Z"⟩ : MethodName)) (y := (⟨"java/util/ArrayList$Itr", "hasNext", "()Z"⟩ : MethodName)) hown (mvT hZ (own_q hw 122 rfl)) (mvT hZ (own_q hw 123 rfl)) (mvT hZ (own_q hw 124 rfl)) (mvT hZ (own_q hw 125 rfl)) (mvT hZ (own_q hw 126 rfl)) (mvT hZ (own_q hw 127 rfl)) (mvT hZ (own_q hw 128 rfl)) (mvT hZ (own_q hw 129 rfl)) (by decide) (backOf (W := 0) (rm_hn l Z a0 hw [] it363 T365.heap n0 (Nat.le_trans Z0 KP365.1) fl _ _ _ _ hIt365 ((hFl.keep KP365 (ninS nf nin0))).2.2.1 (0 : Int32) (by decide)) hZ (own_q hw 130 rfl) (own_q hw 108 rfl) (by decide) (by decide)) q369a q369b q369c (g := (mkF m 287 #[.val (.ref a1), .val (.long x), .second, .val (.ref fl), .val (.ref us), .val (.ref it363), .val (.ref x0), .val (.ref oe)] [(.ref it363)])) rfl (by rw [hml]; rfl) (Steps.refl _) (argsL := []) (rest := []) (lenOf pd_340 rfl) rfl (by show 2 * 0 + _ ≤ _; exact Nat.le_of_eq rfl) (hb hby d5_287) (fun _ _ => ⟨rfl, e368, (by decide : 15 + 0 ≤ _), (by decide : 65605 + 0 ≤ _)⟩)
  dsimp only [Pt.U, Pt.locs, Pt.cells, Pt.slots] at X369 l369 y369 z369 st369 hQ369
  obtain rfl : k369 = 15 := y369; obtain rfl : n369 = 65605 := z369
  obtain ⟨rfl, N369q, e369⟩ := hQ369
  have N369 : Fr n0 L369 := by rw [l369]; exact Fr.app N368 N369q
  have Fx370 := ((Fx362.ext E363).keep K365)
  have Fx371 := ((((((Fx343.ext E348).keep K349 (ninS ne_a1_b348 nin0)).other W353 (Or.inl ne_a1_b278)).ext E358).ext E363).keep K365 (ninS na_it363 nin0))
  have Fx372 := ((Fx360.ext E363).keep K365 (ninS ne_b278_it363 nin0))
  obtain ⟨fs, hr, hrun, hended, hW, hsame⟩ := X369.leave (v := none) (fun _ => rfl)
  refine ⟨_, _, pre0 _ ?_, hrun, hended, _, _, rfl, ?_, ⟨_, rfl⟩, hW, hsame.mono (by decide) (by decide)⟩
  · refine XS.aloadN X0.here hx rfl (hb hby d5_0) rfl rfl ?_
    refine st277 _ ?_
    show Steps p.tables e below (T277.setTop (mkF m 4 #[.val (.ref a1), .val (.long x), .second, .val (.ref fl), .val (.ref us), .unset, .unset, .unset] [])) _
    refine XS.aloadN X277.here hx rfl (hb hby d5_4) rfl rfl ?_
    refine X277.ldcInt hx hown (mvT hZ (own_q hw 35 rfl)) (g := (mkF m 5 #[.val (.ref a1), .val (.long x), .second, .val (.ref fl), .val (.ref us), .unset, .unset, .unset] [(.ref a1)])) rfl (hb hby d5_5) _ ?_
    show Steps p.tables e below (T277.setTop (mkF m 7 #[.val (.ref a1), .val (.long x), .second, .val (.ref fl), .val (.ref us), .unset, .unset, .unset] [(.int (65536 : Int32)), (.ref a1)])) _
    refine st278 _ ?_
    show Steps p.tables e below (T278.setTop (mkF m 10 #[.val (.ref a1), .val (.long x), .second, .val (.ref fl), .val (.ref us), .unset, .unset, .unset] [(.ref b278), (.ref a1)])) _
    refine st281 _ ?_
    show Steps p.tables e below (T281.setTop (mkF m 13 #[.val (.ref a1), .val (.long x), .second, .val (.ref fl), .val (.ref us), .unset, .unset, .unset] [])) _
    refine XS.aloadN X281.here hx rfl (hb hby d5_13) rfl rfl ?_
    refine st284 _ ?_
    show Steps p.tables e below (T284.setTop (mkF m 17 #[.val (.ref a1), .val (.long x), .second, .val (.ref fl), .val (.ref us), .unset, .unset, .unset] [(.ref b284), (.ref a1)])) _
    refine XS.dup X284.here hx rfl (hb hby d5_17) rfl rfl ?_
    refine st285.trans ?_
    show Steps p.tables e below (T285.setTop (mkF m 21 #[.val (.ref a1), .val (.long x), .second, .val (.ref fl), .val (.ref us), .unset, .unset, .unset] [(.ref b284), (.ref a1)])) _
    refine st288 _ ?_
    show Steps p.tables e below (T288.setTop (mkF m 24 #[.val (.ref a1), .val (.long x), .second, .val (.ref fl), .val (.ref us), .unset, .unset, .unset] [])) _
    refine XS.aloadN X288.here hx rfl (hb hby d5_24) rfl rfl ?_
    refine st291 _ ?_
    show Steps p.tables e below (T291.setTop (mkF m 28 #[.val (.ref a1), .val (.long x), .second, .val (.ref fl), .val (.ref us), .unset, .unset, .unset] [(.ref b291), (.ref a1)])) _
    refine XS.dup X291.here hx rfl (hb hby d5_28) rfl rfl ?_
    refine st292.trans ?_
    show Steps p.tables e below (T292.setTop (mkF m 32 #[.val (.ref a1), .val (.long x), .second, .val (.ref fl), .val (.ref us), .unset, .unset, .unset] [(.ref b291), (.ref a1)])) _
    refine st295 _ ?_
    show Steps p.tables e below (T295.setTop (mkF m 35 #[.val (.ref a1), .val (.long x), .second, .val (.ref fl), .val (.ref us), .unset, .unset, .unset] [])) _
    refine XS.aloadN X295.here hx rfl (hb hby d5_35) rfl rfl ?_
    refine st298 _ ?_
    show Steps p.tables e below (T298.setTop (mkF m 39 #[.val (.ref a1), .val (.long x), .second, .val (.ref fl), .val (.ref us), .unset, .unset, .unset] [(.ref b298), (.ref a1)])) _
    refine XS.dup X298.here hx rfl (hb hby d5_39) rfl rfl ?_
    refine st299.trans ?_
    show Steps p.tables e below (T299.setTop (mkF m 43 #[.val (.ref a1), .val (.long x), .second, .val (.ref fl), .val (.ref us), .unset, .unset, .unset] [(.ref b298), (.ref a1)])) _
    refine st302 _ ?_
    show Steps p.tables e below (T302.setTop (mkF m 46 #[.val (.ref a1), .val (.long x), .second, .val (.ref fl), .val (.ref us), .unset, .unset, .unset] [])) _
    refine XS.aloadN X302.here hx rfl (hb hby d5_46) rfl rfl ?_
    refine st305 _ ?_
    show Steps p.tables e below (T305.setTop (mkF m 50 #[.val (.ref a1), .val (.long x), .second, .val (.ref fl), .val (.ref us), .unset, .unset, .unset] [(.ref b305), (.ref a1)])) _
    refine XS.dup X305.here hx rfl (hb hby d5_50) rfl rfl ?_
    refine st306.trans ?_
    show Steps p.tables e below (T306.setTop (mkF m 54 #[.val (.ref a1), .val (.long x), .second, .val (.ref fl), .val (.ref us), .unset, .unset, .unset] [(.ref b305), (.ref a1)])) _
    refine st309 _ ?_
    show Steps p.tables e below (T309.setTop (mkF m 57 #[.val (.ref a1), .val (.long x), .second, .val (.ref fl), .val (.ref us), .unset, .unset, .unset] [])) _
    refine XS.aloadN X309.here hx rfl (hb hby d5_57) rfl rfl ?_
    refine st312 _ ?_
    show Steps p.tables e below (T312.setTop (mkF m 61 #[.val (.ref a1), .val (.long x), .second, .val (.ref fl), .val (.ref us), .unset, .unset, .unset] [(.ref b312), (.ref a1)])) _
    refine XS.dup X312.here hx rfl (hb hby d5_61) rfl rfl ?_
    refine st313.trans ?_
    show Steps p.tables e below (T313.setTop (mkF m 65 #[.val (.ref a1), .val (.long x), .second, .val (.ref fl), .val (.ref us), .unset, .unset, .unset] [(.ref b312), (.ref a1)])) _
    refine st316 _ ?_
    show Steps p.tables e below (T316.setTop (mkF m 68 #[.val (.ref a1), .val (.long x), .second, .val (.ref fl), .val (.ref us), .unset, .unset, .unset] [])) _
    refine XS.aloadN X316.here hx rfl (hb hby d5_68) rfl rfl ?_
    refine st319 _ ?_
    show Steps p.tables e below (T319.setTop (mkF m 72 #[.val (.ref a1), .val (.long x), .second, .val (.ref fl), .val (.ref us), .unset, .unset, .unset] [(.ref b319), (.ref a1)])) _
    refine XS.dup X319.here hx rfl (hb hby d5_72) rfl rfl ?_
    refine st320.trans ?_
    show Steps p.tables e below (T320.setTop (mkF m 76 #[.val (.ref a1), .val (.long x), .second, .val (.ref fl), .val (.ref us), .unset, .unset, .unset] [(.ref b319), (.ref a1)])) _
    refine st323 _ ?_
    show Steps p.tables e below (T323.setTop (mkF m 79 #[.val (.ref a1), .val (.long x), .second, .val (.ref fl), .val (.ref us), .unset, .unset, .unset] [])) _
    refine XS.aloadN X323.here hx rfl (hb hby d5_79) rfl rfl ?_
    refine st326 _ ?_
    show Steps p.tables e below (T326.setTop (mkF m 83 #[.val (.ref a1), .val (.long x), .second, .val (.ref fl), .val (.ref us), .unset, .unset, .unset] [(.ref b326), (.ref a1)])) _
    refine XS.dup X326.here hx rfl (hb hby d5_83) rfl rfl ?_
    refine st327.trans ?_
    show Steps p.tables e below (T327.setTop (mkF m 87 #[.val (.ref a1), .val (.long x), .second, .val (.ref fl), .val (.ref us), .unset, .unset, .unset] [(.ref b326), (.ref a1)])) _
    refine st330 _ ?_
    show Steps p.tables e below (T330.setTop (mkF m 90 #[.val (.ref a1), .val (.long x), .second, .val (.ref fl), .val (.ref us), .unset, .unset, .unset] [])) _
    refine XS.aloadN X330.here hx rfl (hb hby d5_90) rfl rfl ?_
    refine XS.lloadN X330.here hx rfl (hb hby d5_91) rfl ?_
    refine st331 _ ?_
    show Steps p.tables e below (T331.setTop (mkF m 95 #[.val (.ref a1), .val (.long x), .second, .val (.ref fl), .val (.ref us), .unset, .unset, .unset] [(.long x), (.ref a1)])) _
    refine st334 _ ?_
    show Steps p.tables e below (T334.setTop (mkF m 98 #[.val (.ref a1), .val (.long x), .second, .val (.ref fl), .val (.ref us), .unset, .unset, .unset] [])) _
    refine XS.aloadN X334.here hx rfl (hb hby d5_98) rfl rfl ?_
    refine st337.trans ?_
    show Steps p.tables e below (T337.setTop (mkF m 104 #[.val (.ref a1), .val (.long x), .second, .val (.ref fl), .val (.ref us), .unset, .unset, .unset] [(.ref it337)])) _
    refine XS.astore X337.here hx rfl (hb hby d5_104) rfl rfl (l' := #[.val (.ref a1), .val (.long x), .second, .val (.ref fl), .val (.ref us), .val (.ref it337), .unset, .unset]) rfl ?_
    refine XS.aload X337.here hx rfl (hb hby d5_106) rfl rfl ?_
    refine st338.trans ?_
    show Steps p.tables e below (T338.setTop (mkF m 113 #[.val (.ref a1), .val (.long x), .second, .val (.ref fl), .val (.ref us), .val (.ref it337), .unset, .unset] [(.int (1 : Int32))])) _
    refine XS.ifNo X338.here hx rfl (hb hby d5_113) rfl ((if0 _ _).trans (feq (by decide : ¬ ((1 : Int32) = (0 : Int32)))).1) ?_
    refine XS.aload X338.here hx rfl (hb hby d5_116) rfl rfl ?_
    refine st339.trans ?_
    show Steps p.tables e below (T339.setTop (mkF m 123 #[.val (.ref a1), .val (.long x), .second, .val (.ref fl), .val (.ref us), .val (.ref it337), .unset, .unset] [(.ref x0)])) _
    refine st340 _ ?_
    show Steps p.tables e below (T340.setTop (mkF m 126 #[.val (.ref a1), .val (.long x), .second, .val (.ref fl), .val (.ref us), .val (.ref it337), .unset, .unset] [(.ref x0)])) _
    refine XS.astore X340.here hx rfl (hb hby d5_126) rfl rfl (l' := #[.val (.ref a1), .val (.long x), .second, .val (.ref fl), .val (.ref us), .val (.ref it337), .val (.ref x0), .unset]) rfl ?_
    refine XS.aloadN X340.here hx rfl (hb hby d5_128) rfl rfl ?_
    refine XS.aload X340.here hx rfl (hb hby d5_129) rfl rfl ?_
    refine st341.trans ?_
    show Steps p.tables e below (T341.setTop (mkF m 134 #[.val (.ref a1), .val (.long x), .second, .val (.ref fl), .val (.ref us), .val (.ref it337), .val (.ref x0), .unset] [(.int f1), (.ref a1)])) _
    refine st345.trans ?_
    show Steps p.tables e below (T345.setTop (mkF m 137 #[.val (.ref a1), .val (.long x), .second, .val (.ref fl), .val (.ref us), .val (.ref it337), .val (.ref x0), .unset] [(.int (0 : Int32))])) _
    refine XS.ifYes X345.here hx rfl (pc0 := 137) (pc' := 158) rfl (hb hby d5_137) rfl ((if0 _ _).trans (teq (by decide : (0 : Int32) = (0 : Int32))).1) (by decide) (by decide) ?_
    refine XS.aloadN X345.here hx rfl (hb hby d5_158) rfl rfl ?_
    refine st346 _ ?_
    show Steps p.tables e below (T346.setTop (mkF m 162 #[.val (.ref a1), .val (.long x), .second, .val (.ref fl), .val (.ref us), .val (.ref it337), .val (.ref x0), .unset] [(.ref b278)])) _
    refine XS.aload X346.here hx rfl (hb hby d5_162) rfl rfl ?_
    refine st347.trans ?_
    show Steps p.tables e below (T347.setTop (mkF m 167 #[.val (.ref a1), .val (.long x), .second, .val (.ref fl), .val (.ref us), .val (.ref it337), .val (.ref x0), .unset] [(.int f1), (.ref b278)])) _
    refine st348 _ ?_
    show Steps p.tables e below (T348.setTop (mkF m 170 #[.val (.ref a1), .val (.long x), .second, .val (.ref fl), .val (.ref us), .val (.ref it337), .val (.ref x0), .unset] [(.ref b348), (.int f1), (.ref b278)])) _
    refine XS.dup X348.here hx rfl (hb hby d5_170) rfl rfl ?_
    refine XS.aload X348.here hx rfl (hb hby d5_171) rfl rfl ?_
    refine st349.trans ?_
    show Steps p.tables e below (T349.setTop (mkF m 176 #[.val (.ref a1), .val (.long x), .second, .val (.ref fl), .val (.ref us), .val (.ref it337), .val (.ref x0), .unset] [(.ref b348), (.int f1), (.ref b278)])) _
    refine st353 _ ?_
    show Steps p.tables e below (T353.setTop (mkF m 177 #[.val (.ref a1), .val (.long x), .second, .val (.ref fl), .val (.ref us), .val (.ref it337), .val (.ref x0), .unset] [])) _
    refine XS.goto X353.here hx rfl (pc0 := 177) (pc' := 106) rfl (hb hby d5_177) (by decide) (by decide) ?_
    refine XS.aload X353.here hx rfl (hb hby d5_106) rfl rfl ?_
    refine st355.trans ?_
    show Steps p.tables e below (T355.setTop (mkF m 113 #[.val (.ref a1), .val (.long x), .second, .val (.ref fl), .val (.ref us), .val (.ref it337), .val (.ref x0), .unset] [(.int (0 : Int32))])) _
    refine XS.ifYes X355.here hx rfl (pc0 := 113) (pc' := 180) rfl (hb hby d5_113) rfl ((if0 _ _).trans (teq (by decide : (0 : Int32) = (0 : Int32))).1) (by decide) (by decide) ?_
    refine XS.aload X355.here hx rfl (hb hby d5_180) rfl rfl ?_
    refine st358.trans ?_
    show Steps p.tables e below (T358.setTop (mkF m 187 #[.val (.ref a1), .val (.long x), .second, .val (.ref fl), .val (.ref us), .val (.ref it337), .val (.ref x0), .unset] [(.ref it358)])) _
    refine XS.astore X358.here hx rfl (hb hby d5_187) rfl rfl (l' := #[.val (.ref a1), .val (.long x), .second, .val (.ref fl), .val (.ref us), .val (.ref it358), .val (.ref x0), .unset]) rfl ?_
    refine XS.aload X358.here hx rfl (hb hby d5_189) rfl rfl ?_
    refine st359.trans ?_
    show Steps p.tables e below (T359.setTop (mkF m 196 #[.val (.ref a1), .val (.long x), .second, .val (.ref fl), .val (.ref us), .val (.ref it358), .val (.ref x0), .unset] [(.int (0 : Int32))])) _
    refine XS.ifYes X359.here hx rfl (pc0 := 196) (pc' := 277) rfl (hb hby d5_196) rfl ((if0 _ _).trans (teq (by decide : (0 : Int32) = (0 : Int32))).1) (by decide) (by decide) ?_
    refine XS.aloadN X359.here hx rfl (hb hby d5_277) rfl rfl ?_
    refine st363.trans ?_
    show Steps p.tables e below (T363.setTop (mkF m 283 #[.val (.ref a1), .val (.long x), .second, .val (.ref fl), .val (.ref us), .val (.ref it358), .val (.ref x0), .unset] [(.ref it363)])) _
    refine XS.astore X363.here hx rfl (hb hby d5_283) rfl rfl (l' := #[.val (.ref a1), .val (.long x), .second, .val (.ref fl), .val (.ref us), .val (.ref it363), .val (.ref x0), .unset]) rfl ?_
    refine XS.aload X363.here hx rfl (hb hby d5_285) rfl rfl ?_
    refine st364.trans ?_
    show Steps p.tables e below (T364.setTop (mkF m 292 #[.val (.ref a1), .val (.long x), .second, .val (.ref fl), .val (.ref us), .val (.ref it363), .val (.ref x0), .unset] [(.int (1 : Int32))])) _
    refine XS.ifNo X364.here hx rfl (hb hby d5_292) rfl ((if0 _ _).trans (feq (by decide : ¬ ((1 : Int32) = (0 : Int32)))).1) ?_
    refine XS.aload X364.here hx rfl (hb hby d5_295) rfl rfl ?_
    refine st365.trans ?_
    show Steps p.tables e below (T365.setTop (mkF m 302 #[.val (.ref a1), .val (.long x), .second, .val (.ref fl), .val (.ref us), .val (.ref it363), .val (.ref x0), .unset] [(.ref x0)])) _
    refine st366 _ ?_
    show Steps p.tables e below (T366.setTop (mkF m 305 #[.val (.ref a1), .val (.long x), .second, .val (.ref fl), .val (.ref us), .val (.ref it363), .val (.ref x0), .unset] [(.ref x0)])) _
    refine XS.astore X366.here hx rfl (hb hby d5_305) rfl rfl (l' := #[.val (.ref a1), .val (.long x), .second, .val (.ref fl), .val (.ref us), .val (.ref it363), .val (.ref x0), .unset]) rfl ?_
    refine XS.aload X366.here hx rfl (hb hby d5_307) rfl rfl ?_
    refine st367.trans ?_
    show Steps p.tables e below (T367.setTop (mkF m 312 #[.val (.ref a1), .val (.long x), .second, .val (.ref fl), .val (.ref us), .val (.ref it363), .val (.ref x0), .unset] [(.ref oe)])) _
    refine XS.astore X367.here hx rfl (hb hby d5_312) rfl rfl (l' := #[.val (.ref a1), .val (.long x), .second, .val (.ref fl), .val (.ref us), .val (.ref it363), .val (.ref x0), .val (.ref oe)]) rfl ?_
    refine XS.aload X367.here hx rfl (hb hby d5_314) rfl rfl ?_
    refine st368.trans ?_
    show Steps p.tables e below (T368.setTop (mkF m 319 #[.val (.ref a1), .val (.long x), .second, .val (.ref fl), .val (.ref us), .val (.ref it363), .val (.ref x0), .val (.ref oe)] [(.int (0 : Int32))])) _
    refine XS.ifYes X368.here hx rfl (pc0 := 319) (pc' := 360) rfl (hb hby d5_319) rfl ((if0 _ _).trans (teq (by decide : (0 : Int32) = (0 : Int32))).1) (by decide) (by decide) ?_
    refine XS.goto X368.here hx rfl (pc0 := 360) (pc' := 285) rfl (hb hby d5_360) (by decide) (by decide) ?_
    refine XS.aload X368.here hx rfl (hb hby d5_285) rfl rfl ?_
    refine st369.trans ?_
    show Steps p.tables e below (T369.setTop (mkF m 292 #[.val (.ref a1), .val (.long x), .second, .val (.ref fl), .val (.ref us), .val (.ref it363), .val (.ref x0), .val (.ref oe)] [(.int (0 : Int32))])) _
    refine XS.ifYes X369.here hx rfl (pc0 := 292) (pc' := 363) rfl (hb hby d5_292) rfl ((if0 _ _).trans (teq (by decide : (0 : Int32) = (0 : Int32))).1) (by decide) (by decide) ?_
    exact X369.returnOut hx Bd.returns (hb hby d5_363) hr
  · show own_Do none [a1] (fun h => ∃ (fa : Addr) (kF : ClassId) (g1 : Addr), Exa Z h a1 "com/example/parley/parley/floor/Conference" ∧ Fld Z h a1 "com/example/parley/parley/floor/Conference" "floors" "[Lcom/example/parley/parley/floor/Conference$Floor;" (.ref fa) ∧ Arh Z h fa kF (.object "com/example/parley/parley/floor/Conference$Floor") (65536 : Int32) [(f1, .ref g1)] [] .null) h0 n0 _ T369.heap _
    rw [e369]
    exact ⟨rfl, N369, KP365, b278, _, b348, Fx370, Fx371, Fx372⟩
theorem ef_rm_cfi_2 (m : MethodId) (x0 : Addr) (x1 : Int64) (x2 : Addr) (x3 : Addr) : entryFrame m #[(.ref x0), (.long x1), (.ref x2), (.ref x3)] 8 = mkF m 0 #[.val (.ref x0), .val (.long x1), .second, .val (.ref x2), .val (.ref x3), .unset, .unset, .unset] [] := by first | (simp [entryFrame, mkF, argsToLocals, Value.category]; done) | rfl
set_option maxRecDepth 65536 in
set_option maxHeartbeats 40000000 in
theorem rm_cfi_2 (l : Launch) (Z : State) (a0 : Array Value) (hw : ∀ d ∈ tables_1, d.before a0 Z = true) (ws : List Jvm.Cond) (a1 : Addr) (x : Int64) (fl : Addr) (us : Addr) (h0 : Heap) (n0 : Nat) (Z0 : n0 ≤ h0.size) (E_a : Exa Z h0 a1 "com/example/parley/parley/floor/Conference") (F_floors : Fld Z h0 a1 "com/example/parley/parley/floor/Conference" "floors" "[Lcom/example/parley/parley/floor/Conference$Floor;" .null) (F_users : Fld Z h0 a1 "com/example/parley/parley/floor/Conference" "users" "Ljava/util/Map;" .null) (F_pinned : Fld Z h0 a1 "com/example/parley/parley/floor/Conference" "pinned" "Ljava/util/Set;" .null) (F_requests : Fld Z h0 a1 "com/example/parley/parley/floor/Conference" "requests" "Ljava/util/Map;" .null) (F_madeBy : Fld Z h0 a1 "com/example/parley/parley/floor/Conference" "madeBy" "Ljava/util/Map;" .null) (F_madeFor : Fld Z h0 a1 "com/example/parley/parley/floor/Conference" "madeFor" "Ljava/util/Map;" .null) (F_requesterListeners : Fld Z h0 a1 "com/example/parley/parley/floor/Conference" "requesterListeners" "Ljava/util/List;" .null) (F_changeListeners : Fld Z h0 a1 "com/example/parley/parley/floor/Conference" "changeListeners" "Ljava/util/List;" .null) (F_id : Fld Z h0 a1 "com/example/parley/parley/floor/Conference" "id" "J" (.long (0 : Int64))) (gn_a : n0 ≤ a1) (hS : Heap) (hn : hS.size ≤ n0) (hEx : Ext hS h0) (dE oe : Addr) (kD : ClassId) (hWd : own_Wd Z hS dE kD oe) (ed x0 x1 : Addr) (kE : ClassId) (f1 f2 : Int32) (hx0 : 0 ≤ x.toInt) (hx1 : x.toInt ≤ 4294967295) (hFl : own_AL Z h0 fl (.ref ed) (2 : Int32) (2 : Int32)) (hUs : own_AL Z h0 us (.ref dE) (0 : Int32) (0 : Int32)) (nf : fl ≠ a1) (nu : us ≠ a1) (A_E : Arv Z h0 ed kE (.object "java/lang/Object") (10 : Int32) [(.ref x0), (.ref x1), .null, .null, .null, .null, .null, .null, .null, .null] .null) (nd : ed ≠ a1) (hX0 : own_FS Z h0 x0 f1 oe) (nx0 : x0 ≠ a1) (hf1 : 0 ≤ f1.toInt ∧ f1.toInt ≤ 65535) (hX1 : own_FS Z h0 x1 f2 oe) (nx1 : x1 ≠ a1) (hf2 : 0 ≤ f2.toInt ∧ f2.toInt ≤ 65535) (hne : ¬ f2 = f1)  :
    MetFree l (⟨"com/example/parley/parley/floor/Conference", "<init>", "(JLjava/util/Collection;Ljava/util/Collection;)V"⟩ : MethodName) (head1 (Jvm.Cond.code (⟨"com/example/parley/parley/floor/Conference", "<init>", "(JLjava/util/Collection;Ljava/util/Collection;)V"⟩ : MethodName) prog_3_method_4_code 8 none :: ws) ({ frames := 5, cells := 18, slots := 65615, locals := 66 } : Room)) (fun aQ UQ => aQ = #[(.ref a1), (.long x), (.ref fl), (.ref us)] ∧ Z.Warmed39 UQ.vm ∧ UQ.heap = h0) (fun _ _ _ _ _ => True) (fun _ UQ oQ UR => ∃ vQ LQ, oQ = .returned vQ ∧ own_Do none [a1] (fun h => ∃ (fa : Addr) (kF : ClassId) (g1 g2 : Addr), Exa Z h a1 "com/example/parley/parley/floor/Conference" ∧ Fld Z h a1 "com/example/parley/parley/floor/Conference" "floors" "[Lcom/example/parley/parley/floor/Conference$Floor;" (.ref fa) ∧ Arh Z h fa kF (.object "com/example/parley/parley/floor/Conference$Floor") (65536 : Int32) [(f2, .ref g2), (f1, .ref g1)] [] .null) h0 n0 vQ UR.heap LQ ∧ FrameEnd UQ oQ UR LQ ({ frames := 5, cells := 18, slots := 65615, locals := 66 } : Room).cells ({ frames := 5, cells := 18, slots := 65615, locals := 66 } : Room).slots) := by
  refine MetFree.of_bodySF (plainFor_of_name pn_57) hisR ?_
  intro p e s m args below meth c s₁ Bd hml0 hP hK
  obtain ⟨rfl, hZ, hh⟩ := hP
  have hx := Bd.exec
  have hby := Bd.bytes
  have hml : c.maxLocals = 8 := hml0
  have hown : s.vm.findClass "com/example/parley/parley/floor/Conference" = some m.cls := findClass_of_methodNamed Bd.named
  have hnm := (name_of_methodNamed Bd.named Bd.method).1
  have X0 : Stand p l e ({ frames := 5, cells := 18, slots := 65615, locals := 66 } : Room) s m #[(.ref a1), (.long x), (.ref fl), (.ref us)] below meth c s₁ [] 0 0 := Stand.of_body Bd
  have e0 : s₁.heap = h0 := by rw [← hh, Bd.state]; rfl
  have N0 := Fr.nil n0
  have pre0 : ∀ t, Steps p.tables e below (s₁.setTop (mkF m 0 #[.val (.ref a1), .val (.long x), .second, .val (.ref fl), .val (.ref us), .unset, .unset, .unset] [])) t → Steps p.tables e below (s₁.setTop (entryFrame m #[(.ref a1), (.long x), (.ref fl), (.ref us)] 8)) t := fun t kq => castTop (ef_rm_cfi_2 m a1 x fl us) kq
  obtain ⟨S_D, A_D, S_O, E_O, F_O⟩ := id hWd
  obtain ⟨T373, X373, e373, st373⟩ := initO X0 hx hZ hown (own_q hw 34 rfl) (own_q hw 20 rfl) (own_q hw 21 rfl) e0 (g := (mkF m 1 #[.val (.ref a1), .val (.long x), .second, .val (.ref fl), .val (.ref us), .unset, .unset, .unset] [(.ref a1)])) rfl (by rw [hml]; rfl) rfl (hb hby d5_1) (by decide) (W := 0) (by show 2 * 0 + _ ≤ _; exact Nat.le_of_eq rfl) (by decide)
  obtain ⟨T374, h374, k374, X374, e374, E374, A374, O374, st374⟩ := newR X373 hx hZ hown (own_q hw 36 rfl) (own_q hw 37 rfl) e373 (g := (mkF m 7 #[.val (.ref a1), .val (.long x), .second, .val (.ref fl), .val (.ref us), .unset, .unset, .unset] [(.int (65536 : Int32)), (.ref a1)])) rfl (hb hby d5_7) rfl (by decide) (cap := 65536) (by decide) (by decide) (by decide) (by decide)
  obtain ⟨b374, g374⟩ : ∃ z, z = h0.size := ⟨_, rfl⟩
  rw [← g374] at A374 st374
  have sz_b374 : h0.size ≤ b374 := Nat.le_trans (Keep.refl h0 [a1]).1 (Nat.le_of_eq g374.symm)
  have gn_b374 : n0 ≤ b374 := Nat.le_trans Z0 sz_b374
  have ne_a1_b374 : a1 ≠ b374 := Nat.ne_of_lt (Nat.lt_of_lt_of_le E_a.lt (Nat.le_of_eq g374.symm))
  have EX374 := own_ext_trans (own_ext_refl h0) E374
  have KP374 := Keep.ext (Keep.refl h0 [a1]) E374
  have V374 : Arh Z h374 b374 k374 (.object "com/example/parley/parley/floor/Conference$Floor") (65536 : Int32) [] [] .null := Arv.arh (Arv.new A374 (by decide))
  have Fx375 := (E_a.ext E374)
  have Fx376 := (F_floors.ext E374)
  obtain ⟨T377, h377, X377, e377, W377, st377⟩ := putF X374 hx hZ hown (host := "") (Or.inl (own_q hw 38 rfl)) Via.refl e374 Fx376 Fx375 (Or.inr ⟨(own_q hw 39 rfl), rfl, hnm⟩) (own_q hw 28 rfl) (ty := (.array (.object "com/example/parley/parley/floor/Conference$Floor"))) (by decide) rfl rfl (g := (mkF m 10 #[.val (.ref a1), .val (.long x), .second, .val (.ref fl), .val (.ref us), .unset, .unset, .unset] [(.ref b374), (.ref a1)])) rfl rfl (hb hby d5_10)
  have KP377 := Keep.wr KP374 W377 (Or.inl (List.mem_of_getElem? (i := 0) rfl))
  have Fw377 := Fx376.same W377
  have N377 := Fr.snoc X377 N0 gn_a
  have Fx378 := (V374.other W377 (Ne.symm ne_a1_b374))
  have Fx379 := (Fx375.wr W377)
  obtain ⟨T380, h380, X380, e380, E380, A380, D380, -, st380⟩ := newO X377 hx hZ hown (own_q hw 40 rfl) (own_q hw 41 rfl) (own_q hw 42 rfl) e377 (g := (mkF m 14 #[.val (.ref a1), .val (.long x), .second, .val (.ref fl), .val (.ref us), .unset, .unset, .unset] [(.ref a1)])) rfl (hb hby d5_14) (by decide) (by decide)
  obtain ⟨b380, g380⟩ : ∃ z, z = h377.size := ⟨_, rfl⟩
  rw [← g380] at A380 D380 st380
  have sz_b380 : h0.size ≤ b380 := Nat.le_trans KP377.1 (Nat.le_of_eq g380.symm)
  have gn_b380 : n0 ≤ b380 := Nat.le_trans Z0 sz_b380
  have ne_b374_b380 : b374 ≠ b380 := Nat.ne_of_lt (Nat.lt_of_lt_of_le Fx378.lt (Nat.le_of_eq g380.symm))
  have ne_a1_b380 : a1 ≠ b380 := Nat.ne_of_lt (Nat.lt_of_lt_of_le Fx379.lt (Nat.le_of_eq g380.symm))
  have KP380 := Keep.ext KP377 E380
  have F380_loadFactor : Fld Z h380 b380 "java/util/HashMap" "loadFactor" "F" (.float (0 : UInt32)) := D380 (Or.inr (own_q hw 55 rfl)) (ty := .float) (by decide)
  obtain ⟨_, _, ⟨T381, L381, k381, n381⟩, -, X381, ⟨Lc381, hQ381, l381, y381, z381⟩, st381⟩ := X380.specialBack hx (y := (⟨"java/util/HashMap", "<init>", "()V"⟩ : MethodName)) rfl hown (mvT hZ (own_q hw 43 rfl)) (mvT hZ (own_q hw 44 rfl)) (mvT hZ (own_q hw 45 rfl)) (by decide) (backOf (W := 2) (rm_hm l Z a0 hw [] b380 h380 n0 (Nat.le_trans Z0 KP380.1) A380 F380_loadFactor gn_b380) hZ (own_q hw 45 rfl) (own_q hw 42 rfl) (by decide) (by decide)) (g := (mkF m 18 #[.val (.ref a1), .val (.long x), .second, .val (.ref fl), .val (.ref us), .unset, .unset, .unset] [(.ref b380), (.ref b380), (.ref a1)])) rfl (by rw [hml]; rfl) (Steps.refl _) (a := b380) (argsL := []) (rest := [(.ref b380), (.ref a1)]) (lenOf pd_13 rfl) rfl (by show 2 * 0 + _ ≤ _; exact Nat.le_of_eq rfl) (hb hby d5_18) (fun _ _ => ⟨rfl, e380, (by decide : 2 + 0 ≤ _), (by decide : 65544 + 0 ≤ _)⟩)
  dsimp only [Pt.U, Pt.locs, Pt.cells, Pt.slots] at X381 l381 y381 z381 st381 hQ381
  obtain rfl : k381 = 2 := y381; obtain rfl : n381 = 65544 := z381
  obtain ⟨rfl, N381q, K381⟩ := hQ381
  have N381 : Fr n0 L381 := by rw [l381]; exact Fr.app N377 N381q
  have e381 : T381.heap = T381.heap := rfl
  have KP381 := Keep.trans KP380 K381 (allS (Or.inr sz_b380) all0)
  have Fx382 := ((Fx379.ext E380).keep K381)
  have Fx383 := ((((F_users.ext E374).other W377 (Or.inr (slot_ne (Or.inr (own_q hw 57 rfl)) (Or.inr (own_q hw 39 rfl)) (by decide) (t := (.object "java/util/Map")) (t' := (.array (.object "com/example/parley/parley/floor/Conference$Floor"))) (by decide) (by decide)))).ext E380).keep K381 (ninS ne_a1_b380 nin0))
  obtain ⟨T384, h384, X384, e384, W384, st384⟩ := putF X381 hx hZ hown (host := "") (Or.inl (own_q hw 56 rfl)) Via.refl e381 Fx383 Fx382 (Or.inr ⟨(own_q hw 57 rfl), rfl, hnm⟩) (own_q hw 28 rfl) (ty := (.object "java/util/Map")) (by decide) rfl rfl (g := (mkF m 21 #[.val (.ref a1), .val (.long x), .second, .val (.ref fl), .val (.ref us), .unset, .unset, .unset] [(.ref b380), (.ref a1)])) rfl rfl (hb hby d5_21)
  have KP384 := Keep.wr KP381 W384 (Or.inl (List.mem_of_getElem? (i := 0) rfl))
  have Fw384 := Fx383.same W384
  have N384 := Fr.snoc X384 N381 gn_a
  have Fx385 := (((Fx378.ext E380).keep K381 (ninS ne_b374_b380 nin0)).other W384 (Ne.symm ne_a1_b374))
  have Fx386 := (Fx382.wr W384)
  obtain ⟨T387, h387, X387, e387, E387, A387, D387, -, st387⟩ := newO X384 hx hZ hown (own_q hw 58 rfl) (own_q hw 59 rfl) (own_q hw 60 rfl) e384 (g := (mkF m 25 #[.val (.ref a1), .val (.long x), .second, .val (.ref fl), .val (.ref us), .unset, .unset, .unset] [(.ref a1)])) rfl (hb hby d5_25) (by decide) (by decide)
  obtain ⟨b387, g387⟩ : ∃ z, z = h384.size := ⟨_, rfl⟩
  rw [← g387] at A387 D387 st387
  have sz_b387 : h0.size ≤ b387 := Nat.le_trans KP384.1 (Nat.le_of_eq g387.symm)
  have gn_b387 : n0 ≤ b387 := Nat.le_trans Z0 sz_b387
  have ne_b374_b387 : b374 ≠ b387 := Nat.ne_of_lt (Nat.lt_of_lt_of_le Fx385.lt (Nat.le_of_eq g387.symm))
  have ne_a1_b387 : a1 ≠ b387 := Nat.ne_of_lt (Nat.lt_of_lt_of_le Fx386.lt (Nat.le_of_eq g387.symm))
  have KP387 := Keep.ext KP384 E387
  have F387_map : Fld Z h387 b387 "java/util/HashSet" "map" "Ljava/util/HashMap;" .null := D387 (Or.inl (own_q hw 76 rfl)) (ty := (.object "java/util/HashMap")) (by decide)
  obtain ⟨_, _, ⟨T388, L388, k388, n388⟩, -, X388, ⟨Lc388, hQ388, l388, y388, z388⟩, st388⟩ := X387.specialBack hx (y := (⟨"java/util/HashSet", "<init>", "()V"⟩ : MethodName)) rfl hown (mvT hZ (own_q hw 61 rfl)) (mvT hZ (own_q hw 62 rfl)) (mvT hZ (own_q hw 63 rfl)) (by decide) (backOf (W := 2) (rm_hs l Z a0 hw [] b387 h387 n0 (Nat.le_trans Z0 KP387.1) A387 F387_map gn_b387) hZ (own_q hw 63 rfl) (own_q hw 60 rfl) (by decide) (by decide)) (g := (mkF m 29 #[.val (.ref a1), .val (.long x), .second, .val (.ref fl), .val (.ref us), .unset, .unset, .unset] [(.ref b387), (.ref b387), (.ref a1)])) rfl (by rw [hml]; rfl) (Steps.refl _) (a := b387) (argsL := []) (rest := [(.ref b387), (.ref a1)]) (lenOf pd_13 rfl) rfl (by show 2 * 0 + _ ≤ _; exact Nat.le_of_eq rfl) (hb hby d5_29) (fun _ _ => ⟨rfl, e387, (by decide : 3 + 1 ≤ _), (by decide : 65545 + 8 ≤ _)⟩)
  dsimp only [Pt.U, Pt.locs, Pt.cells, Pt.slots] at X388 l388 y388 z388 st388 hQ388
  obtain rfl : k388 = 4 := y388; obtain rfl : n388 = 65553 := z388
  obtain ⟨rfl, N388q, K388⟩ := hQ388
  have N388 : Fr n0 L388 := by rw [l388]; exact Fr.app N384 N388q
  have e388 : T388.heap = T388.heap := rfl
  have KP388 := Keep.trans KP387 K388 (allS (Or.inr sz_b387) all0)
  have Fx389 := ((Fx386.ext E387).keep K388)
  have Fx390 := (((((((F_pinned.ext E374).other W377 (Or.inr (slot_ne (Or.inr (own_q hw 78 rfl)) (Or.inr (own_q hw 39 rfl)) (by decide) (t := (.object "java/util/Set")) (t' := (.array (.object "com/example/parley/parley/floor/Conference$Floor"))) (by decide) (by decide)))).ext E380).keep K381 (ninS ne_a1_b380 nin0)).other W384 (Or.inr (slot_ne (Or.inr (own_q hw 78 rfl)) (Or.inr (own_q hw 57 rfl)) (by decide) (t := (.object "java/util/Set")) (t' := (.object "java/util/Map")) (by decide) (by decide)))).ext E387).keep K388 (ninS ne_a1_b387 nin0))
  obtain ⟨T391, h391, X391, e391, W391, st391⟩ := putF X388 hx hZ hown (host := "") (Or.inl (own_q hw 77 rfl)) Via.refl e388 Fx390 Fx389 (Or.inr ⟨(own_q hw 78 rfl), rfl, hnm⟩) (own_q hw 28 rfl) (ty := (.object "java/util/Set")) (by decide) rfl rfl (g := (mkF m 32 #[.val (.ref a1), .val (.long x), .second, .val (.ref fl), .val (.ref us), .unset, .unset, .unset] [(.ref b387), (.ref a1)])) rfl rfl (hb hby d5_32)
  have KP391 := Keep.wr KP388 W391 (Or.inl (List.mem_of_getElem? (i := 0) rfl))
  have Fw391 := Fx390.same W391
  have N391 := Fr.snoc X391 N388 gn_a
  have Fx392 := (((Fx385.ext E387).keep K388 (ninS ne_b374_b387 nin0)).other W391 (Ne.symm ne_a1_b374))
  have Fx393 := (Fx389.wr W391)
  obtain ⟨T394, h394, X394, e394, E394, A394, D394, -, st394⟩ := newO X391 hx hZ hown (own_q hw 40 rfl) (own_q hw 41 rfl) (own_q hw 42 rfl) e391 (g := (mkF m 36 #[.val (.ref a1), .val (.long x), .second, .val (.ref fl), .val (.ref us), .unset, .unset, .unset] [(.ref a1)])) rfl (hb hby d5_36) (by decide) (by decide)
  obtain ⟨b394, g394⟩ : ∃ z, z = h391.size := ⟨_, rfl⟩
  rw [← g394] at A394 D394 st394
  have sz_b394 : h0.size ≤ b394 := Nat.le_trans KP391.1 (Nat.le_of_eq g394.symm)
  have gn_b394 : n0 ≤ b394 := Nat.le_trans Z0 sz_b394
  have ne_b374_b394 : b374 ≠ b394 := Nat.ne_of_lt (Nat.lt_of_lt_of_le Fx392.lt (Nat.le_of_eq g394.symm))
  have ne_a1_b394 : a1 ≠ b394 := Nat.ne_of_lt (Nat.lt_of_lt_of_le Fx393.lt (Nat.le_of_eq g394.symm))
  have KP394 := Keep.ext KP391 E394
  have F394_loadFactor : Fld Z h394 b394 "java/util/HashMap" "loadFactor" "F" (.float (0 : UInt32)) := D394 (Or.inr (own_q hw 55 rfl)) (ty := .float) (by decide)
  obtain ⟨_, _, ⟨T395, L395, k395, n395⟩, -, X395, ⟨Lc395, hQ395, l395, y395, z395⟩, st395⟩ := X394.specialBack hx (y := (⟨"java/util/HashMap", "<init>", "()V"⟩ : MethodName)) rfl hown (mvT hZ (own_q hw 43 rfl)) (mvT hZ (own_q hw 44 rfl)) (mvT hZ (own_q hw 45 rfl)) (by decide) (backOf (W := 2) (rm_hm l Z a0 hw [] b394 h394 n0 (Nat.le_trans Z0 KP394.1) A394 F394_loadFactor gn_b394) hZ (own_q hw 45 rfl) (own_q hw 42 rfl) (by decide) (by decide)) (g := (mkF m 40 #[.val (.ref a1), .val (.long x), .second, .val (.ref fl), .val (.ref us), .unset, .unset, .unset] [(.ref b394), (.ref b394), (.ref a1)])) rfl (by rw [hml]; rfl) (Steps.refl _) (a := b394) (argsL := []) (rest := [(.ref b394), (.ref a1)]) (lenOf pd_13 rfl) rfl (by show 2 * 0 + _ ≤ _; exact Nat.le_of_eq rfl) (hb hby d5_40) (fun _ _ => ⟨rfl, e394, (by decide : 5 + 0 ≤ _), (by decide : 65561 + 0 ≤ _)⟩)
  dsimp only [Pt.U, Pt.locs, Pt.cells, Pt.slots] at X395 l395 y395 z395 st395 hQ395
  obtain rfl : k395 = 5 := y395; obtain rfl : n395 = 65561 := z395
  obtain ⟨rfl, N395q, K395⟩ := hQ395
  have N395 : Fr n0 L395 := by rw [l395]; exact Fr.app N391 N395q
  have e395 : T395.heap = T395.heap := rfl
  have KP395 := Keep.trans KP394 K395 (allS (Or.inr sz_b394) all0)
  have Fx396 := ((Fx393.ext E394).keep K395)
  have Fx397 := ((((((((((F_requests.ext E374).other W377 (Or.inr (slot_ne (Or.inr (own_q hw 80 rfl)) (Or.inr (own_q hw 39 rfl)) (by decide) (t := (.object "java/util/Map")) (t' := (.array (.object "com/example/parley/parley/floor/Conference$Floor"))) (by decide) (by decide)))).ext E380).keep K381 (ninS ne_a1_b380 nin0)).other W384 (Or.inr (slot_ne (Or.inr (own_q hw 80 rfl)) (Or.inr (own_q hw 57 rfl)) (by decide) (t := (.object "java/util/Map")) (t' := (.object "java/util/Map")) (by decide) (by decide)))).ext E387).keep K388 (ninS ne_a1_b387 nin0)).other W391 (Or.inr (slot_ne (Or.inr (own_q hw 80 rfl)) (Or.inr (own_q hw 78 rfl)) (by decide) (t := (.object "java/util/Map")) (t' := (.object "java/util/Set")) (by decide) (by decide)))).ext E394).keep K395 (ninS ne_a1_b394 nin0))
  obtain ⟨T398, h398, X398, e398, W398, st398⟩ := putF X395 hx hZ hown (host := "") (Or.inl (own_q hw 79 rfl)) Via.refl e395 Fx397 Fx396 (Or.inr ⟨(own_q hw 80 rfl), rfl, hnm⟩) (own_q hw 28 rfl) (ty := (.object "java/util/Map")) (by decide) rfl rfl (g := (mkF m 43 #[.val (.ref a1), .val (.long x), .second, .val (.ref fl), .val (.ref us), .unset, .unset, .unset] [(.ref b394), (.ref a1)])) rfl rfl (hb hby d5_43)
  have KP398 := Keep.wr KP395 W398 (Or.inl (List.mem_of_getElem? (i := 0) rfl))
  have Fw398 := Fx397.same W398
  have N398 := Fr.snoc X398 N395 gn_a
  have Fx399 := (((Fx392.ext E394).keep K395 (ninS ne_b374_b394 nin0)).other W398 (Ne.symm ne_a1_b374))
  have Fx400 := (Fx396.wr W398)
  obtain ⟨T401, h401, X401, e401, E401, A401, D401, -, st401⟩ := newO X398 hx hZ hown (own_q hw 40 rfl) (own_q hw 41 rfl) (own_q hw 42 rfl) e398 (g := (mkF m 47 #[.val (.ref a1), .val (.long x), .second, .val (.ref fl), .val (.ref us), .unset, .unset, .unset] [(.ref a1)])) rfl (hb hby d5_47) (by decide) (by decide)
  obtain ⟨b401, g401⟩ : ∃ z, z = h398.size := ⟨_, rfl⟩
  rw [← g401] at A401 D401 st401
  have sz_b401 : h0.size ≤ b401 := Nat.le_trans KP398.1 (Nat.le_of_eq g401.symm)
  have gn_b401 : n0 ≤ b401 := Nat.le_trans Z0 sz_b401
  have ne_b374_b401 : b374 ≠ b401 := Nat.ne_of_lt (Nat.lt_of_lt_of_le Fx399.lt (Nat.le_of_eq g401.symm))
  have ne_a1_b401 : a1 ≠ b401 := Nat.ne_of_lt (Nat.lt_of_lt_of_le Fx400.lt (Nat.le_of_eq g401.symm))
  have KP401 := Keep.ext KP398 E401
  have F401_loadFactor : Fld Z h401 b401 "java/util/HashMap" "loadFactor" "F" (.float (0 : UInt32)) := D401 (Or.inr (own_q hw 55 rfl)) (ty := .float) (by decide)
  obtain ⟨_, _, ⟨T402, L402, k402, n402⟩, -, X402, ⟨Lc402, hQ402, l402, y402, z402⟩, st402⟩ := X401.specialBack hx (y := (⟨"java/util/HashMap", "<init>", "()V"⟩ : MethodName)) rfl hown (mvT hZ (own_q hw 43 rfl)) (mvT hZ (own_q hw 44 rfl)) (mvT hZ (own_q hw 45 rfl)) (by decide) (backOf (W := 2) (rm_hm l Z a0 hw [] b401 h401 n0 (Nat.le_trans Z0 KP401.1) A401 F401_loadFactor gn_b401) hZ (own_q hw 45 rfl) (own_q hw 42 rfl) (by decide) (by decide)) (g := (mkF m 51 #[.val (.ref a1), .val (.long x), .second, .val (.ref fl), .val (.ref us), .unset, .unset, .unset] [(.ref b401), (.ref b401), (.ref a1)])) rfl (by rw [hml]; rfl) (Steps.refl _) (a := b401) (argsL := []) (rest := [(.ref b401), (.ref a1)]) (lenOf pd_13 rfl) rfl (by show 2 * 0 + _ ≤ _; exact Nat.le_of_eq rfl) (hb hby d5_51) (fun _ _ => ⟨rfl, e401, (by decide : 6 + 0 ≤ _), (by decide : 65569 + 0 ≤ _)⟩)
  dsimp only [Pt.U, Pt.locs, Pt.cells, Pt.slots] at X402 l402 y402 z402 st402 hQ402
  obtain rfl : k402 = 6 := y402; obtain rfl : n402 = 65569 := z402
  obtain ⟨rfl, N402q, K402⟩ := hQ402
  have N402 : Fr n0 L402 := by rw [l402]; exact Fr.app N398 N402q
  have e402 : T402.heap = T402.heap := rfl
  have KP402 := Keep.trans KP401 K402 (allS (Or.inr sz_b401) all0)
  have Fx403 := ((Fx400.ext E401).keep K402)
  have Fx404 := (((((((((((((F_madeBy.ext E374).other W377 (Or.inr (slot_ne (Or.inr (own_q hw 82 rfl)) (Or.inr (own_q hw 39 rfl)) (by decide) (t := (.object "java/util/Map")) (t' := (.array (.object "com/example/parley/parley/floor/Conference$Floor"))) (by decide) (by decide)))).ext E380).keep K381 (ninS ne_a1_b380 nin0)).other W384 (Or.inr (slot_ne (Or.inr (own_q hw 82 rfl)) (Or.inr (own_q hw 57 rfl)) (by decide) (t := (.object "java/util/Map")) (t' := (.object "java/util/Map")) (by decide) (by decide)))).ext E387).keep K388 (ninS ne_a1_b387 nin0)).other W391 (Or.inr (slot_ne (Or.inr (own_q hw 82 rfl)) (Or.inr (own_q hw 78 rfl)) (by decide) (t := (.object "java/util/Map")) (t' := (.object "java/util/Set")) (by decide) (by decide)))).ext E394).keep K395 (ninS ne_a1_b394 nin0)).other W398 (Or.inr (slot_ne (Or.inr (own_q hw 82 rfl)) (Or.inr (own_q hw 80 rfl)) (by decide) (t := (.object "java/util/Map")) (t' := (.object "java/util/Map")) (by decide) (by decide)))).ext E401).keep K402 (ninS ne_a1_b401 nin0))
  obtain ⟨T405, h405, X405, e405, W405, st405⟩ := putF X402 hx hZ hown (host := "") (Or.inl (own_q hw 81 rfl)) Via.refl e402 Fx404 Fx403 (Or.inr ⟨(own_q hw 82 rfl), rfl, hnm⟩) (own_q hw 28 rfl) (ty := (.object "java/util/Map")) (by decide) rfl rfl (g := (mkF m 54 #[.val (.ref a1), .val (.long x), .second, .val (.ref fl), .val (.ref us), .unset, .unset, .unset] [(.ref b401), (.ref a1)])) rfl rfl (hb hby d5_54)
  have KP405 := Keep.wr KP402 W405 (Or.inl (List.mem_of_getElem? (i := 0) rfl))
  have Fw405 := Fx404.same W405
  have N405 := Fr.snoc X405 N402 gn_a
  have Fx406 := (((Fx399.ext E401).keep K402 (ninS ne_b374_b401 nin0)).other W405 (Ne.symm ne_a1_b374))
  have Fx407 := (Fx403.wr W405)
  obtain ⟨T408, h408, X408, e408, E408, A408, D408, -, st408⟩ := newO X405 hx hZ hown (own_q hw 40 rfl) (own_q hw 41 rfl) (own_q hw 42 rfl) e405 (g := (mkF m 58 #[.val (.ref a1), .val (.long x), .second, .val (.ref fl), .val (.ref us), .unset, .unset, .unset] [(.ref a1)])) rfl (hb hby d5_58) (by decide) (by decide)
  obtain ⟨b408, g408⟩ : ∃ z, z = h405.size := ⟨_, rfl⟩
  rw [← g408] at A408 D408 st408
  have sz_b408 : h0.size ≤ b408 := Nat.le_trans KP405.1 (Nat.le_of_eq g408.symm)
  have gn_b408 : n0 ≤ b408 := Nat.le_trans Z0 sz_b408
  have ne_b374_b408 : b374 ≠ b408 := Nat.ne_of_lt (Nat.lt_of_lt_of_le Fx406.lt (Nat.le_of_eq g408.symm))
  have ne_a1_b408 : a1 ≠ b408 := Nat.ne_of_lt (Nat.lt_of_lt_of_le Fx407.lt (Nat.le_of_eq g408.symm))
  have KP408 := Keep.ext KP405 E408
  have F408_loadFactor : Fld Z h408 b408 "java/util/HashMap" "loadFactor" "F" (.float (0 : UInt32)) := D408 (Or.inr (own_q hw 55 rfl)) (ty := .float) (by decide)
  obtain ⟨_, _, ⟨T409, L409, k409, n409⟩, -, X409, ⟨Lc409, hQ409, l409, y409, z409⟩, st409⟩ := X408.specialBack hx (y := (⟨"java/util/HashMap", "<init>", "()V"⟩ : MethodName)) rfl hown (mvT hZ (own_q hw 43 rfl)) (mvT hZ (own_q hw 44 rfl)) (mvT hZ (own_q hw 45 rfl)) (by decide) (backOf (W := 2) (rm_hm l Z a0 hw [] b408 h408 n0 (Nat.le_trans Z0 KP408.1) A408 F408_loadFactor gn_b408) hZ (own_q hw 45 rfl) (own_q hw 42 rfl) (by decide) (by decide)) (g := (mkF m 62 #[.val (.ref a1), .val (.long x), .second, .val (.ref fl), .val (.ref us), .unset, .unset, .unset] [(.ref b408), (.ref b408), (.ref a1)])) rfl (by rw [hml]; rfl) (Steps.refl _) (a := b408) (argsL := []) (rest := [(.ref b408), (.ref a1)]) (lenOf pd_13 rfl) rfl (by show 2 * 0 + _ ≤ _; exact Nat.le_of_eq rfl) (hb hby d5_62) (fun _ _ => ⟨rfl, e408, (by decide : 7 + 0 ≤ _), (by decide : 65577 + 0 ≤ _)⟩)
  dsimp only [Pt.U, Pt.locs, Pt.cells, Pt.slots] at X409 l409 y409 z409 st409 hQ409
  obtain rfl : k409 = 7 := y409; obtain rfl : n409 = 65577 := z409
  obtain ⟨rfl, N409q, K409⟩ := hQ409
  have N409 : Fr n0 L409 := by rw [l409]; exact Fr.app N405 N409q
  have e409 : T409.heap = T409.heap := rfl
  have KP409 := Keep.trans KP408 K409 (allS (Or.inr sz_b408) all0)
  have Fx410 := ((Fx407.ext E408).keep K409)
  have Fx411 := ((((((((((((((((F_madeFor.ext E374).other W377 (Or.inr (slot_ne (Or.inr (own_q hw 84 rfl)) (Or.inr (own_q hw 39 rfl)) (by decide) (t := (.object "java/util/Map")) (t' := (.array (.object "com/example/parley/parley/floor/Conference$Floor"))) (by decide) (by decide)))).ext E380).keep K381 (ninS ne_a1_b380 nin0)).other W384 (Or.inr (slot_ne (Or.inr (own_q hw 84 rfl)) (Or.inr (own_q hw 57 rfl)) (by decide) (t := (.object "java/util/Map")) (t' := (.object "java/util/Map")) (by decide) (by decide)))).ext E387).keep K388 (ninS ne_a1_b387 nin0)).other W391 (Or.inr (slot_ne (Or.inr (own_q hw 84 rfl)) (Or.inr (own_q hw 78 rfl)) (by decide) (t := (.object "java/util/Map")) (t' := (.object "java/util/Set")) (by decide) (by decide)))).ext E394).keep K395 (ninS ne_a1_b394 nin0)).other W398 (Or.inr (slot_ne (Or.inr (own_q hw 84 rfl)) (Or.inr (own_q hw 80 rfl)) (by decide) (t := (.object "java/util/Map")) (t' := (.object "java/util/Map")) (by decide) (by decide)))).ext E401).keep K402 (ninS ne_a1_b401 nin0)).other W405 (Or.inr (slot_ne (Or.inr (own_q hw 84 rfl)) (Or.inr (own_q hw 82 rfl)) (by decide) (t := (.object "java/util/Map")) (t' := (.object "java/util/Map")) (by decide) (by decide)))).ext E408).keep K409 (ninS ne_a1_b408 nin0))
  obtain ⟨T412, h412, X412, e412, W412, st412⟩ := putF X409 hx hZ hown (host := "") (Or.inl (own_q hw 83 rfl)) Via.refl e409 Fx411 Fx410 (Or.inr ⟨(own_q hw 84 rfl), rfl, hnm⟩) (own_q hw 28 rfl) (ty := (.object "java/util/Map")) (by decide) rfl rfl (g := (mkF m 65 #[.val (.ref a1), .val (.long x), .second, .val (.ref fl), .val (.ref us), .unset, .unset, .unset] [(.ref b408), (.ref a1)])) rfl rfl (hb hby d5_65)
  have KP412 := Keep.wr KP409 W412 (Or.inl (List.mem_of_getElem? (i := 0) rfl))
  have Fw412 := Fx411.same W412
  have N412 := Fr.snoc X412 N409 gn_a
  have Fx413 := (((Fx406.ext E408).keep K409 (ninS ne_b374_b408 nin0)).other W412 (Ne.symm ne_a1_b374))
  have Fx414 := (Fx410.wr W412)
  obtain ⟨T415, h415, X415, e415, E415, A415, D415, -, st415⟩ := newO X412 hx hZ hown (own_q hw 85 rfl) (own_q hw 2 rfl) (own_q hw 3 rfl) e412 (g := (mkF m 69 #[.val (.ref a1), .val (.long x), .second, .val (.ref fl), .val (.ref us), .unset, .unset, .unset] [(.ref a1)])) rfl (hb hby d5_69) (by decide) (by decide)
  obtain ⟨b415, g415⟩ : ∃ z, z = h412.size := ⟨_, rfl⟩
  rw [← g415] at A415 D415 st415
  have sz_b415 : h0.size ≤ b415 := Nat.le_trans KP412.1 (Nat.le_of_eq g415.symm)
  have gn_b415 : n0 ≤ b415 := Nat.le_trans Z0 sz_b415
  have ne_b374_b415 : b374 ≠ b415 := Nat.ne_of_lt (Nat.lt_of_lt_of_le Fx413.lt (Nat.le_of_eq g415.symm))
  have ne_a1_b415 : a1 ≠ b415 := Nat.ne_of_lt (Nat.lt_of_lt_of_le Fx414.lt (Nat.le_of_eq g415.symm))
  have KP415 := Keep.ext KP412 E415
  have F415_modCount : Fld Z h415 b415 "java/util/AbstractList" "modCount" "I" (.int (0 : Int32)) := D415 (Or.inl (own_q hw 23 rfl)) (ty := .int) (by decide)
  have F415_elementData : Fld Z h415 b415 "java/util/ArrayList" "elementData" "[Ljava/lang/Object;" .null := D415 (Or.inl (own_q hw 26 rfl)) (ty := (.array (.object "java/lang/Object"))) (by decide)
  have F415_size : Fld Z h415 b415 "java/util/ArrayList" "size" "I" (.int (0 : Int32)) := D415 (Or.inl (own_q hw 134 rfl)) (ty := .int) (by decide)
  obtain ⟨_, _, ⟨T416, L416, k416, n416⟩, -, X416, ⟨Lc416, hQ416, l416, y416, z416⟩, st416⟩ := X415.specialBack hx (y := (⟨"java/util/ArrayList", "<init>", "()V"⟩ : MethodName)) rfl hown (mvT hZ (own_q hw 86 rfl)) (mvT hZ (own_q hw 5 rfl)) (mvT hZ (own_q hw 6 rfl)) (by decide) (backOf (W := 2) (rm_ali l Z a0 hw [] b415 h415 n0 (Nat.le_trans Z0 KP415.1) ⟨A415, F415_elementData, F415_size, F415_modCount⟩ gn_b415 hS hn (own_ext_keep hEx KP415 (allS (Nat.le_trans hn gn_a) all0)) dE oe kD hWd) hZ (own_q hw 6 rfl) (own_q hw 3 rfl) (by decide) (by decide)) (g := (mkF m 73 #[.val (.ref a1), .val (.long x), .second, .val (.ref fl), .val (.ref us), .unset, .unset, .unset] [(.ref b415), (.ref b415), (.ref a1)])) rfl (by rw [hml]; rfl) (Steps.refl _) (a := b415) (argsL := []) (rest := [(.ref b415), (.ref a1)]) (lenOf pd_13 rfl) rfl (by show 2 * 0 + _ ≤ _; exact Nat.le_of_eq rfl) (hb hby d5_73) (fun _ _ => ⟨rfl, e415, (by decide : 8 + 0 ≤ _), (by decide : 65580 + 0 ≤ _)⟩)
  dsimp only [Pt.U, Pt.locs, Pt.cells, Pt.slots] at X416 l416 y416 z416 st416 hQ416
  obtain rfl : k416 = 8 := y416; obtain rfl : n416 = 65580 := z416
  obtain ⟨rfl, N416q, K416, EA416, FE416, FZ416, FM416⟩ := hQ416
  have N416 : Fr n0 L416 := by rw [l416]; exact Fr.app N412 N416q
  have e416 : T416.heap = T416.heap := rfl
  have KP416 := Keep.trans KP415 K416 (allS (Or.inr sz_b415) all0)
  have Fx417 := ((Fx414.ext E415).keep K416)
  have Fx418 := (((((((((((((((((((F_requesterListeners.ext E374).other W377 (Or.inr (slot_ne (Or.inr (own_q hw 88 rfl)) (Or.inr (own_q hw 39 rfl)) (by decide) (t := (.object "java/util/List")) (t' := (.array (.object "com/example/parley/parley/floor/Conference$Floor"))) (by decide) (by decide)))).ext E380).keep K381 (ninS ne_a1_b380 nin0)).other W384 (Or.inr (slot_ne (Or.inr (own_q hw 88 rfl)) (Or.inr (own_q hw 57 rfl)) (by decide) (t := (.object "java/util/List")) (t' := (.object "java/util/Map")) (by decide) (by decide)))).ext E387).keep K388 (ninS ne_a1_b387 nin0)).other W391 (Or.inr (slot_ne (Or.inr (own_q hw 88 rfl)) (Or.inr (own_q hw 78 rfl)) (by decide) (t := (.object "java/util/List")) (t' := (.object "java/util/Set")) (by decide) (by decide)))).ext E394).keep K395 (ninS ne_a1_b394 nin0)).other W398 (Or.inr (slot_ne (Or.inr (own_q hw 88 rfl)) (Or.inr (own_q hw 80 rfl)) (by decide) (t := (.object "java/util/List")) (t' := (.object "java/util/Map")) (by decide) (by decide)))).ext E401).keep K402 (ninS ne_a1_b401 nin0)).other W405 (Or.inr (slot_ne (Or.inr (own_q hw 88 rfl)) (Or.inr (own_q hw 82 rfl)) (by decide) (t := (.object "java/util/List")) (t' := (.object "java/util/Map")) (by decide) (by decide)))).ext E408).keep K409 (ninS ne_a1_b408 nin0)).other W412 (Or.inr (slot_ne (Or.inr (own_q hw 88 rfl)) (Or.inr (own_q hw 84 rfl)) (by decide) (t := (.object "java/util/List")) (t' := (.object "java/util/Map")) (by decide) (by decide)))).ext E415).keep K416 (ninS ne_a1_b415 nin0))
  obtain ⟨T419, h419, X419, e419, W419, st419⟩ := putF X416 hx hZ hown (host := "") (Or.inl (own_q hw 87 rfl)) Via.refl e416 Fx418 Fx417 (Or.inr ⟨(own_q hw 88 rfl), rfl, hnm⟩) (own_q hw 28 rfl) (ty := (.object "java/util/List")) (by decide) rfl rfl (g := (mkF m 76 #[.val (.ref a1), .val (.long x), .second, .val (.ref fl), .val (.ref us), .unset, .unset, .unset] [(.ref b415), (.ref a1)])) rfl rfl (hb hby d5_76)
  have KP419 := Keep.wr KP416 W419 (Or.inl (List.mem_of_getElem? (i := 0) rfl))
  have Fw419 := Fx418.same W419
  have N419 := Fr.snoc X419 N416 gn_a
  have Fx420 := (((Fx413.ext E415).keep K416 (ninS ne_b374_b415 nin0)).other W419 (Ne.symm ne_a1_b374))
  have Fx421 := (Fx417.wr W419)
  obtain ⟨T422, h422, X422, e422, E422, A422, D422, -, st422⟩ := newO X419 hx hZ hown (own_q hw 85 rfl) (own_q hw 2 rfl) (own_q hw 3 rfl) e419 (g := (mkF m 80 #[.val (.ref a1), .val (.long x), .second, .val (.ref fl), .val (.ref us), .unset, .unset, .unset] [(.ref a1)])) rfl (hb hby d5_80) (by decide) (by decide)
  obtain ⟨b422, g422⟩ : ∃ z, z = h419.size := ⟨_, rfl⟩
  rw [← g422] at A422 D422 st422
  have sz_b422 : h0.size ≤ b422 := Nat.le_trans KP419.1 (Nat.le_of_eq g422.symm)
  have gn_b422 : n0 ≤ b422 := Nat.le_trans Z0 sz_b422
  have ne_b374_b422 : b374 ≠ b422 := Nat.ne_of_lt (Nat.lt_of_lt_of_le Fx420.lt (Nat.le_of_eq g422.symm))
  have ne_a1_b422 : a1 ≠ b422 := Nat.ne_of_lt (Nat.lt_of_lt_of_le Fx421.lt (Nat.le_of_eq g422.symm))
  have KP422 := Keep.ext KP419 E422
  have F422_modCount : Fld Z h422 b422 "java/util/AbstractList" "modCount" "I" (.int (0 : Int32)) := D422 (Or.inl (own_q hw 23 rfl)) (ty := .int) (by decide)
  have F422_elementData : Fld Z h422 b422 "java/util/ArrayList" "elementData" "[Ljava/lang/Object;" .null := D422 (Or.inl (own_q hw 26 rfl)) (ty := (.array (.object "java/lang/Object"))) (by decide)
  have F422_size : Fld Z h422 b422 "java/util/ArrayList" "size" "I" (.int (0 : Int32)) := D422 (Or.inl (own_q hw 134 rfl)) (ty := .int) (by decide)
  obtain ⟨_, _, ⟨T423, L423, k423, n423⟩, -, X423, ⟨Lc423, hQ423, l423, y423, z423⟩, st423⟩ := X422.specialBack hx (y := (⟨"java/util/ArrayList", "<init>", "()V"⟩ : MethodName)) rfl hown (mvT hZ (own_q hw 86 rfl)) (mvT hZ (own_q hw 5 rfl)) (mvT hZ (own_q hw 6 rfl)) (by decide) (backOf (W := 2) (rm_ali l Z a0 hw [] b422 h422 n0 (Nat.le_trans Z0 KP422.1) ⟨A422, F422_elementData, F422_size, F422_modCount⟩ gn_b422 hS hn (own_ext_keep hEx KP422 (allS (Nat.le_trans hn gn_a) all0)) dE oe kD hWd) hZ (own_q hw 6 rfl) (own_q hw 3 rfl) (by decide) (by decide)) (g := (mkF m 84 #[.val (.ref a1), .val (.long x), .second, .val (.ref fl), .val (.ref us), .unset, .unset, .unset] [(.ref b422), (.ref b422), (.ref a1)])) rfl (by rw [hml]; rfl) (Steps.refl _) (a := b422) (argsL := []) (rest := [(.ref b422), (.ref a1)]) (lenOf pd_13 rfl) rfl (by show 2 * 0 + _ ≤ _; exact Nat.le_of_eq rfl) (hb hby d5_84) (fun _ _ => ⟨rfl, e422, (by decide : 9 + 0 ≤ _), (by decide : 65583 + 0 ≤ _)⟩)
  dsimp only [Pt.U, Pt.locs, Pt.cells, Pt.slots] at X423 l423 y423 z423 st423 hQ423
  obtain rfl : k423 = 9 := y423; obtain rfl : n423 = 65583 := z423
  obtain ⟨rfl, N423q, K423, EA423, FE423, FZ423, FM423⟩ := hQ423
  have N423 : Fr n0 L423 := by rw [l423]; exact Fr.app N419 N423q
  have e423 : T423.heap = T423.heap := rfl
  have KP423 := Keep.trans KP422 K423 (allS (Or.inr sz_b422) all0)
  have Fx424 := ((Fx421.ext E422).keep K423)
  have Fx425 := ((((((((((((((((((((((F_changeListeners.ext E374).other W377 (Or.inr (slot_ne (Or.inr (own_q hw 90 rfl)) (Or.inr (own_q hw 39 rfl)) (by decide) (t := (.object "java/util/List")) (t' := (.array (.object "com/example/parley/parley/floor/Conference$Floor"))) (by decide) (by decide)))).ext E380).keep K381 (ninS ne_a1_b380 nin0)).other W384 (Or.inr (slot_ne (Or.inr (own_q hw 90 rfl)) (Or.inr (own_q hw 57 rfl)) (by decide) (t := (.object "java/util/List")) (t' := (.object "java/util/Map")) (by decide) (by decide)))).ext E387).keep K388 (ninS ne_a1_b387 nin0)).other W391 (Or.inr (slot_ne (Or.inr (own_q hw 90 rfl)) (Or.inr (own_q hw 78 rfl)) (by decide) (t := (.object "java/util/List")) (t' := (.object "java/util/Set")) (by decide) (by decide)))).ext E394).keep K395 (ninS ne_a1_b394 nin0)).other W398 (Or.inr (slot_ne (Or.inr (own_q hw 90 rfl)) (Or.inr (own_q hw 80 rfl)) (by decide) (t := (.object "java/util/List")) (t' := (.object "java/util/Map")) (by decide) (by decide)))).ext E401).keep K402 (ninS ne_a1_b401 nin0)).other W405 (Or.inr (slot_ne (Or.inr (own_q hw 90 rfl)) (Or.inr (own_q hw 82 rfl)) (by decide) (t := (.object "java/util/List")) (t' := (.object "java/util/Map")) (by decide) (by decide)))).ext E408).keep K409 (ninS ne_a1_b408 nin0)).other W412 (Or.inr (slot_ne (Or.inr (own_q hw 90 rfl)) (Or.inr (own_q hw 84 rfl)) (by decide) (t := (.object "java/util/List")) (t' := (.object "java/util/Map")) (by decide) (by decide)))).ext E415).keep K416 (ninS ne_a1_b415 nin0)).other W419 (Or.inr (slot_ne (Or.inr (own_q hw 90 rfl)) (Or.inr (own_q hw 88 rfl)) (by decide) (t := (.object "java/util/List")) (t' := (.object "java/util/List")) (by decide) (by decide)))).ext E422).keep K423 (ninS ne_a1_b422 nin0))
  obtain ⟨T426, h426, X426, e426, W426, st426⟩ := putF X423 hx hZ hown (host := "") (Or.inl (own_q hw 89 rfl)) Via.refl e423 Fx425 Fx424 (Or.inr ⟨(own_q hw 90 rfl), rfl, hnm⟩) (own_q hw 28 rfl) (ty := (.object "java/util/List")) (by decide) rfl rfl (g := (mkF m 87 #[.val (.ref a1), .val (.long x), .second, .val (.ref fl), .val (.ref us), .unset, .unset, .unset] [(.ref b422), (.ref a1)])) rfl rfl (hb hby d5_87)
  have KP426 := Keep.wr KP423 W426 (Or.inl (List.mem_of_getElem? (i := 0) rfl))
  have Fw426 := Fx425.same W426
  have N426 := Fr.snoc X426 N423 gn_a
  obtain ⟨_, _, ⟨T427, L427, k427, n427⟩, -, X427, ⟨Lc427, hQ427, l427, y427, z427⟩, st427⟩ := Jvm.LawKit.callS X426 hx (y := (⟨"com/example/parley/parley/floor/Conference", "checkId", "(J)J"⟩ : MethodName)) hown (mvT hZ (own_q hw 91 rfl)) (mvT hZ (own_q hw 92 rfl)) (mvT hZ (own_q hw 29 rfl)) (mvT hZ (own_q hw 93 rfl)) (by decide) (backOf (W := 1) (rm_cid l Z a0 hw [] x h426 n0 (Nat.le_trans Z0 KP426.1) hx0 hx1) hZ (own_q hw 93 rfl) (own_q hw 29 rfl) (by decide) (by decide)) (g := (mkF m 92 #[.val (.ref a1), .val (.long x), .second, .val (.ref fl), .val (.ref us), .unset, .unset, .unset] [(.long x), (.ref a1)])) rfl (by rw [hml]; rfl) (argsL := [(.long x)]) (rest := [(.ref a1)]) (lenOf pd_332 rfl) rfl (by show 2 * 0 + _ ≤ _; exact Nat.le_of_eq rfl) (hb hby d5_92) (fun _ _ => ⟨rfl, e426, (by decide : 9 + 0 ≤ _), (by decide : 65583 + 0 ≤ _)⟩)
  dsimp only [Pt.U, Pt.locs, Pt.cells, Pt.slots] at X427 l427 y427 z427 st427 hQ427
  obtain rfl : k427 = 9 := y427; obtain rfl : n427 = 65583 := z427
  obtain ⟨rfl, N427q, e427⟩ := hQ427
  have N427 : Fr n0 L427 := by rw [l427]; exact Fr.app N426 N427q
  have Fx428 := (Fx424.wr W426)
  have Fx429 := (((((((((((((((((((((((F_id.ext E374).other W377 (Or.inr (slot_ne (Or.inr (own_q hw 96 rfl)) (Or.inr (own_q hw 39 rfl)) (by decide) (t := .long) (t' := (.array (.object "com/example/parley/parley/floor/Conference$Floor"))) (by decide) (by decide)))).ext E380).keep K381 (ninS ne_a1_b380 nin0)).other W384 (Or.inr (slot_ne (Or.inr (own_q hw 96 rfl)) (Or.inr (own_q hw 57 rfl)) (by decide) (t := .long) (t' := (.object "java/util/Map")) (by decide) (by decide)))).ext E387).keep K388 (ninS ne_a1_b387 nin0)).other W391 (Or.inr (slot_ne (Or.inr (own_q hw 96 rfl)) (Or.inr (own_q hw 78 rfl)) (by decide) (t := .long) (t' := (.object "java/util/Set")) (by decide) (by decide)))).ext E394).keep K395 (ninS ne_a1_b394 nin0)).other W398 (Or.inr (slot_ne (Or.inr (own_q hw 96 rfl)) (Or.inr (own_q hw 80 rfl)) (by decide) (t := .long) (t' := (.object "java/util/Map")) (by decide) (by decide)))).ext E401).keep K402 (ninS ne_a1_b401 nin0)).other W405 (Or.inr (slot_ne (Or.inr (own_q hw 96 rfl)) (Or.inr (own_q hw 82 rfl)) (by decide) (t := .long) (t' := (.object "java/util/Map")) (by decide) (by decide)))).ext E408).keep K409 (ninS ne_a1_b408 nin0)).other W412 (Or.inr (slot_ne (Or.inr (own_q hw 96 rfl)) (Or.inr (own_q hw 84 rfl)) (by decide) (t := .long) (t' := (.object "java/util/Map")) (by decide) (by decide)))).ext E415).keep K416 (ninS ne_a1_b415 nin0)).other W419 (Or.inr (slot_ne (Or.inr (own_q hw 96 rfl)) (Or.inr (own_q hw 88 rfl)) (by decide) (t := .long) (t' := (.object "java/util/List")) (by decide) (by decide)))).ext E422).keep K423 (ninS ne_a1_b422 nin0)).other W426 (Or.inr (slot_ne (Or.inr (own_q hw 96 rfl)) (Or.inr (own_q hw 90 rfl)) (by decide) (t := .long) (t' := (.object "java/util/List")) (by decide) (by decide))))
  obtain ⟨T430, h430, X430, e430, W430, st430⟩ := putF X427 hx hZ hown (host := "") (Or.inl (own_q hw 95 rfl)) Via.refl e427 Fx429 Fx428 (Or.inr ⟨(own_q hw 96 rfl), rfl, hnm⟩) (own_q hw 28 rfl) (ty := .long) (by decide) rfl rfl (g := (mkF m 95 #[.val (.ref a1), .val (.long x), .second, .val (.ref fl), .val (.ref us), .unset, .unset, .unset] [(.long x), (.ref a1)])) rfl rfl (hb hby d5_95)
  have KP430 := Keep.wr KP426 W430 (Or.inl (List.mem_of_getElem? (i := 0) rfl))
  have Fw430 := Fx429.same W430
  have N430 := Fr.snoc X430 N427 gn_a
  have Fx431 := ((((Fx420.ext E422).keep K423 (ninS ne_b374_b422 nin0)).other W426 (Ne.symm ne_a1_b374)).other W430 (Ne.symm ne_a1_b374))
  have Fx432 := (Fx428.wr W430)
  obtain ⟨cq433, kq433, q433a, q433b, q433c⟩ := isOf hZ e430 (((hFl.keep KP430 (ninS nf nin0))).1)
  obtain ⟨_, _, ⟨T433, L433, k433, n433⟩, -, X433, ⟨Lc433, hQ433, l433, y433, z433⟩, st433⟩ := X430.interfaceBack hx (xi := (⟨"java/util/Collection", "iterator", "()Ljava/util/Iterator;"⟩ : MethodName)) (y := (⟨"java/util/ArrayList", "iterator", "()Ljava/util/Iterator;"⟩ : MethodName)) hown (mvT hZ (own_q hw 97 rfl)) (mvT hZ (own_q hw 98 rfl)) (mvT hZ (own_q hw 99 rfl)) (mvT hZ (own_q hw 100 rfl)) (mvT hZ (own_q hw 101 rfl)) (mvT hZ (own_q hw 102 rfl)) (mvT hZ (own_q hw 103 rfl)) (mvT hZ (own_q hw 104 rfl)) (by decide) (backOf (W := 0) (rm_ite l Z a0 hw [] fl h430 n0 (Nat.le_trans Z0 KP430.1) (2 : Int32) ((hFl.keep KP430 (ninS nf nin0))).2.2.2) hZ (own_q hw 105 rfl) (own_q hw 3 rfl) (by decide) (by decide)) q433a q433b q433c (g := (mkF m 99 #[.val (.ref a1), .val (.long x), .second, .val (.ref fl), .val (.ref us), .unset, .unset, .unset] [(.ref fl)])) rfl (by rw [hml]; rfl) (Steps.refl _) (argsL := []) (rest := []) (lenOf pd_336 rfl) rfl (by show 2 * 0 + _ ≤ _; exact Nat.le_of_eq rfl) (hb hby d5_99) (fun _ _ => ⟨rfl, e430, (by decide : 9 + 1 ≤ _), (by decide : 65583 + 4 ≤ _)⟩)
  dsimp only [Pt.U, Pt.locs, Pt.cells, Pt.slots] at X433 l433 y433 z433 st433 hQ433
  obtain rfl : k433 = 10 := y433; obtain rfl : n433 = 65587 := z433
  obtain ⟨it433, rfl, N433q, E433, z433', hIt433⟩ := hQ433
  have N433 : Fr n0 L433 := by rw [l433]; exact Fr.app N430 N433q
  have e433 : T433.heap = T433.heap := rfl
  have KP433 := Keep.ext KP430 E433
  have sz_it433 : h0.size ≤ it433 := Nat.le_trans KP430.1 z433'
  have gn_it433 : n0 ≤ it433 := Nat.le_trans Z0 sz_it433
  have na_it433 : a1 ≠ it433 := Nat.ne_of_lt (Nat.lt_of_lt_of_le E_a.lt sz_it433)
  have ne_b374_it433 : b374 ≠ it433 := Nat.ne_of_lt (Nat.lt_of_lt_of_le Fx431.lt z433')
  obtain ⟨cq434, kq434, q434a, q434b, q434c⟩ := isOf hZ e433 ((hIt433).1)
  obtain ⟨_, _, ⟨T434, L434, k434, n434⟩, -, X434, ⟨Lc434, hQ434, l434, y434, z434⟩, st434⟩ := X433.interfaceBack hx (xi := (⟨"java/util/Iterator", "hasNext", "()Z"⟩ : MethodName)) (y := (⟨"java/util/ArrayList$Itr", "hasNext", "()Z"⟩ : MethodName)) hown (mvT hZ (own_q hw 122 rfl)) (mvT hZ (own_q hw 123 rfl)) (mvT hZ (own_q hw 124 rfl)) (mvT hZ (own_q hw 125 rfl)) (mvT hZ (own_q hw 126 rfl)) (mvT hZ (own_q hw 127 rfl)) (mvT hZ (own_q hw 128 rfl)) (mvT hZ (own_q hw 129 rfl)) (by decide) (backOf (W := 0) (rm_hn l Z a0 hw [] it433 T433.heap n0 (Nat.le_trans Z0 KP433.1) fl _ _ _ _ hIt433 ((hFl.keep KP433 (ninS nf nin0))).2.2.1 (1 : Int32) (by decide)) hZ (own_q hw 130 rfl) (own_q hw 108 rfl) (by decide) (by decide)) q434a q434b q434c (g := (mkF m 108 #[.val (.ref a1), .val (.long x), .second, .val (.ref fl), .val (.ref us), .val (.ref it433), .unset, .unset] [(.ref it433)])) rfl (by rw [hml]; rfl) (Steps.refl _) (argsL := []) (rest := []) (lenOf pd_340 rfl) rfl (by show 2 * 0 + _ ≤ _; exact Nat.le_of_eq rfl) (hb hby d5_108) (fun _ _ => ⟨rfl, e433, (by decide : 10 + 0 ≤ _), (by decide : 65587 + 0 ≤ _)⟩)
  dsimp only [Pt.U, Pt.locs, Pt.cells, Pt.slots] at X434 l434 y434 z434 st434 hQ434
  obtain rfl : k434 = 10 := y434; obtain rfl : n434 = 65587 := z434
  obtain ⟨rfl, N434q, e434⟩ := hQ434
  have N434 : Fr n0 L434 := by rw [l434]; exact Fr.app N433 N434q
  obtain ⟨cq435, kq435, q435a, q435b, q435c⟩ := isOf hZ e434 ((hIt433).1)
  obtain ⟨_, _, ⟨T435, L435, k435, n435⟩, -, X435, ⟨Lc435, hQ435, l435, y435, z435⟩, st435⟩ := X434.interfaceBack hx (xi := (⟨"java/util/Iterator", "next", "()Ljava/lang/Object;"⟩ : MethodName)) (y := (⟨"java/util/ArrayList$Itr", "next", "()Ljava/lang/Object;"⟩ : MethodName)) hown (mvT hZ (own_q hw 220 rfl)) (mvT hZ (own_q hw 221 rfl)) (mvT hZ (own_q hw 222 rfl)) (mvT hZ (own_q hw 223 rfl)) (mvT hZ (own_q hw 224 rfl)) (mvT hZ (own_q hw 225 rfl)) (mvT hZ (own_q hw 226 rfl)) (mvT hZ (own_q hw 129 rfl)) (by decide) (backOf (W := 0) (rm_nx_0_2 l Z a0 hw [] it433 T433.heap n0 (Nat.le_trans Z0 KP433.1) fl ed x0 x1 kE _ _ hIt433 (hFl.keep KP433 (ninS nf nin0)) (A_E.keep KP433 (ninS nd nin0)) (Nat.ne_of_lt (Nat.lt_of_lt_of_le hFl.1.lt sz_it433)) (Nat.ne_of_lt (Nat.lt_of_lt_of_le A_E.lt sz_it433)) gn_it433) hZ (own_q hw 227 rfl) (own_q hw 108 rfl) (by decide) (by decide)) q435a q435b q435c (g := (mkF m 118 #[.val (.ref a1), .val (.long x), .second, .val (.ref fl), .val (.ref us), .val (.ref it433), .unset, .unset] [(.ref it433)])) rfl (by rw [hml]; rfl) (Steps.refl _) (argsL := []) (rest := []) (lenOf pd_357 rfl) rfl (by show 2 * 0 + _ ≤ _; exact Nat.le_of_eq rfl) (hb hby d5_118) (fun _ _ => ⟨rfl, e434, (by decide : 10 + 0 ≤ _), (by decide : 65587 + 0 ≤ _)⟩)
  dsimp only [Pt.U, Pt.locs, Pt.cells, Pt.slots] at X435 l435 y435 z435 st435 hQ435
  obtain rfl : k435 = 10 := y435; obtain rfl : n435 = 65587 := z435
  obtain ⟨rfl, N435q, K435, hIt435⟩ := hQ435
  have N435 : Fr n0 L435 := by rw [l435]; exact Fr.app N434 N435q
  have e435 : T435.heap = T435.heap := rfl
  have KP435 := Keep.trans KP433 K435 (allS (Or.inr sz_it433) all0)
  obtain ⟨T436, X436, e436, st436⟩ := castY X435 hx hZ hown (own_q hw 234 rfl) e435 (Ins.self ((hX0.keep KP435 (ninS nx0 nin0))).1) (g := (mkF m 123 #[.val (.ref a1), .val (.long x), .second, .val (.ref fl), .val (.ref us), .val (.ref it433), .unset, .unset] [(.ref x0)])) rfl rfl (hb hby d5_123)
  obtain ⟨cq437, kq437, q437a, q437b, q437c⟩ := isOf hZ e436 (((hX0.keep KP435 (ninS nx0 nin0))).1)
  obtain ⟨_, _, ⟨T437, L437, k437, n437⟩, -, X437, ⟨Lc437, hQ437, l437, y437, z437⟩, st437⟩ := X436.virtualBack hx (y := (⟨"com/example/parley/parley/floor/FloorSettings", "id", "()I"⟩ : MethodName)) (z := (⟨"com/example/parley/parley/floor/FloorSettings", "id", "()I"⟩ : MethodName)) hown (mvT hZ (own_q hw 235 rfl)) (mvT hZ (own_q hw 236 rfl)) (notFace_of_selects (args := #[]) (mvT hZ (own_q hw 238 rfl))) (mvT hZ (own_q hw 238 rfl)) (mvT hZ (own_q hw 237 rfl)) (by decide) (backOf (W := 1) (rm_id l Z a0 hw [] x0 T435.heap n0 (Nat.le_trans Z0 KP435.1) f1 oe (hX0.keep KP435 (ninS nx0 nin0))) hZ (own_q hw 239 rfl) (own_q hw 143 rfl) (by decide) (by decide)) q437a q437c (g := (mkF m 131 #[.val (.ref a1), .val (.long x), .second, .val (.ref fl), .val (.ref us), .val (.ref it433), .val (.ref x0), .unset] [(.ref x0), (.ref a1)])) rfl (by rw [hml]; rfl) (Steps.refl _) (argsL := []) (rest := [(.ref a1)]) (lenOf pd_363 rfl) rfl (by show 2 * 0 + _ ≤ _; exact Nat.le_of_eq rfl) (hb hby d5_131) (fun _ _ => ⟨rfl, e436, (by decide : 10 + 0 ≤ _), (by decide : 65587 + 0 ≤ _)⟩)
  dsimp only [Pt.U, Pt.locs, Pt.cells, Pt.slots] at X437 l437 y437 z437 st437 hQ437
  obtain rfl : k437 = 10 := y437; obtain rfl : n437 = 65587 := z437
  obtain ⟨rfl, N437q, e437⟩ := hQ437
  have N437 : Fr n0 L437 := by rw [l437]; exact Fr.app N435 N437q
  have Fx438 := ((Fx431.ext E433).keep K435 (ninS ne_b374_it433 nin0))
  have Fx439 := ((((((((((((((((((((((((Fw377.ext E380).keep K381 (ninS ne_a1_b380 nin0)).other W384 (Or.inr (slot_ne (Or.inr (own_q hw 39 rfl)) (Or.inr (own_q hw 57 rfl)) (by decide) (t := (.array (.object "com/example/parley/parley/floor/Conference$Floor"))) (t' := (.object "java/util/Map")) (by decide) (by decide)))).ext E387).keep K388 (ninS ne_a1_b387 nin0)).other W391 (Or.inr (slot_ne (Or.inr (own_q hw 39 rfl)) (Or.inr (own_q hw 78 rfl)) (by decide) (t := (.array (.object "com/example/parley/parley/floor/Conference$Floor"))) (t' := (.object "java/util/Set")) (by decide) (by decide)))).ext E394).keep K395 (ninS ne_a1_b394 nin0)).other W398 (Or.inr (slot_ne (Or.inr (own_q hw 39 rfl)) (Or.inr (own_q hw 80 rfl)) (by decide) (t := (.array (.object "com/example/parley/parley/floor/Conference$Floor"))) (t' := (.object "java/util/Map")) (by decide) (by decide)))).ext E401).keep K402 (ninS ne_a1_b401 nin0)).other W405 (Or.inr (slot_ne (Or.inr (own_q hw 39 rfl)) (Or.inr (own_q hw 82 rfl)) (by decide) (t := (.array (.object "com/example/parley/parley/floor/Conference$Floor"))) (t' := (.object "java/util/Map")) (by decide) (by decide)))).ext E408).keep K409 (ninS ne_a1_b408 nin0)).other W412 (Or.inr (slot_ne (Or.inr (own_q hw 39 rfl)) (Or.inr (own_q hw 84 rfl)) (by decide) (t := (.array (.object "com/example/parley/parley/floor/Conference$Floor"))) (t' := (.object "java/util/Map")) (by decide) (by decide)))).ext E415).keep K416 (ninS ne_a1_b415 nin0)).other W419 (Or.inr (slot_ne (Or.inr (own_q hw 39 rfl)) (Or.inr (own_q hw 88 rfl)) (by decide) (t := (.array (.object "com/example/parley/parley/floor/Conference$Floor"))) (t' := (.object "java/util/List")) (by decide) (by decide)))).ext E422).keep K423 (ninS ne_a1_b422 nin0)).other W426 (Or.inr (slot_ne (Or.inr (own_q hw 39 rfl)) (Or.inr (own_q hw 90 rfl)) (by decide) (t := (.array (.object "com/example/parley/parley/floor/Conference$Floor"))) (t' := (.object "java/util/List")) (by decide) (by decide)))).other W430 (Or.inr (slot_ne (Or.inr (own_q hw 39 rfl)) (Or.inr (own_q hw 96 rfl)) (by decide) (t := (.array (.object "com/example/parley/parley/floor/Conference$Floor"))) (t' := .long) (by decide) (by decide)))).ext E433).keep K435 (ninS na_it433 nin0))
  have Fx440 := ((Fx432.ext E433).keep K435)
  obtain ⟨cq441, kq441, q441a, q441b, q441c⟩ := isOf hZ e437 (Fx440)
  obtain ⟨_, _, ⟨T441, L441, k441, n441⟩, -, X441, ⟨Lc441, hQ441, l441, y441, z441⟩, st441⟩ := X437.virtualBack hx (y := (⟨"com/example/parley/parley/floor/Conference", "hasFloor", "(I)Z"⟩ : MethodName)) (z := (⟨"com/example/parley/parley/floor/Conference", "hasFloor", "(I)Z"⟩ : MethodName)) hown (mvT hZ (own_q hw 240 rfl)) (mvT hZ (own_q hw 136 rfl)) (notFace_of_selects (args := #[]) (mvT hZ (own_q hw 138 rfl))) (mvT hZ (own_q hw 138 rfl)) (mvT hZ (own_q hw 137 rfl)) (by decide) (backOf (W := 0) (rm_hf l Z a0 hw [] a1 f1 T435.heap n0 (Nat.le_trans Z0 KP435.1) b374 k374 [] Fx439 Fx438 .null (fun _ _ => rfl) (Or.inl rfl) (0 : Int32) ⟨fun _ => rfl, fun _ => rfl, fun _ _ _ => rfl, fun _ _ z => absurd rfl z⟩) hZ (own_q hw 139 rfl) (own_q hw 29 rfl) (by decide) (by decide)) q441a q441c (g := (mkF m 134 #[.val (.ref a1), .val (.long x), .second, .val (.ref fl), .val (.ref us), .val (.ref it433), .val (.ref x0), .unset] [(.int f1), (.ref a1)])) rfl (by rw [hml]; rfl) (Steps.refl _) (argsL := [(.int f1)]) (rest := []) (lenOf pd_365 rfl) rfl (by show 2 * 0 + _ ≤ _; exact Nat.le_of_eq rfl) (hb hby d5_134) (fun _ _ => ⟨rfl, e437, (by decide : 10 + 0 ≤ _), (by decide : 65587 + 0 ≤ _)⟩)
  dsimp only [Pt.U, Pt.locs, Pt.cells, Pt.slots] at X441 l441 y441 z441 st441 hQ441
  obtain rfl : k441 = 10 := y441; obtain rfl : n441 = 65587 := z441
  obtain ⟨rfl, N441q, e441⟩ := hQ441
  have N441 : Fr n0 L441 := by rw [l441]; exact Fr.app N437 N441q
  obtain ⟨T442, X442, e442, st442⟩ := getF X441 hx hZ hown (host := "") (Or.inl (own_q hw 38 rfl)) Via.refl e441 Fx439 (g := (mkF m 159 #[.val (.ref a1), .val (.long x), .second, .val (.ref fl), .val (.ref us), .val (.ref it433), .val (.ref x0), .unset] [(.ref a1)])) rfl rfl (hb hby d5_159)
  obtain ⟨cq443, kq443, q443a, q443b, q443c⟩ := isOf hZ e442 (((hX0.keep KP435 (ninS nx0 nin0))).1)
  obtain ⟨_, _, ⟨T443, L443, k443, n443⟩, -, X443, ⟨Lc443, hQ443, l443, y443, z443⟩, st443⟩ := X442.virtualBack hx (y := (⟨"com/example/parley/parley/floor/FloorSettings", "id", "()I"⟩ : MethodName)) (z := (⟨"com/example/parley/parley/floor/FloorSettings", "id", "()I"⟩ : MethodName)) hown (mvT hZ (own_q hw 235 rfl)) (mvT hZ (own_q hw 236 rfl)) (notFace_of_selects (args := #[]) (mvT hZ (own_q hw 238 rfl))) (mvT hZ (own_q hw 238 rfl)) (mvT hZ (own_q hw 237 rfl)) (by decide) (backOf (W := 1) (rm_id l Z a0 hw [] x0 T435.heap n0 (Nat.le_trans Z0 KP435.1) f1 oe (hX0.keep KP435 (ninS nx0 nin0))) hZ (own_q hw 239 rfl) (own_q hw 143 rfl) (by decide) (by decide)) q443a q443c (g := (mkF m 164 #[.val (.ref a1), .val (.long x), .second, .val (.ref fl), .val (.ref us), .val (.ref it433), .val (.ref x0), .unset] [(.ref x0), (.ref b374)])) rfl (by rw [hml]; rfl) (Steps.refl _) (argsL := []) (rest := [(.ref b374)]) (lenOf pd_363 rfl) rfl (by show 2 * 0 + _ ≤ _; exact Nat.le_of_eq rfl) (hb hby d5_164) (fun _ _ => ⟨rfl, e442, (by decide : 10 + 0 ≤ _), (by decide : 65587 + 0 ≤ _)⟩)
  dsimp only [Pt.U, Pt.locs, Pt.cells, Pt.slots] at X443 l443 y443 z443 st443 hQ443
  obtain rfl : k443 = 10 := y443; obtain rfl : n443 = 65587 := z443
  obtain ⟨rfl, N443q, e443⟩ := hQ443
  have N443 : Fr n0 L443 := by rw [l443]; exact Fr.app N441 N443q
  obtain ⟨T444, h444, X444, e444, E444, A444, D444, -, st444⟩ := newO X443 hx hZ hown (own_q hw 36 rfl) (own_q hw 241 rfl) (own_q hw 242 rfl) e443 (g := (mkF m 167 #[.val (.ref a1), .val (.long x), .second, .val (.ref fl), .val (.ref us), .val (.ref it433), .val (.ref x0), .unset] [(.int f1), (.ref b374)])) rfl (hb hby d5_167) (by decide) (by decide)
  obtain ⟨b444, g444⟩ : ∃ z, z = T435.heap.size := ⟨_, rfl⟩
  rw [← g444] at A444 D444 st444
  have sz_b444 : h0.size ≤ b444 := Nat.le_trans KP435.1 (Nat.le_of_eq g444.symm)
  have gn_b444 : n0 ≤ b444 := Nat.le_trans Z0 sz_b444
  have ne_b374_b444 : b374 ≠ b444 := Nat.ne_of_lt (Nat.lt_of_lt_of_le Fx438.lt (Nat.le_of_eq g444.symm))
  have ne_it433_b444 : it433 ≠ b444 := Nat.ne_of_lt (Nat.lt_of_lt_of_le hIt435.lt (Nat.le_of_eq g444.symm))
  have ne_a1_b444 : a1 ≠ b444 := Nat.ne_of_lt (Nat.lt_of_lt_of_le Fx440.lt (Nat.le_of_eq g444.symm))
  have KP444 := Keep.ext KP435 E444
  have F444_queue : Fld Z h444 b444 "com/example/parley/parley/floor/Conference$Floor" "queue" "Ljava/util/List;" .null := D444 (Or.inr (own_q hw 250 rfl)) (ty := (.object "java/util/List")) (by decide)
  have F444_pending : Fld Z h444 b444 "com/example/parley/parley/floor/Conference$Floor" "pending" "Ljava/util/List;" .null := D444 (Or.inr (own_q hw 252 rfl)) (ty := (.object "java/util/List")) (by decide)
  have F444_settings : Fld Z h444 b444 "com/example/parley/parley/floor/Conference$Floor" "settings" "Lcom/example/parley/parley/floor/FloorSettings;" .null := D444 (Or.inr (own_q hw 254 rfl)) (ty := (.object "com/example/parley/parley/floor/FloorSettings")) (by decide)
  obtain ⟨_, _, ⟨T445, L445, k445, n445⟩, -, X445, ⟨Lc445, hQ445, l445, y445, z445⟩, st445⟩ := X444.specialBack hx (y := (⟨"com/example/parley/parley/floor/Conference$Floor", "<init>", "(Lcom/example/parley/parley/floor/FloorSettings;)V"⟩ : MethodName)) rfl hown (mvT hZ (own_q hw 243 rfl)) (mvT hZ (own_q hw 244 rfl)) (mvT hZ (own_q hw 245 rfl)) (by decide) (backOf (W := 3) (rm_fli l Z a0 hw [] b444 x0 h444 n0 (Nat.le_trans Z0 KP444.1) A444 F444_queue F444_pending F444_settings gn_b444 hS hn (own_ext_keep hEx KP444 (allS (Nat.le_trans hn gn_a) all0)) dE oe kD hWd) hZ (own_q hw 245 rfl) (own_q hw 242 rfl) (by decide) (by decide)) (g := (mkF m 173 #[.val (.ref a1), .val (.long x), .second, .val (.ref fl), .val (.ref us), .val (.ref it433), .val (.ref x0), .unset] [(.ref x0), (.ref b444), (.ref b444), (.int f1), (.ref b374)])) rfl (by rw [hml]; rfl) (Steps.refl _) (a := b444) (argsL := [(.ref x0)]) (rest := [(.ref b444), (.int f1), (.ref b374)]) (lenOf pd_375 rfl) rfl (by show 2 * 0 + _ ≤ _; exact Nat.le_of_eq rfl) (hb hby d5_173) (fun _ _ => ⟨rfl, e444, (by decide : 11 + 2 ≤ _), (by decide : 65591 + 6 ≤ _)⟩)
  dsimp only [Pt.U, Pt.locs, Pt.cells, Pt.slots] at X445 l445 y445 z445 st445 hQ445
  obtain rfl : k445 = 13 := y445; obtain rfl : n445 = 65597 := z445
  obtain ⟨rfl, N445q, K445⟩ := hQ445
  have N445 : Fr n0 L445 := by rw [l445]; exact Fr.app N443 N445q
  have e445 : T445.heap = T445.heap := rfl
  have KP445 := Keep.trans KP444 K445 (allS (Or.inr sz_b444) all0)
  have Fx446 := ((Fx438.ext E444).keep K445 (ninS ne_b374_b444 nin0))
  have Vc447 := Fx446
  obtain ⟨cl447, Ar447, q447, S447, N447_, H447_, G447⟩ := Vc447
  have hin447 : ¬ (f1 < 0 ∨ cl447.slots.size ≤ (f1).toNatClampNeg) := inb_of S447 ⟨(own_r16 hf1).1, (own_r16 hf1).2.2⟩
  have Fx448 := (A444.keep K445)
  obtain ⟨T449, h449, X449, e449, W449, st449⟩ := stR X445 hx hZ e445 Ar447 (j := f1) hin447 rfl (Sto.ofV Ar447 q447 O374 (Ins.self Fx448)) (g := (mkF m 176 #[.val (.ref a1), .val (.long x), .second, .val (.ref fl), .val (.ref us), .val (.ref it433), .val (.ref x0), .unset] [(.ref b444), (.int f1), (.ref b374)])) rfl rfl (hb hby d5_176)
  have KP449 := Keep.wr KP445 W449 (Or.inr sz_b374)
  have V449 : Arh Z h449 b374 k374 (.object "com/example/parley/parley/floor/Conference$Floor") (65536 : Int32) [(f1, (.ref b444))] [] .null := Arh.push Ar447 q447 S447 N447_ H447_ G447 rfl W449 hin447
  have N449 := Fr.snoc X449 N445 gn_b374
  have Fx450 := (((hIt435.ext E444).keep K445 (ninS ne_it433_b444 nin0)).other W449 (Ne.symm ne_b374_it433))
  obtain ⟨cq451, kq451, q451a, q451b, q451c⟩ := isOf hZ e449 ((Fx450).1)
  obtain ⟨_, _, ⟨T451, L451, k451, n451⟩, -, X451, ⟨Lc451, hQ451, l451, y451, z451⟩, st451⟩ := X449.interfaceBack hx (xi := (⟨"java/util/Iterator", "hasNext", "()Z"⟩ : MethodName)) (y := (⟨"java/util/ArrayList$Itr", "hasNext", "()Z"⟩ : MethodName)) hown (mvT hZ (own_q hw 122 rfl)) (mvT hZ (own_q hw 123 rfl)) (mvT hZ (own_q hw 124 rfl)) (mvT hZ (own_q hw 125 rfl)) (mvT hZ (own_q hw 126 rfl)) (mvT hZ (own_q hw 127 rfl)) (mvT hZ (own_q hw 128 rfl)) (mvT hZ (own_q hw 129 rfl)) (by decide) (backOf (W := 0) (rm_hn l Z a0 hw [] it433 h449 n0 (Nat.le_trans Z0 KP449.1) fl _ _ _ _ Fx450 ((hFl.keep KP449 (ninS nf nin0))).2.2.1 (1 : Int32) (by decide)) hZ (own_q hw 130 rfl) (own_q hw 108 rfl) (by decide) (by decide)) q451a q451b q451c (g := (mkF m 108 #[.val (.ref a1), .val (.long x), .second, .val (.ref fl), .val (.ref us), .val (.ref it433), .val (.ref x0), .unset] [(.ref it433)])) rfl (by rw [hml]; rfl) (Steps.refl _) (argsL := []) (rest := []) (lenOf pd_340 rfl) rfl (by show 2 * 0 + _ ≤ _; exact Nat.le_of_eq rfl) (hb hby d5_108) (fun _ _ => ⟨rfl, e449, (by decide : 13 + 0 ≤ _), (by decide : 65597 + 0 ≤ _)⟩)
  dsimp only [Pt.U, Pt.locs, Pt.cells, Pt.slots] at X451 l451 y451 z451 st451 hQ451
  obtain rfl : k451 = 13 := y451; obtain rfl : n451 = 65597 := z451
  obtain ⟨rfl, N451q, e451⟩ := hQ451
  have N451 : Fr n0 L451 := by rw [l451]; exact Fr.app N449 N451q
  obtain ⟨cq452, kq452, q452a, q452b, q452c⟩ := isOf hZ e451 ((Fx450).1)
  obtain ⟨_, _, ⟨T452, L452, k452, n452⟩, -, X452, ⟨Lc452, hQ452, l452, y452, z452⟩, st452⟩ := X451.interfaceBack hx (xi := (⟨"java/util/Iterator", "next", "()Ljava/lang/Object;"⟩ : MethodName)) (y := (⟨"java/util/ArrayList$Itr", "next", "()Ljava/lang/Object;"⟩ : MethodName)) hown (mvT hZ (own_q hw 220 rfl)) (mvT hZ (own_q hw 221 rfl)) (mvT hZ (own_q hw 222 rfl)) (mvT hZ (own_q hw 223 rfl)) (mvT hZ (own_q hw 224 rfl)) (mvT hZ (own_q hw 225 rfl)) (mvT hZ (own_q hw 226 rfl)) (mvT hZ (own_q hw 129 rfl)) (by decide) (backOf (W := 0) (rm_nx_1_2 l Z a0 hw [] it433 h449 n0 (Nat.le_trans Z0 KP449.1) fl ed x0 x1 kE _ _ Fx450 (hFl.keep KP449 (ninS nf nin0)) (A_E.keep KP449 (ninS nd nin0)) (Nat.ne_of_lt (Nat.lt_of_lt_of_le hFl.1.lt sz_it433)) (Nat.ne_of_lt (Nat.lt_of_lt_of_le A_E.lt sz_it433)) gn_it433) hZ (own_q hw 227 rfl) (own_q hw 108 rfl) (by decide) (by decide)) q452a q452b q452c (g := (mkF m 118 #[.val (.ref a1), .val (.long x), .second, .val (.ref fl), .val (.ref us), .val (.ref it433), .val (.ref x0), .unset] [(.ref it433)])) rfl (by rw [hml]; rfl) (Steps.refl _) (argsL := []) (rest := []) (lenOf pd_357 rfl) rfl (by show 2 * 0 + _ ≤ _; exact Nat.le_of_eq rfl) (hb hby d5_118) (fun _ _ => ⟨rfl, e451, (by decide : 13 + 0 ≤ _), (by decide : 65597 + 0 ≤ _)⟩)
  dsimp only [Pt.U, Pt.locs, Pt.cells, Pt.slots] at X452 l452 y452 z452 st452 hQ452
  obtain rfl : k452 = 13 := y452; obtain rfl : n452 = 65597 := z452
  obtain ⟨rfl, N452q, K452, hIt452⟩ := hQ452
  have N452 : Fr n0 L452 := by rw [l452]; exact Fr.app N451 N452q
  have e452 : T452.heap = T452.heap := rfl
  have KP452 := Keep.trans KP449 K452 (allS (Or.inr sz_it433) all0)
  obtain ⟨T453, X453, e453, st453⟩ := castY X452 hx hZ hown (own_q hw 234 rfl) e452 (Ins.self ((hX1.keep KP452 (ninS nx1 nin0))).1) (g := (mkF m 123 #[.val (.ref a1), .val (.long x), .second, .val (.ref fl), .val (.ref us), .val (.ref it433), .val (.ref x0), .unset] [(.ref x1)])) rfl rfl (hb hby d5_123)
  obtain ⟨cq454, kq454, q454a, q454b, q454c⟩ := isOf hZ e453 (((hX1.keep KP452 (ninS nx1 nin0))).1)
  obtain ⟨_, _, ⟨T454, L454, k454, n454⟩, -, X454, ⟨Lc454, hQ454, l454, y454, z454⟩, st454⟩ := X453.virtualBack hx (y := (⟨"com/example/parley/parley/floor/FloorSettings", "id", "()I"⟩ : MethodName)) (z := (⟨"com/example/parley/parley/floor/FloorSettings", "id", "()I"⟩ : MethodName)) hown (mvT hZ (own_q hw 235 rfl)) (mvT hZ (own_q hw 236 rfl)) (notFace_of_selects (args := #[]) (mvT hZ (own_q hw 238 rfl))) (mvT hZ (own_q hw 238 rfl)) (mvT hZ (own_q hw 237 rfl)) (by decide) (backOf (W := 1) (rm_id l Z a0 hw [] x1 T452.heap n0 (Nat.le_trans Z0 KP452.1) f2 oe (hX1.keep KP452 (ninS nx1 nin0))) hZ (own_q hw 239 rfl) (own_q hw 143 rfl) (by decide) (by decide)) q454a q454c (g := (mkF m 131 #[.val (.ref a1), .val (.long x), .second, .val (.ref fl), .val (.ref us), .val (.ref it433), .val (.ref x1), .unset] [(.ref x1), (.ref a1)])) rfl (by rw [hml]; rfl) (Steps.refl _) (argsL := []) (rest := [(.ref a1)]) (lenOf pd_363 rfl) rfl (by show 2 * 0 + _ ≤ _; exact Nat.le_of_eq rfl) (hb hby d5_131) (fun _ _ => ⟨rfl, e453, (by decide : 13 + 0 ≤ _), (by decide : 65597 + 0 ≤ _)⟩)
  dsimp only [Pt.U, Pt.locs, Pt.cells, Pt.slots] at X454 l454 y454 z454 st454 hQ454
  obtain rfl : k454 = 13 := y454; obtain rfl : n454 = 65597 := z454
  obtain ⟨rfl, N454q, e454⟩ := hQ454
  have N454 : Fr n0 L454 := by rw [l454]; exact Fr.app N452 N454q
  have Fx455 := (V449.keep K452 (ninS ne_b374_it433 nin0))
  have Fx456 := ((((Fx439.ext E444).keep K445 (ninS ne_a1_b444 nin0)).other W449 (Or.inl ne_a1_b374)).keep K452 (ninS na_it433 nin0))
  have Fx457 := ((((Fx440.ext E444).keep K445).wr W449).keep K452)
  obtain ⟨cq458, kq458, q458a, q458b, q458c⟩ := isOf hZ e454 (Fx457)
  obtain ⟨_, _, ⟨T458, L458, k458, n458⟩, -, X458, ⟨Lc458, hQ458, l458, y458, z458⟩, st458⟩ := X454.virtualBack hx (y := (⟨"com/example/parley/parley/floor/Conference", "hasFloor", "(I)Z"⟩ : MethodName)) (z := (⟨"com/example/parley/parley/floor/Conference", "hasFloor", "(I)Z"⟩ : MethodName)) hown (mvT hZ (own_q hw 240 rfl)) (mvT hZ (own_q hw 136 rfl)) (notFace_of_selects (args := #[]) (mvT hZ (own_q hw 138 rfl))) (mvT hZ (own_q hw 138 rfl)) (mvT hZ (own_q hw 137 rfl)) (by decide) (backOf (W := 0) (rm_hf l Z a0 hw [] a1 f2 T452.heap n0 (Nat.le_trans Z0 KP452.1) b374 k374 [(f1, (.ref b444))] Fx456 Fx455 .null (fun z _ => (own_gHs z hne).trans rfl) (Or.inl rfl) (0 : Int32) ⟨fun _ => rfl, fun _ => rfl, fun _ _ _ => rfl, fun _ _ z => absurd rfl z⟩) hZ (own_q hw 139 rfl) (own_q hw 29 rfl) (by decide) (by decide)) q458a q458c (g := (mkF m 134 #[.val (.ref a1), .val (.long x), .second, .val (.ref fl), .val (.ref us), .val (.ref it433), .val (.ref x1), .unset] [(.int f2), (.ref a1)])) rfl (by rw [hml]; rfl) (Steps.refl _) (argsL := [(.int f2)]) (rest := []) (lenOf pd_365 rfl) rfl (by show 2 * 0 + _ ≤ _; exact Nat.le_of_eq rfl) (hb hby d5_134) (fun _ _ => ⟨rfl, e454, (by decide : 13 + 0 ≤ _), (by decide : 65597 + 0 ≤ _)⟩)
  dsimp only [Pt.U, Pt.locs, Pt.cells, Pt.slots] at X458 l458 y458 z458 st458 hQ458
  obtain rfl : k458 = 13 := y458; obtain rfl : n458 = 65597 := z458
  obtain ⟨rfl, N458q, e458⟩ := hQ458
  have N458 : Fr n0 L458 := by rw [l458]; exact Fr.app N454 N458q
  obtain ⟨T459, X459, e459, st459⟩ := getF X458 hx hZ hown (host := "") (Or.inl (own_q hw 38 rfl)) Via.refl e458 Fx456 (g := (mkF m 159 #[.val (.ref a1), .val (.long x), .second, .val (.ref fl), .val (.ref us), .val (.ref it433), .val (.ref x1), .unset] [(.ref a1)])) rfl rfl (hb hby d5_159)
  obtain ⟨cq460, kq460, q460a, q460b, q460c⟩ := isOf hZ e459 (((hX1.keep KP452 (ninS nx1 nin0))).1)
  obtain ⟨_, _, ⟨T460, L460, k460, n460⟩, -, X460, ⟨Lc460, hQ460, l460, y460, z460⟩, st460⟩ := X459.virtualBack hx (y := (⟨"com/example/parley/parley/floor/FloorSettings", "id", "()I"⟩ : MethodName)) (z := (⟨"com/example/parley/parley/floor/FloorSettings", "id", "()I"⟩ : MethodName)) hown (mvT hZ (own_q hw 235 rfl)) (mvT hZ (own_q hw 236 rfl)) (notFace_of_selects (args := #[]) (mvT hZ (own_q hw 238 rfl))) (mvT hZ (own_q hw 238 rfl)) (mvT hZ (own_q hw 237 rfl)) (by decide) (backOf (W := 1) (rm_id l Z a0 hw [] x1 T452.heap n0 (Nat.le_trans Z0 KP452.1) f2 oe (hX1.keep KP452 (ninS nx1 nin0))) hZ (own_q hw 239 rfl) (own_q hw 143 rfl) (by decide) (by decide)) q460a q460c (g := (mkF m 164 #[.val (.ref a1), .val (.long x), .second, .val (.ref fl), .val (.ref us), .val (.ref it433), .val (.ref x1), .unset] [(.ref x1), (.ref b374)])) rfl (by rw [hml]; rfl) (Steps.refl _) (argsL := []) (rest := [(.ref b374)]) (lenOf pd_363 rfl) rfl (by show 2 * 0 + _ ≤ _; exact Nat.le_of_eq rfl) (hb hby d5_164) (fun _ _ => ⟨rfl, e459, (by decide : 13 + 0 ≤ _), (by decide : 65597 + 0 ≤ _)⟩)
  dsimp only [Pt.U, Pt.locs, Pt.cells, Pt.slots] at X460 l460 y460 z460 st460 hQ460
  obtain rfl : k460 = 13 := y460; obtain rfl : n460 = 65597 := z460
  obtain ⟨rfl, N460q, e460⟩ := hQ460
  have N460 : Fr n0 L460 := by rw [l460]; exact Fr.app N458 N460q
  have Fx461 := ((Fx448.wr W449).keep K452)
  obtain ⟨T462, h462, X462, e462, E462, A462, D462, -, st462⟩ := newO X460 hx hZ hown (own_q hw 36 rfl) (own_q hw 241 rfl) (own_q hw 242 rfl) e460 (g := (mkF m 167 #[.val (.ref a1), .val (.long x), .second, .val (.ref fl), .val (.ref us), .val (.ref it433), .val (.ref x1), .unset] [(.int f2), (.ref b374)])) rfl (hb hby d5_167) (by decide) (by decide)
  obtain ⟨b462, g462⟩ : ∃ z, z = T452.heap.size := ⟨_, rfl⟩
  rw [← g462] at A462 D462 st462
  have sz_b462 : h0.size ≤ b462 := Nat.le_trans KP452.1 (Nat.le_of_eq g462.symm)
  have gn_b462 : n0 ≤ b462 := Nat.le_trans Z0 sz_b462
  have ne_b374_b462 : b374 ≠ b462 := Nat.ne_of_lt (Nat.lt_of_lt_of_le Fx455.lt (Nat.le_of_eq g462.symm))
  have ne_it433_b462 : it433 ≠ b462 := Nat.ne_of_lt (Nat.lt_of_lt_of_le hIt452.lt (Nat.le_of_eq g462.symm))
  have ne_b444_b462 : b444 ≠ b462 := Nat.ne_of_lt (Nat.lt_of_lt_of_le Fx461.lt (Nat.le_of_eq g462.symm))
  have ne_a1_b462 : a1 ≠ b462 := Nat.ne_of_lt (Nat.lt_of_lt_of_le Fx457.lt (Nat.le_of_eq g462.symm))
  have KP462 := Keep.ext KP452 E462
  have F462_queue : Fld Z h462 b462 "com/example/parley/parley/floor/Conference$Floor" "queue" "Ljava/util/List;" .null := D462 (Or.inr (own_q hw 250 rfl)) (ty := (.object "java/util/List")) (by decide)
  have F462_pending : Fld Z h462 b462 "com/example/parley/parley/floor/Conference$Floor" "pending" "Ljava/util/List;" .null := D462 (Or.inr (own_q hw 252 rfl)) (ty := (.object "java/util/List")) (by decide)
  have F462_settings : Fld Z h462 b462 "com/example/parley/parley/floor/Conference$Floor" "settings" "Lcom/example/parley/parley/floor/FloorSettings;" .null := D462 (Or.inr (own_q hw 254 rfl)) (ty := (.object "com/example/parley/parley/floor/FloorSettings")) (by decide)
  obtain ⟨_, _, ⟨T463, L463, k463, n463⟩, -, X463, ⟨Lc463, hQ463, l463, y463, z463⟩, st463⟩ := X462.specialBack hx (y := (⟨"com/example/parley/parley/floor/Conference$Floor", "<init>", "(Lcom/example/parley/parley/floor/FloorSettings;)V"⟩ : MethodName)) rfl hown (mvT hZ (own_q hw 243 rfl)) (mvT hZ (own_q hw 244 rfl)) (mvT hZ (own_q hw 245 rfl)) (by decide) (backOf (W := 3) (rm_fli l Z a0 hw [] b462 x1 h462 n0 (Nat.le_trans Z0 KP462.1) A462 F462_queue F462_pending F462_settings gn_b462 hS hn (own_ext_keep hEx KP462 (allS (Nat.le_trans hn gn_a) all0)) dE oe kD hWd) hZ (own_q hw 245 rfl) (own_q hw 242 rfl) (by decide) (by decide)) (g := (mkF m 173 #[.val (.ref a1), .val (.long x), .second, .val (.ref fl), .val (.ref us), .val (.ref it433), .val (.ref x1), .unset] [(.ref x1), (.ref b462), (.ref b462), (.int f2), (.ref b374)])) rfl (by rw [hml]; rfl) (Steps.refl _) (a := b462) (argsL := [(.ref x1)]) (rest := [(.ref b462), (.int f2), (.ref b374)]) (lenOf pd_375 rfl) rfl (by show 2 * 0 + _ ≤ _; exact Nat.le_of_eq rfl) (hb hby d5_173) (fun _ _ => ⟨rfl, e462, (by decide : 14 + 2 ≤ _), (by decide : 65601 + 6 ≤ _)⟩)
  dsimp only [Pt.U, Pt.locs, Pt.cells, Pt.slots] at X463 l463 y463 z463 st463 hQ463
  obtain rfl : k463 = 16 := y463; obtain rfl : n463 = 65607 := z463
  obtain ⟨rfl, N463q, K463⟩ := hQ463
  have N463 : Fr n0 L463 := by rw [l463]; exact Fr.app N460 N463q
  have e463 : T463.heap = T463.heap := rfl
  have KP463 := Keep.trans KP462 K463 (allS (Or.inr sz_b462) all0)
  have Fx464 := ((Fx455.ext E462).keep K463 (ninS ne_b374_b462 nin0))
  have Vc465 := Fx464
  obtain ⟨cl465, Ar465, q465, S465, N465_, H465_, G465⟩ := Vc465
  have hin465 : ¬ (f2 < 0 ∨ cl465.slots.size ≤ (f2).toNatClampNeg) := inb_of S465 ⟨(own_r16 hf2).1, (own_r16 hf2).2.2⟩
  have Fx466 := (A462.keep K463)
  obtain ⟨T467, h467, X467, e467, W467, st467⟩ := stR X463 hx hZ e463 Ar465 (j := f2) hin465 rfl (Sto.ofV Ar465 q465 O374 (Ins.self Fx466)) (g := (mkF m 176 #[.val (.ref a1), .val (.long x), .second, .val (.ref fl), .val (.ref us), .val (.ref it433), .val (.ref x1), .unset] [(.ref b462), (.int f2), (.ref b374)])) rfl rfl (hb hby d5_176)
  have KP467 := Keep.wr KP463 W467 (Or.inr sz_b374)
  have V467 : Arh Z h467 b374 k374 (.object "com/example/parley/parley/floor/Conference$Floor") (65536 : Int32) [(f2, (.ref b462)), (f1, (.ref b444))] [] .null := Arh.push Ar465 q465 S465 N465_ H465_ G465 rfl W467 hin465
  have N467 := Fr.snoc X467 N463 gn_b374
  have Fx468 := (((hIt452.ext E462).keep K463 (ninS ne_it433_b462 nin0)).other W467 (Ne.symm ne_b374_it433))
  obtain ⟨cq469, kq469, q469a, q469b, q469c⟩ := isOf hZ e467 ((Fx468).1)
  obtain ⟨_, _, ⟨T469, L469, k469, n469⟩, -, X469, ⟨Lc469, hQ469, l469, y469, z469⟩, st469⟩ := X467.interfaceBack hx (xi := (⟨"java/util/Iterator", "hasNext", "()Z"⟩ : MethodName)) (y := (⟨"java/util/ArrayList$Itr", "hasNext", "()Z"⟩ : MethodName)) hown (mvT hZ (own_q hw 122 rfl)) (mvT hZ (own_q hw 123 rfl)) (mvT hZ (own_q hw 124 rfl)) (mvT hZ (own_q hw 125 rfl)) (mvT hZ (own_q hw 126 rfl)) (mvT hZ (own_q hw 127 rfl)) (mvT hZ (own_q hw 128 rfl)) (mvT hZ (own_q hw 129 rfl)) (by decide) (backOf (W := 0) (rm_hn l Z a0 hw [] it433 h467 n0 (Nat.le_trans Z0 KP467.1) fl _ _ _ _ Fx468 ((hFl.keep KP467 (ninS nf nin0))).2.2.1 (0 : Int32) (by decide)) hZ (own_q hw 130 rfl) (own_q hw 108 rfl) (by decide) (by decide)) q469a q469b q469c (g := (mkF m 108 #[.val (.ref a1), .val (.long x), .second, .val (.ref fl), .val (.ref us), .val (.ref it433), .val (.ref x1), .unset] [(.ref it433)])) rfl (by rw [hml]; rfl) (Steps.refl _) (argsL := []) (rest := []) (lenOf pd_340 rfl) rfl (by show 2 * 0 + _ ≤ _; exact Nat.le_of_eq rfl) (hb hby d5_108) (fun _ _ => ⟨rfl, e467, (by decide : 16 + 0 ≤ _), (by decide : 65607 + 0 ≤ _)⟩)
  dsimp only [Pt.U, Pt.locs, Pt.cells, Pt.slots] at X469 l469 y469 z469 st469 hQ469
  obtain rfl : k469 = 16 := y469; obtain rfl : n469 = 65607 := z469
  obtain ⟨rfl, N469q, e469⟩ := hQ469
  have N469 : Fr n0 L469 := by rw [l469]; exact Fr.app N467 N469q
  have Fx470 := (((Fx461.ext E462).keep K463).wr W467)
  have Fx471 := (Fx466.wr W467)
  have Fx472 := (((Fx457.ext E462).keep K463).wr W467)
  obtain ⟨cq473, kq473, q473a, q473b, q473c⟩ := isOf hZ e469 (((hUs.keep KP467 (ninS nu nin0))).1)
  obtain ⟨_, _, ⟨T473, L473, k473, n473⟩, -, X473, ⟨Lc473, hQ473, l473, y473, z473⟩, st473⟩ := X469.interfaceBack hx (xi := (⟨"java/util/Collection", "iterator", "()Ljava/util/Iterator;"⟩ : MethodName)) (y := (⟨"java/util/ArrayList", "iterator", "()Ljava/util/Iterator;"⟩ : MethodName)) hown (mvT hZ (own_q hw 97 rfl)) (mvT hZ (own_q hw 98 rfl)) (mvT hZ (own_q hw 99 rfl)) (mvT hZ (own_q hw 100 rfl)) (mvT hZ (own_q hw 101 rfl)) (mvT hZ (own_q hw 102 rfl)) (mvT hZ (own_q hw 103 rfl)) (mvT hZ (own_q hw 104 rfl)) (by decide) (backOf (W := 0) (rm_ite l Z a0 hw [] us h467 n0 (Nat.le_trans Z0 KP467.1) (0 : Int32) ((hUs.keep KP467 (ninS nu nin0))).2.2.2) hZ (own_q hw 105 rfl) (own_q hw 3 rfl) (by decide) (by decide)) q473a q473b q473c (g := (mkF m 182 #[.val (.ref a1), .val (.long x), .second, .val (.ref fl), .val (.ref us), .val (.ref it433), .val (.ref x1), .unset] [(.ref us)])) rfl (by rw [hml]; rfl) (Steps.refl _) (argsL := []) (rest := []) (lenOf pd_336 rfl) rfl (by show 2 * 0 + _ ≤ _; exact Nat.le_of_eq rfl) (hb hby d5_182) (fun _ _ => ⟨rfl, e469, (by decide : 16 + 1 ≤ _), (by decide : 65607 + 4 ≤ _)⟩)
  dsimp only [Pt.U, Pt.locs, Pt.cells, Pt.slots] at X473 l473 y473 z473 st473 hQ473
  obtain rfl : k473 = 17 := y473; obtain rfl : n473 = 65611 := z473
  obtain ⟨it473, rfl, N473q, E473, z473', hIt473⟩ := hQ473
  have N473 : Fr n0 L473 := by rw [l473]; exact Fr.app N469 N473q
  have e473 : T473.heap = T473.heap := rfl
  have KP473 := Keep.ext KP467 E473
  have sz_it473 : h0.size ≤ it473 := Nat.le_trans KP467.1 z473'
  have gn_it473 : n0 ≤ it473 := Nat.le_trans Z0 sz_it473
  have na_it473 : a1 ≠ it473 := Nat.ne_of_lt (Nat.lt_of_lt_of_le E_a.lt sz_it473)
  have ne_b374_it473 : b374 ≠ it473 := Nat.ne_of_lt (Nat.lt_of_lt_of_le V467.lt z473')
  have ne_it433_it473 : it433 ≠ it473 := Nat.ne_of_lt (Nat.lt_of_lt_of_le Fx468.lt z473')
  have ne_b444_it473 : b444 ≠ it473 := Nat.ne_of_lt (Nat.lt_of_lt_of_le Fx470.lt z473')
  have ne_b462_it473 : b462 ≠ it473 := Nat.ne_of_lt (Nat.lt_of_lt_of_le Fx471.lt z473')
  obtain ⟨cq474, kq474, q474a, q474b, q474c⟩ := isOf hZ e473 ((hIt473).1)
  obtain ⟨_, _, ⟨T474, L474, k474, n474⟩, -, X474, ⟨Lc474, hQ474, l474, y474, z474⟩, st474⟩ := X473.interfaceBack hx (xi := (⟨"java/util/Iterator", "hasNext", "()Z"⟩ : MethodName)) (y := (⟨"java/util/ArrayList$Itr", "hasNext", "()Z"⟩ : MethodName)) hown (mvT hZ (own_q hw 122 rfl)) (mvT hZ (own_q hw 123 rfl)) (mvT hZ (own_q hw 124 rfl)) (mvT hZ (own_q hw 125 rfl)) (mvT hZ (own_q hw 126 rfl)) (mvT hZ (own_q hw 127 rfl)) (mvT hZ (own_q hw 128 rfl)) (mvT hZ (own_q hw 129 rfl)) (by decide) (backOf (W := 0) (rm_hn l Z a0 hw [] it473 T473.heap n0 (Nat.le_trans Z0 KP473.1) us _ _ _ _ hIt473 ((hUs.keep KP473 (ninS nu nin0))).2.2.1 (0 : Int32) (by decide)) hZ (own_q hw 130 rfl) (own_q hw 108 rfl) (by decide) (by decide)) q474a q474b q474c (g := (mkF m 191 #[.val (.ref a1), .val (.long x), .second, .val (.ref fl), .val (.ref us), .val (.ref it473), .val (.ref x1), .unset] [(.ref it473)])) rfl (by rw [hml]; rfl) (Steps.refl _) (argsL := []) (rest := []) (lenOf pd_340 rfl) rfl (by show 2 * 0 + _ ≤ _; exact Nat.le_of_eq rfl) (hb hby d5_191) (fun _ _ => ⟨rfl, e473, (by decide : 17 + 0 ≤ _), (by decide : 65611 + 0 ≤ _)⟩)
  dsimp only [Pt.U, Pt.locs, Pt.cells, Pt.slots] at X474 l474 y474 z474 st474 hQ474
  obtain rfl : k474 = 17 := y474; obtain rfl : n474 = 65611 := z474
  obtain ⟨rfl, N474q, e474⟩ := hQ474
  have N474 : Fr n0 L474 := by rw [l474]; exact Fr.app N473 N474q
  have Fx475 := (V467.ext E473)
  have Fx476 := (Fx470.ext E473)
  have Fx477 := (Fx471.ext E473)
  have Fx478 := (Fx472.ext E473)
  obtain ⟨cq479, kq479, q479a, q479b, q479c⟩ := isOf hZ e474 (((hFl.keep KP473 (ninS nf nin0))).1)
  obtain ⟨_, _, ⟨T479, L479, k479, n479⟩, -, X479, ⟨Lc479, hQ479, l479, y479, z479⟩, st479⟩ := X474.interfaceBack hx (xi := (⟨"java/util/Collection", "iterator", "()Ljava/util/Iterator;"⟩ : MethodName)) (y := (⟨"java/util/ArrayList", "iterator", "()Ljava/util/Iterator;"⟩ : MethodName)) hown (mvT hZ (own_q hw 97 rfl)) (mvT hZ (own_q hw 98 rfl)) (mvT hZ (own_q hw 99 rfl)) (mvT hZ (own_q hw 100 rfl)) (mvT hZ (own_q hw 101 rfl)) (mvT hZ (own_q hw 102 rfl)) (mvT hZ (own_q hw 103 rfl)) (mvT hZ (own_q hw 104 rfl)) (by decide) (backOf (W := 0) (rm_ite l Z a0 hw [] fl T473.heap n0 (Nat.le_trans Z0 KP473.1) (2 : Int32) ((hFl.keep KP473 (ninS nf nin0))).2.2.2) hZ (own_q hw 105 rfl) (own_q hw 3 rfl) (by decide) (by decide)) q479a q479b q479c (g := (mkF m 278 #[.val (.ref a1), .val (.long x), .second, .val (.ref fl), .val (.ref us), .val (.ref it473), .val (.ref x1), .unset] [(.ref fl)])) rfl (by rw [hml]; rfl) (Steps.refl _) (argsL := []) (rest := []) (lenOf pd_336 rfl) rfl (by show 2 * 0 + _ ≤ _; exact Nat.le_of_eq rfl) (hb hby d5_278) (fun _ _ => ⟨rfl, e474, (by decide : 17 + 1 ≤ _), (by decide : 65611 + 4 ≤ _)⟩)
  dsimp only [Pt.U, Pt.locs, Pt.cells, Pt.slots] at X479 l479 y479 z479 st479 hQ479
  obtain rfl : k479 = 18 := y479; obtain rfl : n479 = 65615 := z479
  obtain ⟨it479, rfl, N479q, E479, z479', hIt479⟩ := hQ479
  have N479 : Fr n0 L479 := by rw [l479]; exact Fr.app N474 N479q
  have e479 : T479.heap = T479.heap := rfl
  have KP479 := Keep.ext KP473 E479
  have sz_it479 : h0.size ≤ it479 := Nat.le_trans KP473.1 z479'
  have gn_it479 : n0 ≤ it479 := Nat.le_trans Z0 sz_it479
  have na_it479 : a1 ≠ it479 := Nat.ne_of_lt (Nat.lt_of_lt_of_le E_a.lt sz_it479)
  have ne_b374_it479 : b374 ≠ it479 := Nat.ne_of_lt (Nat.lt_of_lt_of_le Fx475.lt z479')
  have ne_b444_it479 : b444 ≠ it479 := Nat.ne_of_lt (Nat.lt_of_lt_of_le Fx476.lt z479')
  have ne_b462_it479 : b462 ≠ it479 := Nat.ne_of_lt (Nat.lt_of_lt_of_le Fx477.lt z479')
  have ne_it473_it479 : it473 ≠ it479 := Nat.ne_of_lt (Nat.lt_of_lt_of_le hIt473.lt z479')
  obtain ⟨cq480, kq480, q480a, q480b, q480c⟩ := isOf hZ e479 ((hIt479).1)
  obtain ⟨_, _, ⟨T480, L480, k480, n480⟩, -, X480, ⟨Lc480, hQ480, l480, y480, z480⟩, st480⟩ := X479.interfaceBack hx (xi := (⟨"java/util/Iterator", "hasNext", "()Z"⟩ : MethodName)) (y := (⟨"java/util/ArrayList$Itr", "hasNext", "()Z"⟩ : MethodName)) hown (mvT hZ (own_q hw 122 rfl)) (mvT hZ (own_q hw 123 rfl)) (mvT hZ (own_q hw 124 rfl)) (mvT hZ (own_q hw 125 rfl)) (mvT hZ (own_q hw 126 rfl)) (mvT hZ (own_q hw 127 rfl)) (mvT hZ (own_q hw 128 rfl)) (mvT hZ (own_q hw 129 rfl)) (by decide) (backOf (W := 0) (rm_hn l Z a0 hw [] it479 T479.heap n0 (Nat.le_trans Z0 KP479.1) fl _ _ _ _ hIt479 ((hFl.keep KP479 (ninS nf nin0))).2.2.1 (1 : Int32) (by decide)) hZ (own_q hw 130 rfl) (own_q hw 108 rfl) (by decide) (by decide)) q480a q480b q480c (g := (mkF m 287 #[.val (.ref a1), .val (.long x), .second, .val (.ref fl), .val (.ref us), .val (.ref it479), .val (.ref x1), .unset] [(.ref it479)])) rfl (by rw [hml]; rfl) (Steps.refl _) (argsL := []) (rest := []) (lenOf pd_340 rfl) rfl (by show 2 * 0 + _ ≤ _; exact Nat.le_of_eq rfl) (hb hby d5_287) (fun _ _ => ⟨rfl, e479, (by decide : 18 + 0 ≤ _), (by decide : 65615 + 0 ≤ _)⟩)
  dsimp only [Pt.U, Pt.locs, Pt.cells, Pt.slots] at X480 l480 y480 z480 st480 hQ480
  obtain rfl : k480 = 18 := y480; obtain rfl : n480 = 65615 := z480
  obtain ⟨rfl, N480q, e480⟩ := hQ480
  have N480 : Fr n0 L480 := by rw [l480]; exact Fr.app N479 N480q
  obtain ⟨cq481, kq481, q481a, q481b, q481c⟩ := isOf hZ e480 ((hIt479).1)
  obtain ⟨_, _, ⟨T481, L481, k481, n481⟩, -, X481, ⟨Lc481, hQ481, l481, y481, z481⟩, st481⟩ := X480.interfaceBack hx (xi := (⟨"java/util/Iterator", "next", "()Ljava/lang/Object;"⟩ : MethodName)) (y := (⟨"java/util/ArrayList$Itr", "next", "()Ljava/lang/Object;"⟩ : MethodName)) hown (mvT hZ (own_q hw 220 rfl)) (mvT hZ (own_q hw 221 rfl)) (mvT hZ (own_q hw 222 rfl)) (mvT hZ (own_q hw 223 rfl)) (mvT hZ (own_q hw 224 rfl)) (mvT hZ (own_q hw 225 rfl)) (mvT hZ (own_q hw 226 rfl)) (mvT hZ (own_q hw 129 rfl)) (by decide) (backOf (W := 0) (rm_nx_0_2 l Z a0 hw [] it479 T479.heap n0 (Nat.le_trans Z0 KP479.1) fl ed x0 x1 kE _ _ hIt479 (hFl.keep KP479 (ninS nf nin0)) (A_E.keep KP479 (ninS nd nin0)) (Nat.ne_of_lt (Nat.lt_of_lt_of_le hFl.1.lt sz_it479)) (Nat.ne_of_lt (Nat.lt_of_lt_of_le A_E.lt sz_it479)) gn_it479) hZ (own_q hw 227 rfl) (own_q hw 108 rfl) (by decide) (by decide)) q481a q481b q481c (g := (mkF m 297 #[.val (.ref a1), .val (.long x), .second, .val (.ref fl), .val (.ref us), .val (.ref it479), .val (.ref x1), .unset] [(.ref it479)])) rfl (by rw [hml]; rfl) (Steps.refl _) (argsL := []) (rest := []) (lenOf pd_357 rfl) rfl (by show 2 * 0 + _ ≤ _; exact Nat.le_of_eq rfl) (hb hby d5_297) (fun _ _ => ⟨rfl, e480, (by decide : 18 + 0 ≤ _), (by decide : 65615 + 0 ≤ _)⟩)
  dsimp only [Pt.U, Pt.locs, Pt.cells, Pt.slots] at X481 l481 y481 z481 st481 hQ481
  obtain rfl : k481 = 18 := y481; obtain rfl : n481 = 65615 := z481
  obtain ⟨rfl, N481q, K481, hIt481⟩ := hQ481
  have N481 : Fr n0 L481 := by rw [l481]; exact Fr.app N480 N481q
  have e481 : T481.heap = T481.heap := rfl
  have KP481 := Keep.trans KP479 K481 (allS (Or.inr sz_it479) all0)
  obtain ⟨T482, X482, e482, st482⟩ := castY X481 hx hZ hown (own_q hw 234 rfl) e481 (Ins.self ((hX0.keep KP481 (ninS nx0 nin0))).1) (g := (mkF m 302 #[.val (.ref a1), .val (.long x), .second, .val (.ref fl), .val (.ref us), .val (.ref it479), .val (.ref x1), .unset] [(.ref x0)])) rfl rfl (hb hby d5_302)
  obtain ⟨cq483, kq483, q483a, q483b, q483c⟩ := isOf hZ e482 (((hX0.keep KP481 (ninS nx0 nin0))).1)
  obtain ⟨_, _, ⟨T483, L483, k483, n483⟩, -, X483, ⟨Lc483, hQ483, l483, y483, z483⟩, st483⟩ := X482.virtualBack hx (y := (⟨"com/example/parley/parley/floor/FloorSettings", "chair", "()Ljava/util/OptionalInt;"⟩ : MethodName)) (z := (⟨"com/example/parley/parley/floor/FloorSettings", "chair", "()Ljava/util/OptionalInt;"⟩ : MethodName)) hown (mvT hZ (own_q hw 256 rfl)) (mvT hZ (own_q hw 257 rfl)) (notFace_of_selects (args := #[]) (mvT hZ (own_q hw 259 rfl))) (mvT hZ (own_q hw 259 rfl)) (mvT hZ (own_q hw 258 rfl)) (by decide) (backOf (W := 0) (rm_chair l Z a0 hw [] x0 T481.heap n0 (Nat.le_trans Z0 KP481.1) f1 oe (hX0.keep KP481 (ninS nx0 nin0))) hZ (own_q hw 260 rfl) (own_q hw 143 rfl) (by decide) (by decide)) q483a q483c (g := (mkF m 309 #[.val (.ref a1), .val (.long x), .second, .val (.ref fl), .val (.ref us), .val (.ref it479), .val (.ref x0), .unset] [(.ref x0)])) rfl (by rw [hml]; rfl) (Steps.refl _) (argsL := []) (rest := []) (lenOf pd_117 rfl) rfl (by show 2 * 0 + _ ≤ _; exact Nat.le_of_eq rfl) (hb hby d5_309) (fun _ _ => ⟨rfl, e482, (by decide : 18 + 0 ≤ _), (by decide : 65615 + 0 ≤ _)⟩)
  dsimp only [Pt.U, Pt.locs, Pt.cells, Pt.slots] at X483 l483 y483 z483 st483 hQ483
  obtain rfl : k483 = 18 := y483; obtain rfl : n483 = 65615 := z483
  obtain ⟨rfl, N483q, e483⟩ := hQ483
  have N483 : Fr n0 L483 := by rw [l483]; exact Fr.app N481 N483q
  obtain ⟨cq484, kq484, q484a, q484b, q484c⟩ := isOf hZ e483 ((E_O.ext (own_ext_keep hEx KP481 (allS (Nat.le_trans hn gn_a) all0))))
  obtain ⟨_, _, ⟨T484, L484, k484, n484⟩, -, X484, ⟨Lc484, hQ484, l484, y484, z484⟩, st484⟩ := X483.virtualBack hx (y := (⟨"java/util/OptionalInt", "isPresent", "()Z"⟩ : MethodName)) (z := (⟨"java/util/OptionalInt", "isPresent", "()Z"⟩ : MethodName)) hown (mvT hZ (own_q hw 261 rfl)) (mvT hZ (own_q hw 262 rfl)) (notFace_of_selects (args := #[]) (mvT hZ (own_q hw 264 rfl))) (mvT hZ (own_q hw 264 rfl)) (mvT hZ (own_q hw 263 rfl)) (by decide) (backOf (W := 0) (rm_isp l Z a0 hw [] oe T481.heap n0 (Nat.le_trans Z0 KP481.1) (F_O.ext (own_ext_keep hEx KP481 (allS (Nat.le_trans hn gn_a) all0)))) hZ (own_q hw 265 rfl) (own_q hw 149 rfl) (by decide) (by decide)) q484a q484c (g := (mkF m 316 #[.val (.ref a1), .val (.long x), .second, .val (.ref fl), .val (.ref us), .val (.ref it479), .val (.ref x0), .val (.ref oe)] [(.ref oe)])) rfl (by rw [hml]; rfl) (Steps.refl _) (argsL := []) (rest := []) (lenOf pd_340 rfl) rfl (by show 2 * 0 + _ ≤ _; exact Nat.le_of_eq rfl) (hb hby d5_316) (fun _ _ => ⟨rfl, e483, (by decide : 18 + 0 ≤ _), (by decide : 65615 + 0 ≤ _)⟩)
  dsimp only [Pt.U, Pt.locs, Pt.cells, Pt.slots] at X484 l484 y484 z484 st484 hQ484
  obtain rfl : k484 = 18 := y484; obtain rfl : n484 = 65615 := z484
  obtain ⟨rfl, N484q, e484⟩ := hQ484
  have N484 : Fr n0 L484 := by rw [l484]; exact Fr.app N483 N484q
  obtain ⟨cq485, kq485, q485a, q485b, q485c⟩ := isOf hZ e484 ((hIt481).1)
  obtain ⟨_, _, ⟨T485, L485, k485, n485⟩, -, X485, ⟨Lc485, hQ485, l485, y485, z485⟩, st485⟩ := X484.interfaceBack hx (xi := (⟨"java/util/Iterator", "hasNext", "()Z"⟩ : MethodName)) (y := (⟨"java/util/ArrayList$Itr", "hasNext", "()Z"⟩ : MethodName)) hown (mvT hZ (own_q hw 122 rfl)) (mvT hZ (own_q hw 123 rfl)) (mvT hZ (own_q hw 124 rfl)) (mvT hZ (own_q hw 125 rfl)) (mvT hZ (own_q hw 126 rfl)) (mvT hZ (own_q hw 127 rfl)) (mvT hZ (own_q hw 128 rfl)) (mvT hZ (own_q hw 129 rfl)) (by decide) (backOf (W := 0) (rm_hn l Z a0 hw [] it479 T481.heap n0 (Nat.le_trans Z0 KP481.1) fl _ _ _ _ hIt481 ((hFl.keep KP481 (ninS nf nin0))).2.2.1 (1 : Int32) (by decide)) hZ (own_q hw 130 rfl) (own_q hw 108 rfl) (by decide) (by decide)) q485a q485b q485c (g := (mkF m 287 #[.val (.ref a1), .val (.long x), .second, .val (.ref fl), .val (.ref us), .val (.ref it479), .val (.ref x0), .val (.ref oe)] [(.ref it479)])) rfl (by rw [hml]; rfl) (Steps.refl _) (argsL := []) (rest := []) (lenOf pd_340 rfl) rfl (by show 2 * 0 + _ ≤ _; exact Nat.le_of_eq rfl) (hb hby d5_287) (fun _ _ => ⟨rfl, e484, (by decide : 18 + 0 ≤ _), (by decide : 65615 + 0 ≤ _)⟩)
  dsimp only [Pt.U, Pt.locs, Pt.cells, Pt.slots] at X485 l485 y485 z485 st485 hQ485
  obtain rfl : k485 = 18 := y485; obtain rfl : n485 = 65615 := z485
  obtain ⟨rfl, N485q, e485⟩ := hQ485
  have N485 : Fr n0 L485 := by rw [l485]; exact Fr.app N484 N485q
  obtain ⟨cq486, kq486, q486a, q486b, q486c⟩ := isOf hZ e485 ((hIt481).1)
  obtain ⟨_, _, ⟨T486, L486, k486, n486⟩, -, X486, ⟨Lc486, hQ486, l486, y486, z486⟩, st486⟩ := X485.interfaceBack hx (xi := (⟨"java/util/Iterator", "next", "()Ljava/lang/Object;"⟩ : MethodName)) (y := (⟨"java/util/ArrayList$Itr", "next", "()Ljava/lang/Object;"⟩ : MethodName)) hown (mvT hZ (own_q hw 220 rfl)) (mvT hZ (own_q hw 221 rfl)) (mvT hZ (own_q hw 222 rfl)) (mvT hZ (own_q hw 223 rfl)) (mvT hZ (own_q hw 224 rfl)) (mvT hZ (own_q hw 225 rfl)) (mvT hZ (own_q hw 226 rfl)) (mvT hZ (own_q hw 129 rfl)) (by decide) (backOf (W := 0) (rm_nx_1_2 l Z a0 hw [] it479 T481.heap n0 (Nat.le_trans Z0 KP481.1) fl ed x0 x1 kE _ _ hIt481 (hFl.keep KP481 (ninS nf nin0)) (A_E.keep KP481 (ninS nd nin0)) (Nat.ne_of_lt (Nat.lt_of_lt_of_le hFl.1.lt sz_it479)) (Nat.ne_of_lt (Nat.lt_of_lt_of_le A_E.lt sz_it479)) gn_it479) hZ (own_q hw 227 rfl) (own_q hw 108 rfl) (by decide) (by decide)) q486a q486b q486c (g := (mkF m 297 #[.val (.ref a1), .val (.long x), .second, .val (.ref fl), .val (.ref us), .val (.ref it479), .val (.ref x0), .val (.ref oe)] [(.ref it479)])) rfl (by rw [hml]; rfl) (Steps.refl _) (argsL := []) (rest := []) (lenOf pd_357 rfl) rfl (by show 2 * 0 + _ ≤ _; exact Nat.le_of_eq rfl) (hb hby d5_297) (fun _ _ => ⟨rfl, e485, (by decide : 18 + 0 ≤ _), (by decide : 65615 + 0 ≤ _)⟩)
  dsimp only [Pt.U, Pt.locs, Pt.cells, Pt.slots] at X486 l486 y486 z486 st486 hQ486
  obtain rfl : k486 = 18 := y486; obtain rfl : n486 = 65615 := z486
  obtain ⟨rfl, N486q, K486, hIt486⟩ := hQ486
  have N486 : Fr n0 L486 := by rw [l486]; exact Fr.app N485 N486q
  have e486 : T486.heap = T486.heap := rfl
  have KP486 := Keep.trans KP481 K486 (allS (Or.inr sz_it479) all0)
  obtain ⟨T487, X487, e487, st487⟩ := castY X486 hx hZ hown (own_q hw 234 rfl) e486 (Ins.self ((hX1.keep KP486 (ninS nx1 nin0))).1) (g := (mkF m 302 #[.val (.ref a1), .val (.long x), .second, .val (.ref fl), .val (.ref us), .val (.ref it479), .val (.ref x0), .val (.ref oe)] [(.ref x1)])) rfl rfl (hb hby d5_302)
  obtain ⟨cq488, kq488, q488a, q488b, q488c⟩ := isOf hZ e487 (((hX1.keep KP486 (ninS nx1 nin0))).1)
  obtain ⟨_, _, ⟨T488, L488, k488, n488⟩, -, X488, ⟨Lc488, hQ488, l488, y488, z488⟩, st488⟩ := X487.virtualBack hx (y := (⟨"com/example/parley/parley/floor/FloorSettings", "chair", "()Ljava/util/OptionalInt;"⟩ : MethodName)) (z := (⟨"com/example/parley/parley/floor/FloorSettings", "chair", "()Ljava/util/OptionalInt;"⟩ : MethodName)) hown (mvT hZ (own_q hw 256 rfl)) (mvT hZ (own_q hw 257 rfl)) (notFace_of_selects (args := #[]) (mvT hZ (own_q hw 259 rfl))) (mvT hZ (own_q hw 259 rfl)) (mvT hZ (own_q hw 258 rfl)) (by decide) (backOf (W := 0) (rm_chair l Z a0 hw [] x1 T486.heap n0 (Nat.le_trans Z0 KP486.1) f2 oe (hX1.keep KP486 (ninS nx1 nin0))) hZ (own_q hw 260 rfl) (own_q hw 143 rfl) (by decide) (by decide)) q488a q488c (g := (mkF m 309 #[.val (.ref a1), .val (.long x), .second, .val (.ref fl), .val (.ref us), .val (.ref it479), .val (.ref x1), .val (.ref oe)] [(.ref x1)])) rfl (by rw [hml]; rfl) (Steps.refl _) (argsL := []) (rest := []) (lenOf pd_117 rfl) rfl (by show 2 * 0 + _ ≤ _; exact Nat.le_of_eq rfl) (hb hby d5_309) (fun _ _ => ⟨rfl, e487, (by decide : 18 + 0 ≤ _), (by decide : 65615 + 0 ≤ _)⟩)
  dsimp only [Pt.U, Pt.locs, Pt.cells, Pt.slots] at X488 l488 y488 z488 st488 hQ488
  obtain rfl : k488 = 18 := y488; obtain rfl : n488 = 65615 := z488
  obtain ⟨rfl, N488q, e488⟩ := hQ488
  have N488 : Fr n0 L488 := by rw [l488]; exact Fr.app N486 N488q
  obtain ⟨cq489, kq489, q489a, q489b, q489c⟩ := isOf hZ e488 ((E_O.ext (own_ext_keep hEx KP486 (allS (Nat.le_trans hn gn_a) all0))))
  obtain ⟨_, _, ⟨T489, L489, k489, n489⟩, -, X489, ⟨Lc489, hQ489, l489, y489, z489⟩, st489⟩ := X488.virtualBack hx (y := (⟨"java/util/OptionalInt", "isPresent", "()Z"⟩ : MethodName)) (z := (⟨"java/util/OptionalInt", "isPresent", "()Z"⟩ : MethodName)) hown (mvT hZ (own_q hw 261 rfl)) (mvT hZ (own_q hw 262 rfl)) (notFace_of_selects (args := #[]) (mvT hZ (own_q hw 264 rfl))) (mvT hZ (own_q hw 264 rfl)) (mvT hZ (own_q hw 263 rfl)) (by decide) (backOf (W := 0) (rm_isp l Z a0 hw [] oe T486.heap n0 (Nat.le_trans Z0 KP486.1) (F_O.ext (own_ext_keep hEx KP486 (allS (Nat.le_trans hn gn_a) all0)))) hZ (own_q hw 265 rfl) (own_q hw 149 rfl) (by decide) (by decide)) q489a q489c (g := (mkF m 316 #[.val (.ref a1), .val (.long x), .second, .val (.ref fl), .val (.ref us), .val (.ref it479), .val (.ref x1), .val (.ref oe)] [(.ref oe)])) rfl (by rw [hml]; rfl) (Steps.refl _) (argsL := []) (rest := []) (lenOf pd_340 rfl) rfl (by show 2 * 0 + _ ≤ _; exact Nat.le_of_eq rfl) (hb hby d5_316) (fun _ _ => ⟨rfl, e488, (by decide : 18 + 0 ≤ _), (by decide : 65615 + 0 ≤ _)⟩)
  dsimp only [Pt.U, Pt.locs, Pt.cells, Pt.slots] at X489 l489 y489 z489 st489 hQ489
  obtain rfl : k489 = 18 := y489; obtain rfl : n489 = 65615 := z489
  obtain ⟨rfl, N489q, e489⟩ := hQ489
  have N489 : Fr n0 L489 := by rw [l489]; exact Fr.app N488 N489q
  obtain ⟨cq490, kq490, q490a, q490b, q490c⟩ := isOf hZ e489 ((hIt486).1)
  obtain ⟨_, _, ⟨T490, L490, k490, n490⟩, -, X490, ⟨Lc490, hQ490, l490, y490, z490⟩, st490⟩ := X489.interfaceBack hx (xi := (⟨"java/util/Iterator", "hasNext", "()Z"⟩ : MethodName)) (y := (⟨"java/util/ArrayList$Itr", "hasNext", "()Z"⟩ : MethodName)) hown (mvT hZ (own_q hw 122 rfl)) (mvT hZ (own_q hw 123 rfl)) (mvT hZ (own_q hw 124 rfl)) (mvT hZ (own_q hw 125 rfl)) (mvT hZ (own_q hw 126 rfl)) (mvT hZ (own_q hw 127 rfl)) (mvT hZ (own_q hw 128 rfl)) (mvT hZ (own_q hw 129 rfl)) (by decide) (backOf (W := 0) (rm_hn l Z a0 hw [] it479 T486.heap n0 (Nat.le_trans Z0 KP486.1) fl _ _ _ _ hIt486 ((hFl.keep KP486 (ninS nf nin0))).2.2.1 (0 : Int32) (by decide)) hZ (own_q hw 130 rfl) (own_q hw 108 rfl) (by decide) (by decide)) q490a q490b q490c (g := (mkF m 287 #[.val (.ref a1), .val (.long x), .second, .val (.ref fl), .val (.ref us), .val (.ref it479), .val (.ref x1), .val (.ref oe)] [(.ref it479)])) rfl (by rw [hml]; rfl) (Steps.refl _) (argsL := []) (rest := []) (lenOf pd_340 rfl) rfl (by show 2 * 0 + _ ≤ _; exact Nat.le_of_eq rfl) (hb hby d5_287) (fun _ _ => ⟨rfl, e489, (by decide : 18 + 0 ≤ _), (by decide : 65615 + 0 ≤ _)⟩)
  dsimp only [Pt.U, Pt.locs, Pt.cells, Pt.slots] at X490 l490 y490 z490 st490 hQ490
  obtain rfl : k490 = 18 := y490; obtain rfl : n490 = 65615 := z490
  obtain ⟨rfl, N490q, e490⟩ := hQ490
  have N490 : Fr n0 L490 := by rw [l490]; exact Fr.app N489 N490q
  have Fx491 := (((Fx478.ext E479).keep K481).keep K486)
  have Fx492 := (((((((Fx456.ext E462).keep K463 (ninS ne_a1_b462 nin0)).other W467 (Or.inl ne_a1_b374)).ext E473).ext E479).keep K481 (ninS na_it479 nin0)).keep K486 (ninS na_it479 nin0))
  have Fx493 := (((Fx475.ext E479).keep K481 (ninS ne_b374_it479 nin0)).keep K486 (ninS ne_b374_it479 nin0))
  obtain ⟨fs, hr, hrun, hended, hW, hsame⟩ := X490.leave (v := none) (fun _ => rfl)
  refine ⟨_, _, pre0 _ ?_, hrun, hended, _, _, rfl, ?_, ⟨_, rfl⟩, hW, hsame.mono (by decide) (by decide)⟩
  · refine XS.aloadN X0.here hx rfl (hb hby d5_0) rfl rfl ?_
    refine st373 _ ?_
    show Steps p.tables e below (T373.setTop (mkF m 4 #[.val (.ref a1), .val (.long x), .second, .val (.ref fl), .val (.ref us), .unset, .unset, .unset] [])) _
    refine XS.aloadN X373.here hx rfl (hb hby d5_4) rfl rfl ?_
    refine X373.ldcInt hx hown (mvT hZ (own_q hw 35 rfl)) (g := (mkF m 5 #[.val (.ref a1), .val (.long x), .second, .val (.ref fl), .val (.ref us), .unset, .unset, .unset] [(.ref a1)])) rfl (hb hby d5_5) _ ?_
    show Steps p.tables e below (T373.setTop (mkF m 7 #[.val (.ref a1), .val (.long x), .second, .val (.ref fl), .val (.ref us), .unset, .unset, .unset] [(.int (65536 : Int32)), (.ref a1)])) _
    refine st374 _ ?_
    show Steps p.tables e below (T374.setTop (mkF m 10 #[.val (.ref a1), .val (.long x), .second, .val (.ref fl), .val (.ref us), .unset, .unset, .unset] [(.ref b374), (.ref a1)])) _
    refine st377 _ ?_
    show Steps p.tables e below (T377.setTop (mkF m 13 #[.val (.ref a1), .val (.long x), .second, .val (.ref fl), .val (.ref us), .unset, .unset, .unset] [])) _
    refine XS.aloadN X377.here hx rfl (hb hby d5_13) rfl rfl ?_
    refine st380 _ ?_
    show Steps p.tables e below (T380.setTop (mkF m 17 #[.val (.ref a1), .val (.long x), .second, .val (.ref fl), .val (.ref us), .unset, .unset, .unset] [(.ref b380), (.ref a1)])) _
    refine XS.dup X380.here hx rfl (hb hby d5_17) rfl rfl ?_
    refine st381.trans ?_
    show Steps p.tables e below (T381.setTop (mkF m 21 #[.val (.ref a1), .val (.long x), .second, .val (.ref fl), .val (.ref us), .unset, .unset, .unset] [(.ref b380), (.ref a1)])) _
    refine st384 _ ?_
    show Steps p.tables e below (T384.setTop (mkF m 24 #[.val (.ref a1), .val (.long x), .second, .val (.ref fl), .val (.ref us), .unset, .unset, .unset] [])) _
    refine XS.aloadN X384.here hx rfl (hb hby d5_24) rfl rfl ?_
    refine st387 _ ?_
    show Steps p.tables e below (T387.setTop (mkF m 28 #[.val (.ref a1), .val (.long x), .second, .val (.ref fl), .val (.ref us), .unset, .unset, .unset] [(.ref b387), (.ref a1)])) _
    refine XS.dup X387.here hx rfl (hb hby d5_28) rfl rfl ?_
    refine st388.trans ?_
    show Steps p.tables e below (T388.setTop (mkF m 32 #[.val (.ref a1), .val (.long x), .second, .val (.ref fl), .val (.ref us), .unset, .unset, .unset] [(.ref b387), (.ref a1)])) _
    refine st391 _ ?_
    show Steps p.tables e below (T391.setTop (mkF m 35 #[.val (.ref a1), .val (.long x), .second, .val (.ref fl), .val (.ref us), .unset, .unset, .unset] [])) _
    refine XS.aloadN X391.here hx rfl (hb hby d5_35) rfl rfl ?_
    refine st394 _ ?_
    show Steps p.tables e below (T394.setTop (mkF m 39 #[.val (.ref a1), .val (.long x), .second, .val (.ref fl), .val (.ref us), .unset, .unset, .unset] [(.ref b394), (.ref a1)])) _
    refine XS.dup X394.here hx rfl (hb hby d5_39) rfl rfl ?_
    refine st395.trans ?_
    show Steps p.tables e below (T395.setTop (mkF m 43 #[.val (.ref a1), .val (.long x), .second, .val (.ref fl), .val (.ref us), .unset, .unset, .unset] [(.ref b394), (.ref a1)])) _
    refine st398 _ ?_
    show Steps p.tables e below (T398.setTop (mkF m 46 #[.val (.ref a1), .val (.long x), .second, .val (.ref fl), .val (.ref us), .unset, .unset, .unset] [])) _
    refine XS.aloadN X398.here hx rfl (hb hby d5_46) rfl rfl ?_
    refine st401 _ ?_
    show Steps p.tables e below (T401.setTop (mkF m 50 #[.val (.ref a1), .val (.long x), .second, .val (.ref fl), .val (.ref us), .unset, .unset, .unset] [(.ref b401), (.ref a1)])) _
    refine XS.dup X401.here hx rfl (hb hby d5_50) rfl rfl ?_
    refine st402.trans ?_
    show Steps p.tables e below (T402.setTop (mkF m 54 #[.val (.ref a1), .val (.long x), .second, .val (.ref fl), .val (.ref us), .unset, .unset, .unset] [(.ref b401), (.ref a1)])) _
    refine st405 _ ?_
    show Steps p.tables e below (T405.setTop (mkF m 57 #[.val (.ref a1), .val (.long x), .second, .val (.ref fl), .val (.ref us), .unset, .unset, .unset] [])) _
    refine XS.aloadN X405.here hx rfl (hb hby d5_57) rfl rfl ?_
    refine st408 _ ?_
    show Steps p.tables e below (T408.setTop (mkF m 61 #[.val (.ref a1), .val (.long x), .second, .val (.ref fl), .val (.ref us), .unset, .unset, .unset] [(.ref b408), (.ref a1)])) _
    refine XS.dup X408.here hx rfl (hb hby d5_61) rfl rfl ?_
    refine st409.trans ?_
    show Steps p.tables e below (T409.setTop (mkF m 65 #[.val (.ref a1), .val (.long x), .second, .val (.ref fl), .val (.ref us), .unset, .unset, .unset] [(.ref b408), (.ref a1)])) _
    refine st412 _ ?_
    show Steps p.tables e below (T412.setTop (mkF m 68 #[.val (.ref a1), .val (.long x), .second, .val (.ref fl), .val (.ref us), .unset, .unset, .unset] [])) _
    refine XS.aloadN X412.here hx rfl (hb hby d5_68) rfl rfl ?_
    refine st415 _ ?_
    show Steps p.tables e below (T415.setTop (mkF m 72 #[.val (.ref a1), .val (.long x), .second, .val (.ref fl), .val (.ref us), .unset, .unset, .unset] [(.ref b415), (.ref a1)])) _
    refine XS.dup X415.here hx rfl (hb hby d5_72) rfl rfl ?_
    refine st416.trans ?_
    show Steps p.tables e below (T416.setTop (mkF m 76 #[.val (.ref a1), .val (.long x), .second, .val (.ref fl), .val (.ref us), .unset, .unset, .unset] [(.ref b415), (.ref a1)])) _
    refine st419 _ ?_
    show Steps p.tables e below (T419.setTop (mkF m 79 #[.val (.ref a1), .val (.long x), .second, .val (.ref fl), .val (.ref us), .unset, .unset, .unset] [])) _
    refine XS.aloadN X419.here hx rfl (hb hby d5_79) rfl rfl ?_
    refine st422 _ ?_
    show Steps p.tables e below (T422.setTop (mkF m 83 #[.val (.ref a1), .val (.long x), .second, .val (.ref fl), .val (.ref us), .unset, .unset, .unset] [(.ref b422), (.ref a1)])) _
    refine XS.dup X422.here hx rfl (hb hby d5_83) rfl rfl ?_
    refine st423.trans ?_
    show Steps p.tables e below (T423.setTop (mkF m 87 #[.val (.ref a1), .val (.long x), .second, .val (.ref fl), .val (.ref us), .unset, .unset, .unset] [(.ref b422), (.ref a1)])) _
    refine st426 _ ?_
    show Steps p.tables e below (T426.setTop (mkF m 90 #[.val (.ref a1), .val (.long x), .second, .val (.ref fl), .val (.ref us), .unset, .unset, .unset] [])) _
    refine XS.aloadN X426.here hx rfl (hb hby d5_90) rfl rfl ?_
    refine XS.lloadN X426.here hx rfl (hb hby d5_91) rfl ?_
    refine st427 _ ?_
    show Steps p.tables e below (T427.setTop (mkF m 95 #[.val (.ref a1), .val (.long x), .second, .val (.ref fl), .val (.ref us), .unset, .unset, .unset] [(.long x), (.ref a1)])) _
    refine st430 _ ?_
    show Steps p.tables e below (T430.setTop (mkF m 98 #[.val (.ref a1), .val (.long x), .second, .val (.ref fl), .val (.ref us), .unset, .unset, .unset] [])) _
    refine XS.aloadN X430.here hx rfl (hb hby d5_98) rfl rfl ?_
    refine st433.trans ?_
    show Steps p.tables e below (T433.setTop (mkF m 104 #[.val (.ref a1), .val (.long x), .second, .val (.ref fl), .val (.ref us), .unset, .unset, .unset] [(.ref it433)])) _
    refine XS.astore X433.here hx rfl (hb hby d5_104) rfl rfl (l' := #[.val (.ref a1), .val (.long x), .second, .val (.ref fl), .val (.ref us), .val (.ref it433), .unset, .unset]) rfl ?_
    refine XS.aload X433.here hx rfl (hb hby d5_106) rfl rfl ?_
    refine st434.trans ?_
    show Steps p.tables e below (T434.setTop (mkF m 113 #[.val (.ref a1), .val (.long x), .second, .val (.ref fl), .val (.ref us), .val (.ref it433), .unset, .unset] [(.int (1 : Int32))])) _
    refine XS.ifNo X434.here hx rfl (hb hby d5_113) rfl ((if0 _ _).trans (feq (by decide : ¬ ((1 : Int32) = (0 : Int32)))).1) ?_
    refine XS.aload X434.here hx rfl (hb hby d5_116) rfl rfl ?_
    refine st435.trans ?_
    show Steps p.tables e below (T435.setTop (mkF m 123 #[.val (.ref a1), .val (.long x), .second, .val (.ref fl), .val (.ref us), .val (.ref it433), .unset, .unset] [(.ref x0)])) _
    refine st436 _ ?_
    show Steps p.tables e below (T436.setTop (mkF m 126 #[.val (.ref a1), .val (.long x), .second, .val (.ref fl), .val (.ref us), .val (.ref it433), .unset, .unset] [(.ref x0)])) _
    refine XS.astore X436.here hx rfl (hb hby d5_126) rfl rfl (l' := #[.val (.ref a1), .val (.long x), .second, .val (.ref fl), .val (.ref us), .val (.ref it433), .val (.ref x0), .unset]) rfl ?_
    refine XS.aloadN X436.here hx rfl (hb hby d5_128) rfl rfl ?_
    refine XS.aload X436.here hx rfl (hb hby d5_129) rfl rfl ?_
    refine st437.trans ?_
    show Steps p.tables e below (T437.setTop (mkF m 134 #[.val (.ref a1), .val (.long x), .second, .val (.ref fl), .val (.ref us), .val (.ref it433), .val (.ref x0), .unset] [(.int f1), (.ref a1)])) _
    refine st441.trans ?_
    show Steps p.tables e below (T441.setTop (mkF m 137 #[.val (.ref a1), .val (.long x), .second, .val (.ref fl), .val (.ref us), .val (.ref it433), .val (.ref x0), .unset] [(.int (0 : Int32))])) _
    refine XS.ifYes X441.here hx rfl (pc0 := 137) (pc' := 158) rfl (hb hby d5_137) rfl ((if0 _ _).trans (teq (by decide : (0 : Int32) = (0 : Int32))).1) (by decide) (by decide) ?_
    refine XS.aloadN X441.here hx rfl (hb hby d5_158) rfl rfl ?_
    refine st442 _ ?_
    show Steps p.tables e below (T442.setTop (mkF m 162 #[.val (.ref a1), .val (.long x), .second, .val (.ref fl), .val (.ref us), .val (.ref it433), .val (.ref x0), .unset] [(.ref b374)])) _
    refine XS.aload X442.here hx rfl (hb hby d5_162) rfl rfl ?_
    refine st443.trans ?_
    show Steps p.tables e below (T443.setTop (mkF m 167 #[.val (.ref a1), .val (.long x), .second, .val (.ref fl), .val (.ref us), .val (.ref it433), .val (.ref x0), .unset] [(.int f1), (.ref b374)])) _
    refine st444 _ ?_
    show Steps p.tables e below (T444.setTop (mkF m 170 #[.val (.ref a1), .val (.long x), .second, .val (.ref fl), .val (.ref us), .val (.ref it433), .val (.ref x0), .unset] [(.ref b444), (.int f1), (.ref b374)])) _
    refine XS.dup X444.here hx rfl (hb hby d5_170) rfl rfl ?_
    refine XS.aload X444.here hx rfl (hb hby d5_171) rfl rfl ?_
    refine st445.trans ?_
    show Steps p.tables e below (T445.setTop (mkF m 176 #[.val (.ref a1), .val (.long x), .second, .val (.ref fl), .val (.ref us), .val (.ref it433), .val (.ref x0), .unset] [(.ref b444), (.int f1), (.ref b374)])) _
    refine st449 _ ?_
    show Steps p.tables e below (T449.setTop (mkF m 177 #[.val (.ref a1), .val (.long x), .second, .val (.ref fl), .val (.ref us), .val (.ref it433), .val (.ref x0), .unset] [])) _
    refine XS.goto X449.here hx rfl (pc0 := 177) (pc' := 106) rfl (hb hby d5_177) (by decide) (by decide) ?_
    refine XS.aload X449.here hx rfl (hb hby d5_106) rfl rfl ?_
    refine st451.trans ?_
    show Steps p.tables e below (T451.setTop (mkF m 113 #[.val (.ref a1), .val (.long x), .second, .val (.ref fl), .val (.ref us), .val (.ref it433), .val (.ref x0), .unset] [(.int (1 : Int32))])) _
    refine XS.ifNo X451.here hx rfl (hb hby d5_113) rfl ((if0 _ _).trans (feq (by decide : ¬ ((1 : Int32) = (0 : Int32)))).1) ?_
    refine XS.aload X451.here hx rfl (hb hby d5_116) rfl rfl ?_
    refine st452.trans ?_
    show Steps p.tables e below (T452.setTop (mkF m 123 #[.val (.ref a1), .val (.long x), .second, .val (.ref fl), .val (.ref us), .val (.ref it433), .val (.ref x0), .unset] [(.ref x1)])) _
    refine st453 _ ?_
    show Steps p.tables e below (T453.setTop (mkF m 126 #[.val (.ref a1), .val (.long x), .second, .val (.ref fl), .val (.ref us), .val (.ref it433), .val (.ref x0), .unset] [(.ref x1)])) _
    refine XS.astore X453.here hx rfl (hb hby d5_126) rfl rfl (l' := #[.val (.ref a1), .val (.long x), .second, .val (.ref fl), .val (.ref us), .val (.ref it433), .val (.ref x1), .unset]) rfl ?_
    refine XS.aloadN X453.here hx rfl (hb hby d5_128) rfl rfl ?_
    refine XS.aload X453.here hx rfl (hb hby d5_129) rfl rfl ?_
    refine st454.trans ?_
    show Steps p.tables e below (T454.setTop (mkF m 134 #[.val (.ref a1), .val (.long x), .second, .val (.ref fl), .val (.ref us), .val (.ref it433), .val (.ref x1), .unset] [(.int f2), (.ref a1)])) _
    refine st458.trans ?_
    show Steps p.tables e below (T458.setTop (mkF m 137 #[.val (.ref a1), .val (.long x), .second, .val (.ref fl), .val (.ref us), .val (.ref it433), .val (.ref x1), .unset] [(.int (0 : Int32))])) _
    refine XS.ifYes X458.here hx rfl (pc0 := 137) (pc' := 158) rfl (hb hby d5_137) rfl ((if0 _ _).trans (teq (by decide : (0 : Int32) = (0 : Int32))).1) (by decide) (by decide) ?_
    refine XS.aloadN X458.here hx rfl (hb hby d5_158) rfl rfl ?_
    refine st459 _ ?_
    show Steps p.tables e below (T459.setTop (mkF m 162 #[.val (.ref a1), .val (.long x), .second, .val (.ref fl), .val (.ref us), .val (.ref it433), .val (.ref x1), .unset] [(.ref b374)])) _
    refine XS.aload X459.here hx rfl (hb hby d5_162) rfl rfl ?_
    refine st460.trans ?_
    show Steps p.tables e below (T460.setTop (mkF m 167 #[.val (.ref a1), .val (.long x), .second, .val (.ref fl), .val (.ref us), .val (.ref it433), .val (.ref x1), .unset] [(.int f2), (.ref b374)])) _
    refine st462 _ ?_
    show Steps p.tables e below (T462.setTop (mkF m 170 #[.val (.ref a1), .val (.long x), .second, .val (.ref fl), .val (.ref us), .val (.ref it433), .val (.ref x1), .unset] [(.ref b462), (.int f2), (.ref b374)])) _
    refine XS.dup X462.here hx rfl (hb hby d5_170) rfl rfl ?_
    refine XS.aload X462.here hx rfl (hb hby d5_171) rfl rfl ?_
    refine st463.trans ?_
    show Steps p.tables e below (T463.setTop (mkF m 176 #[.val (.ref a1), .val (.long x), .second, .val (.ref fl), .val (.ref us), .val (.ref it433), .val (.ref x1), .unset] [(.ref b462), (.int f2), (.ref b374)])) _
    refine st467 _ ?_
    show Steps p.tables e below (T467.setTop (mkF m 177 #[.val (.ref a1), .val (.long x), .second, .val (.ref fl), .val (.ref us), .val (.ref it433), .val (.ref x1), .unset] [])) _
    refine XS.goto X467.here hx rfl (pc0 := 177) (pc' := 106) rfl (hb hby d5_177) (by decide) (by decide) ?_
    refine XS.aload X467.here hx rfl (hb hby d5_106) rfl rfl ?_
    refine st469.trans ?_
    show Steps p.tables e below (T469.setTop (mkF m 113 #[.val (.ref a1), .val (.long x), .second, .val (.ref fl), .val (.ref us), .val (.ref it433), .val (.ref x1), .unset] [(.int (0 : Int32))])) _
    refine XS.ifYes X469.here hx rfl (pc0 := 113) (pc' := 180) rfl (hb hby d5_113) rfl ((if0 _ _).trans (teq (by decide : (0 : Int32) = (0 : Int32))).1) (by decide) (by decide) ?_
    refine XS.aload X469.here hx rfl (hb hby d5_180) rfl rfl ?_
    refine st473.trans ?_
    show Steps p.tables e below (T473.setTop (mkF m 187 #[.val (.ref a1), .val (.long x), .second, .val (.ref fl), .val (.ref us), .val (.ref it433), .val (.ref x1), .unset] [(.ref it473)])) _
    refine XS.astore X473.here hx rfl (hb hby d5_187) rfl rfl (l' := #[.val (.ref a1), .val (.long x), .second, .val (.ref fl), .val (.ref us), .val (.ref it473), .val (.ref x1), .unset]) rfl ?_
    refine XS.aload X473.here hx rfl (hb hby d5_189) rfl rfl ?_
    refine st474.trans ?_
    show Steps p.tables e below (T474.setTop (mkF m 196 #[.val (.ref a1), .val (.long x), .second, .val (.ref fl), .val (.ref us), .val (.ref it473), .val (.ref x1), .unset] [(.int (0 : Int32))])) _
    refine XS.ifYes X474.here hx rfl (pc0 := 196) (pc' := 277) rfl (hb hby d5_196) rfl ((if0 _ _).trans (teq (by decide : (0 : Int32) = (0 : Int32))).1) (by decide) (by decide) ?_
    refine XS.aloadN X474.here hx rfl (hb hby d5_277) rfl rfl ?_
    refine st479.trans ?_
    show Steps p.tables e below (T479.setTop (mkF m 283 #[.val (.ref a1), .val (.long x), .second, .val (.ref fl), .val (.ref us), .val (.ref it473), .val (.ref x1), .unset] [(.ref it479)])) _
    refine XS.astore X479.here hx rfl (hb hby d5_283) rfl rfl (l' := #[.val (.ref a1), .val (.long x), .second, .val (.ref fl), .val (.ref us), .val (.ref it479), .val (.ref x1), .unset]) rfl ?_
    refine XS.aload X479.here hx rfl (hb hby d5_285) rfl rfl ?_
    refine st480.trans ?_
    show Steps p.tables e below (T480.setTop (mkF m 292 #[.val (.ref a1), .val (.long x), .second, .val (.ref fl), .val (.ref us), .val (.ref it479), .val (.ref x1), .unset] [(.int (1 : Int32))])) _
    refine XS.ifNo X480.here hx rfl (hb hby d5_292) rfl ((if0 _ _).trans (feq (by decide : ¬ ((1 : Int32) = (0 : Int32)))).1) ?_
    refine XS.aload X480.here hx rfl (hb hby d5_295) rfl rfl ?_
    refine st481.trans ?_
    show Steps p.tables e below (T481.setTop (mkF m 302 #[.val (.ref a1), .val (.long x), .second, .val (.ref fl), .val (.ref us), .val (.ref it479), .val (.ref x1), .unset] [(.ref x0)])) _
    refine st482 _ ?_
    show Steps p.tables e below (T482.setTop (mkF m 305 #[.val (.ref a1), .val (.long x), .second, .val (.ref fl), .val (.ref us), .val (.ref it479), .val (.ref x1), .unset] [(.ref x0)])) _
    refine XS.astore X482.here hx rfl (hb hby d5_305) rfl rfl (l' := #[.val (.ref a1), .val (.long x), .second, .val (.ref fl), .val (.ref us), .val (.ref it479), .val (.ref x0), .unset]) rfl ?_
    refine XS.aload X482.here hx rfl (hb hby d5_307) rfl rfl ?_
    refine st483.trans ?_
    show Steps p.tables e below (T483.setTop (mkF m 312 #[.val (.ref a1), .val (.long x), .second, .val (.ref fl), .val (.ref us), .val (.ref it479), .val (.ref x0), .unset] [(.ref oe)])) _
    refine XS.astore X483.here hx rfl (hb hby d5_312) rfl rfl (l' := #[.val (.ref a1), .val (.long x), .second, .val (.ref fl), .val (.ref us), .val (.ref it479), .val (.ref x0), .val (.ref oe)]) rfl ?_
    refine XS.aload X483.here hx rfl (hb hby d5_314) rfl rfl ?_
    refine st484.trans ?_
    show Steps p.tables e below (T484.setTop (mkF m 319 #[.val (.ref a1), .val (.long x), .second, .val (.ref fl), .val (.ref us), .val (.ref it479), .val (.ref x0), .val (.ref oe)] [(.int (0 : Int32))])) _
    refine XS.ifYes X484.here hx rfl (pc0 := 319) (pc' := 360) rfl (hb hby d5_319) rfl ((if0 _ _).trans (teq (by decide : (0 : Int32) = (0 : Int32))).1) (by decide) (by decide) ?_
    refine XS.goto X484.here hx rfl (pc0 := 360) (pc' := 285) rfl (hb hby d5_360) (by decide) (by decide) ?_
    refine XS.aload X484.here hx rfl (hb hby d5_285) rfl rfl ?_
    refine st485.trans ?_
    show Steps p.tables e below (T485.setTop (mkF m 292 #[.val (.ref a1), .val (.long x), .second, .val (.ref fl), .val (.ref us), .val (.ref it479), .val (.ref x0), .val (.ref oe)] [(.int (1 : Int32))])) _
    refine XS.ifNo X485.here hx rfl (hb hby d5_292) rfl ((if0 _ _).trans (feq (by decide : ¬ ((1 : Int32) = (0 : Int32)))).1) ?_
    refine XS.aload X485.here hx rfl (hb hby d5_295) rfl rfl ?_
    refine st486.trans ?_
    show Steps p.tables e below (T486.setTop (mkF m 302 #[.val (.ref a1), .val (.long x), .second, .val (.ref fl), .val (.ref us), .val (.ref it479), .val (.ref x0), .val (.ref oe)] [(.ref x1)])) _
    refine st487 _ ?_
    show Steps p.tables e below (T487.setTop (mkF m 305 #[.val (.ref a1), .val (.long x), .second, .val (.ref fl), .val (.ref us), .val (.ref it479), .val (.ref x0), .val (.ref oe)] [(.ref x1)])) _
    refine XS.astore X487.here hx rfl (hb hby d5_305) rfl rfl (l' := #[.val (.ref a1), .val (.long x), .second, .val (.ref fl), .val (.ref us), .val (.ref it479), .val (.ref x1), .val (.ref oe)]) rfl ?_
    refine XS.aload X487.here hx rfl (hb hby d5_307) rfl rfl ?_
    refine st488.trans ?_
    show Steps p.tables e below (T488.setTop (mkF m 312 #[.val (.ref a1), .val (.long x), .second, .val (.ref fl), .val (.ref us), .val (.ref it479), .val (.ref x1), .val (.ref oe)] [(.ref oe)])) _
    refine XS.astore X488.here hx rfl (hb hby d5_312) rfl rfl (l' := #[.val (.ref a1), .val (.long x), .second, .val (.ref fl), .val (.ref us), .val (.ref it479), .val (.ref x1), .val (.ref oe)]) rfl ?_
    refine XS.aload X488.here hx rfl (hb hby d5_314) rfl rfl ?_
    refine st489.trans ?_
    show Steps p.tables e below (T489.setTop (mkF m 319 #[.val (.ref a1), .val (.long x), .second, .val (.ref fl), .val (.ref us), .val (.ref it479), .val (.ref x1), .val (.ref oe)] [(.int (0 : Int32))])) _
    refine XS.ifYes X489.here hx rfl (pc0 := 319) (pc' := 360) rfl (hb hby d5_319) rfl ((if0 _ _).trans (teq (by decide : (0 : Int32) = (0 : Int32))).1) (by decide) (by decide) ?_
    refine XS.goto X489.here hx rfl (pc0 := 360) (pc' := 285) rfl (hb hby d5_360) (by decide) (by decide) ?_
    refine XS.aload X489.here hx rfl (hb hby d5_285) rfl rfl ?_
    refine st490.trans ?_
    show Steps p.tables e below (T490.setTop (mkF m 292 #[.val (.ref a1), .val (.long x), .second, .val (.ref fl), .val (.ref us), .val (.ref it479), .val (.ref x1), .val (.ref oe)] [(.int (0 : Int32))])) _
    refine XS.ifYes X490.here hx rfl (pc0 := 292) (pc' := 363) rfl (hb hby d5_292) rfl ((if0 _ _).trans (teq (by decide : (0 : Int32) = (0 : Int32))).1) (by decide) (by decide) ?_
    exact X490.returnOut hx Bd.returns (hb hby d5_363) hr
  · show own_Do none [a1] (fun h => ∃ (fa : Addr) (kF : ClassId) (g1 g2 : Addr), Exa Z h a1 "com/example/parley/parley/floor/Conference" ∧ Fld Z h a1 "com/example/parley/parley/floor/Conference" "floors" "[Lcom/example/parley/parley/floor/Conference$Floor;" (.ref fa) ∧ Arh Z h fa kF (.object "com/example/parley/parley/floor/Conference$Floor") (65536 : Int32) [(f2, .ref g2), (f1, .ref g1)] [] .null) h0 n0 _ T490.heap _
    rw [e490]
    exact ⟨rfl, N490, KP486, b374, _, b444, b462, Fx491, Fx492, Fx493⟩
theorem pd_390 : parseMethodDescriptor "(JLjava/util/Collection;Ljava/util/Collection;)V" = some ⟨[.long, (.object "java/util/Collection"), (.object "java/util/Collection")], none⟩ := by decide +kernel
theorem pd_391 : parseMethodDescriptor "(I)V" = some ⟨[.int], none⟩ := by decide +kernel
theorem pd_392 : parseMethodDescriptor "(Ljava/lang/Object;)Z" = some ⟨[(.object "java/lang/Object")], some .boolean⟩ := by decide +kernel
theorem pn_393 : plainName "com/example/parley/parley/floor/ConferenceHasFloorPinLaw" = true := by first | (simp [plainName, overriddenIn]; done) | decide +kernel
theorem ef_rm_law (m : MethodId) (x0 : Int64) (x1 : Int32) (x2 : Int32) (x3 : Int32) (x4 : Int32) : entryFrame m #[(.long x0), (.int x1), (.int x2), (.int x3), (.int x4)] maxLocals = mkF m 0 #[.val (.long x0), .second, .val (.int x1), .val (.int x2), .val (.int x3), .val (.int x4), .unset, .unset, .unset, .unset, .unset, .unset, .unset, .unset, .unset, .unset, .unset] [] := by first | (simp [entryFrame, mkF, argsToLocals, Value.category, maxLocals]; done) | rfl
set_option maxRecDepth 65536 in
set_option maxHeartbeats 40000000 in
theorem rm_law (l : Launch) (Z : State) (a0 : Array Value) (hw : ∀ d ∈ tables_1, d.before a0 Z = true) (ws : List Jvm.Cond) (p0 : Int64) (p1 : Int32) (p2 : Int32) (p3 : Int32) (p4 : Int32) (h0 : Heap) (n0 : Nat) (Z0 : n0 ≤ h0.size) (hS : Heap) (hn : hS.size ≤ n0) (hEx : Ext hS h0) (dE oe : Addr) (kD : ClassId) (hWd : own_Wd Z hS dE kD oe) :
    MetFree l x (head1 (Jvm.Cond.code x code maxLocals ret :: ws) room_1) (fun aQ UQ => aQ = #[(.long p0), (.int p1), (.int p2), (.int p3), (.int p4)] ∧ Z.Warmed39 UQ.vm ∧ UQ.heap = h0) (fun _ _ _ _ _ => True) (fun _ UQ oQ UR => ∃ vQ LQ, oQ = .returned vQ ∧ own_Made (some (.int 1)) n0 vQ UR.heap LQ ∧ ReturnedEndW UQ oQ UR LQ room_1.cells room_1.slots) := by
  refine MetFree.of_bodySF (plainFor_of_name pn_393) hisR ?_
  intro p e s m args below meth c s₁ Bd hml0 hP hK
  obtain ⟨rfl, hZ, hh⟩ := hP
  have hx := Bd.exec
  have hby := Bd.bytes
  have hml : c.maxLocals = 17 := hml0
  have hown : s.vm.findClass "com/example/parley/parley/floor/ConferenceHasFloorPinLaw" = some m.cls := findClass_of_methodNamed Bd.named
  have hnm := (name_of_methodNamed Bd.named Bd.method).1
  have X0 : Stand p l e room_1 (s.setVm s.vm) m #[(.long p0), (.int p1), (.int p2), (.int p3), (.int p4)] below meth c s₁ [] 0 0 := Stand.of_body Bd
  have e0 : s₁.heap = h0 := by rw [← hh, Bd.state]; rfl
  have N0 := Fr.nil n0
  have pre0 : ∀ t, Steps p.tables e below (s₁.setTop (mkF m 0 #[.val (.long p0), .second, .val (.int p1), .val (.int p2), .val (.int p3), .val (.int p4), .unset, .unset, .unset, .unset, .unset, .unset, .unset, .unset, .unset, .unset, .unset] [])) t → Steps p.tables e below (s₁.setTop (entryFrame m #[(.long p0), (.int p1), (.int p2), (.int p3), (.int p4)] maxLocals)) t := fun t kq => castTop (ef_rm_law m p0 p1 p2 p3 p4) kq
  have hSi0 : s.Since s.vm h0.size := (State.WarmedH.refl s).since _
  have hSk0 : h0.size ≤ h0.size := Nat.le_refl _
  obtain ⟨S_D, A_D, S_O, E_O, F_O⟩ := id hWd
  obtain ⟨f1, h_f1⟩ : ∃ zQ : Int32, (p1 &&& (65535 : Int32)) = zQ := ⟨_, rfl⟩
  have hf1 : 0 ≤ f1.toInt ∧ f1.toInt ≤ 65535 := by rw [← h_f1]; exact own_and16 p1
  obtain ⟨f2, h_f2⟩ : ∃ zQ : Int32, (p2 &&& (65535 : Int32)) = zQ := ⟨_, rfl⟩
  have hf2 : 0 ≤ f2.toInt ∧ f2.toInt ≤ 65535 := by rw [← h_f2]; exact own_and16 p2
  obtain ⟨cnt, h_cnt⟩ : ∃ zQ : Int32, (((p3.toUInt32 >>> ((2 : Int32) &&& 31).toUInt32).toInt32) % (3 : Int32)) = zQ := ⟨_, rfl⟩
  have ck494 : ∀ t, Steps p.tables e below (s₁.setTop (mkF m 20 #[.val (.long p0), .second, .val (.int p1), .val (.int p2), .val (.int p3), .val (.int p4), .val (.int f1), .val (.int f2), .val (.int cnt), .unset, .unset, .unset, .unset, .unset, .unset, .unset, .unset] [])) t → Steps p.tables e below (s₁.setTop (entryFrame m #[(.long p0), (.int p1), (.int p2), (.int p3), (.int p4)] maxLocals)) t := by
    intro t kt
    refine pre0 _ ?_
    refine XS.iloadN X0.here hx rfl (hb hby at_0) rfl ?_
    refine X0.ldcInt hx hown (mvT hZ (own_q hw 0 rfl)) (g := (mkF m 1 #[.val (.long p0), .second, .val (.int p1), .val (.int p2), .val (.int p3), .val (.int p4), .unset, .unset, .unset, .unset, .unset, .unset, .unset, .unset, .unset, .unset, .unset] [(.int p1)])) rfl (hb hby at_1) _ ?_
    show Steps p.tables e below (s₁.setTop (mkF m 3 #[.val (.long p0), .second, .val (.int p1), .val (.int p2), .val (.int p3), .val (.int p4), .unset, .unset, .unset, .unset, .unset, .unset, .unset, .unset, .unset, .unset, .unset] [(.int (65535 : Int32)), (.int p1)])) _
    refine XS.iand X0.here hx rfl (hb hby at_3) rfl ?_
    show Steps p.tables e below (s₁.setTop (mkF m 4 #[.val (.long p0), .second, .val (.int p1), .val (.int p2), .val (.int p3), .val (.int p4), .unset, .unset, .unset, .unset, .unset, .unset, .unset, .unset, .unset, .unset, .unset] [(.int (p1 &&& (65535 : Int32)))])) _
    rw [h_f1]
    show Steps p.tables e below (s₁.setTop (mkF m 4 #[.val (.long p0), .second, .val (.int p1), .val (.int p2), .val (.int p3), .val (.int p4), .unset, .unset, .unset, .unset, .unset, .unset, .unset, .unset, .unset, .unset, .unset] [(.int f1)])) _
    refine XS.istore X0.here hx rfl (hb hby at_4) rfl (l' := #[.val (.long p0), .second, .val (.int p1), .val (.int p2), .val (.int p3), .val (.int p4), .val (.int f1), .unset, .unset, .unset, .unset, .unset, .unset, .unset, .unset, .unset, .unset]) rfl ?_
    refine XS.iloadN X0.here hx rfl (hb hby at_6) rfl ?_
    refine X0.ldcInt hx hown (mvT hZ (own_q hw 0 rfl)) (g := (mkF m 7 #[.val (.long p0), .second, .val (.int p1), .val (.int p2), .val (.int p3), .val (.int p4), .val (.int f1), .unset, .unset, .unset, .unset, .unset, .unset, .unset, .unset, .unset, .unset] [(.int p2)])) rfl (hb hby at_7) _ ?_
    show Steps p.tables e below (s₁.setTop (mkF m 9 #[.val (.long p0), .second, .val (.int p1), .val (.int p2), .val (.int p3), .val (.int p4), .val (.int f1), .unset, .unset, .unset, .unset, .unset, .unset, .unset, .unset, .unset, .unset] [(.int (65535 : Int32)), (.int p2)])) _
    refine XS.iand X0.here hx rfl (hb hby at_9) rfl ?_
    show Steps p.tables e below (s₁.setTop (mkF m 10 #[.val (.long p0), .second, .val (.int p1), .val (.int p2), .val (.int p3), .val (.int p4), .val (.int f1), .unset, .unset, .unset, .unset, .unset, .unset, .unset, .unset, .unset, .unset] [(.int (p2 &&& (65535 : Int32)))])) _
    rw [h_f2]
    show Steps p.tables e below (s₁.setTop (mkF m 10 #[.val (.long p0), .second, .val (.int p1), .val (.int p2), .val (.int p3), .val (.int p4), .val (.int f1), .unset, .unset, .unset, .unset, .unset, .unset, .unset, .unset, .unset, .unset] [(.int f2)])) _
    refine XS.istore X0.here hx rfl (hb hby at_10) rfl (l' := #[.val (.long p0), .second, .val (.int p1), .val (.int p2), .val (.int p3), .val (.int p4), .val (.int f1), .val (.int f2), .unset, .unset, .unset, .unset, .unset, .unset, .unset, .unset, .unset]) rfl ?_
    refine XS.iload X0.here hx rfl (hb hby at_12) rfl ?_
    refine XS.iconst X0.here hx rfl (hb hby at_14) ?_
    refine XS.iushr X0.here hx rfl (hb hby at_15) rfl ?_
    refine XS.iconst X0.here hx rfl (hb hby at_16) ?_
    refine Jvm.RoadKit.iremM (g := (mkF m 17 #[.val (.long p0), .second, .val (.int p1), .val (.int p2), .val (.int p3), .val (.int p4), .val (.int f1), .val (.int f2), .unset, .unset, .unset, .unset, .unset, .unset, .unset, .unset, .unset] [(.int (3 : Int32)), (.int ((p3.toUInt32 >>> ((2 : Int32) &&& 31).toUInt32).toInt32))])) X0 hx rfl (hb hby at_17) rfl (by decide) ?_
    show Steps p.tables e below (s₁.setTop (mkF m 18 #[.val (.long p0), .second, .val (.int p1), .val (.int p2), .val (.int p3), .val (.int p4), .val (.int f1), .val (.int f2), .unset, .unset, .unset, .unset, .unset, .unset, .unset, .unset, .unset] [(.int (((p3.toUInt32 >>> ((2 : Int32) &&& 31).toUInt32).toInt32) % (3 : Int32)))])) _
    rw [h_cnt]
    show Steps p.tables e below (s₁.setTop (mkF m 18 #[.val (.long p0), .second, .val (.int p1), .val (.int p2), .val (.int p3), .val (.int p4), .val (.int f1), .val (.int f2), .unset, .unset, .unset, .unset, .unset, .unset, .unset, .unset, .unset] [(.int cnt)])) _
    refine XS.istore X0.here hx rfl (hb hby at_18) rfl (l' := #[.val (.long p0), .second, .val (.int p1), .val (.int p2), .val (.int p3), .val (.int p4), .val (.int f1), .val (.int f2), .val (.int cnt), .unset, .unset, .unset, .unset, .unset, .unset, .unset, .unset]) rfl ?_
    exact kt
  obtain ⟨T499, L499, h9v, h10v, X499, e499, N499, hj499_0, ck499⟩ : ∃ (TJ : State) (LJ : List Loc) (h9v : Int32) (h10v : Int32), Stand p l e room_1 (s.setVm s.vm) m #[(.long p0), (.int p1), (.int p2), (.int p3), (.int p4)] below meth c TJ LJ 0 0 ∧ TJ.heap = h0 ∧ Fr n0 LJ ∧ ((h9v = (0 : Int32) ∧ h10v = (0 : Int32)) ∨ (h9v = (1 : Int32) ∧ h10v = (0 : Int32)) ∨ (h9v = (1 : Int32) ∧ h10v = (1 : Int32) ∧ ¬ f2 = f1)) ∧ (∀ t, Steps p.tables e below (TJ.setTop (mkF m 53 #[.val (.long p0), .second, .val (.int p1), .val (.int p2), .val (.int p3), .val (.int p4), .val (.int f1), .val (.int f2), .val (.int cnt), .val (.int h9v), .val (.int h10v), .unset, .unset, .unset, .unset, .unset, .unset] [])) t → Steps p.tables e below (s₁.setTop (entryFrame m #[(.long p0), (.int p1), (.int p2), (.int p3), (.int p4)] maxLocals)) t) := by
    by_cases hc23_500 : cnt < (1 : Int32)
    · -- pc 23: yes
      refine ⟨s₁, _, (0 : Int32), (0 : Int32), X0, e0, N0, Or.inl ⟨rfl, rfl⟩, fun t kt => ?_⟩
      refine ck494 _ ?_
      refine XS.iload X0.here hx rfl (hb hby at_20) rfl ?_
      refine XS.iconst X0.here hx rfl (hb hby at_22) ?_
      refine XS.icmpYes X0.here hx rfl (pc0 := 23) (pc' := 30) rfl (hb hby at_23) rfl (tlt hc23_500).1 (by decide) (by decide) ?_
      refine XS.iconst X0.here hx rfl (hb hby at_30) ?_
      refine XS.istore X0.here hx rfl (hb hby at_31) rfl (l' := #[.val (.long p0), .second, .val (.int p1), .val (.int p2), .val (.int p3), .val (.int p4), .val (.int f1), .val (.int f2), .val (.int cnt), .val (.int (0 : Int32)), .unset, .unset, .unset, .unset, .unset, .unset, .unset]) rfl ?_
      refine XS.iload X0.here hx rfl (hb hby at_33) rfl ?_
      refine XS.iconst X0.here hx rfl (hb hby at_35) ?_
      refine XS.icmpYes X0.here hx rfl (pc0 := 36) (pc' := 50) rfl (hb hby at_36) rfl (tlt ((own_lt12 hc23_500) : cnt < (2 : Int32))).1 (by decide) (by decide) ?_
      refine XS.iconst X0.here hx rfl (hb hby at_50) ?_
      refine XS.istore X0.here hx rfl (hb hby at_51) rfl (l' := #[.val (.long p0), .second, .val (.int p1), .val (.int p2), .val (.int p3), .val (.int p4), .val (.int f1), .val (.int f2), .val (.int cnt), .val (.int (0 : Int32)), .val (.int (0 : Int32)), .unset, .unset, .unset, .unset, .unset, .unset]) rfl ?_
      exact kt
    · -- pc 23: no
      have ck502 : ∀ t, Steps p.tables e below (s₁.setTop (mkF m 36 #[.val (.long p0), .second, .val (.int p1), .val (.int p2), .val (.int p3), .val (.int p4), .val (.int f1), .val (.int f2), .val (.int cnt), .val (.int (1 : Int32)), .unset, .unset, .unset, .unset, .unset, .unset, .unset] [(.int (2 : Int32)), (.int cnt)])) t → Steps p.tables e below (s₁.setTop (entryFrame m #[(.long p0), (.int p1), (.int p2), (.int p3), (.int p4)] maxLocals)) t := by
        intro t kt
        refine ck494 _ ?_
        refine XS.iload X0.here hx rfl (hb hby at_20) rfl ?_
        refine XS.iconst X0.here hx rfl (hb hby at_22) ?_
        refine XS.icmpNo X0.here hx rfl (hb hby at_23) rfl (flt hc23_500).1 ?_
        refine XS.iconst X0.here hx rfl (hb hby at_26) ?_
        refine XS.goto X0.here hx rfl (pc0 := 27) (pc' := 31) rfl (hb hby at_27) (by decide) (by decide) ?_
        refine XS.istore X0.here hx rfl (hb hby at_31) rfl (l' := #[.val (.long p0), .second, .val (.int p1), .val (.int p2), .val (.int p3), .val (.int p4), .val (.int f1), .val (.int f2), .val (.int cnt), .val (.int (1 : Int32)), .unset, .unset, .unset, .unset, .unset, .unset, .unset]) rfl ?_
        refine XS.iload X0.here hx rfl (hb hby at_33) rfl ?_
        refine XS.iconst X0.here hx rfl (hb hby at_35) ?_
        exact kt
      by_cases hc36_501 : cnt < (2 : Int32)
      · -- pc 36: yes
        refine ⟨s₁, _, (1 : Int32), (0 : Int32), X0, e0, N0, Or.inr (Or.inl ⟨rfl, rfl⟩), fun t kt => ?_⟩
        refine ck502 _ ?_
        refine XS.icmpYes X0.here hx rfl (pc0 := 36) (pc' := 50) rfl (hb hby at_36) rfl (tlt hc36_501).1 (by decide) (by decide) ?_
        refine XS.iconst X0.here hx rfl (hb hby at_50) ?_
        refine XS.istore X0.here hx rfl (hb hby at_51) rfl (l' := #[.val (.long p0), .second, .val (.int p1), .val (.int p2), .val (.int p3), .val (.int p4), .val (.int f1), .val (.int f2), .val (.int cnt), .val (.int (1 : Int32)), .val (.int (0 : Int32)), .unset, .unset, .unset, .unset, .unset, .unset]) rfl ?_
        exact kt
      · -- pc 36: no
        by_cases hc43_503 : f2 = f1
        · -- pc 43: yes
          refine ⟨s₁, _, (1 : Int32), (0 : Int32), X0, e0, N0, Or.inr (Or.inl ⟨rfl, rfl⟩), fun t kt => ?_⟩
          refine ck502 _ ?_
          refine XS.icmpNo X0.here hx rfl (hb hby at_36) rfl (flt hc36_501).1 ?_
          refine XS.iload X0.here hx rfl (hb hby at_39) rfl ?_
          refine XS.iload X0.here hx rfl (hb hby at_41) rfl ?_
          refine XS.icmpYes X0.here hx rfl (pc0 := 43) (pc' := 50) rfl (hb hby at_43) rfl (teq hc43_503).1 (by decide) (by decide) ?_
          refine XS.iconst X0.here hx rfl (hb hby at_50) ?_
          refine XS.istore X0.here hx rfl (hb hby at_51) rfl (l' := #[.val (.long p0), .second, .val (.int p1), .val (.int p2), .val (.int p3), .val (.int p4), .val (.int f1), .val (.int f2), .val (.int cnt), .val (.int (1 : Int32)), .val (.int (0 : Int32)), .unset, .unset, .unset, .unset, .unset, .unset]) rfl ?_
          exact kt
        · -- pc 43: no
          refine ⟨s₁, _, (1 : Int32), (1 : Int32), X0, e0, N0, Or.inr (Or.inr ⟨rfl, rfl, hc43_503⟩), fun t kt => ?_⟩
          refine ck502 _ ?_
          refine XS.icmpNo X0.here hx rfl (hb hby at_36) rfl (flt hc36_501).1 ?_
          refine XS.iload X0.here hx rfl (hb hby at_39) rfl ?_
          refine XS.iload X0.here hx rfl (hb hby at_41) rfl ?_
          refine XS.icmpNo X0.here hx rfl (hb hby at_43) rfl (feq hc43_503).1 ?_
          refine XS.iconst X0.here hx rfl (hb hby at_46) ?_
          refine XS.goto X0.here hx rfl (pc0 := 47) (pc' := 51) rfl (hb hby at_47) (by decide) (by decide) ?_
          refine XS.istore X0.here hx rfl (hb hby at_51) rfl (l' := #[.val (.long p0), .second, .val (.int p1), .val (.int p2), .val (.int p3), .val (.int p4), .val (.int f1), .val (.int f2), .val (.int cnt), .val (.int (1 : Int32)), .val (.int (1 : Int32)), .unset, .unset, .unset, .unset, .unset, .unset]) rfl ?_
          exact kt
  rcases hj499_0 with ⟨rfl, rfl⟩ | ⟨rfl, rfl⟩ | ⟨rfl, rfl, hne⟩
  · -- floors: 0
    obtain ⟨T504, h504, X504, e504, E504, A504, D504, -, st504⟩ := newO X499 hx hZ hown (own_q hw 1 rfl) (own_q hw 2 rfl) (own_q hw 3 rfl) e499 (g := (mkF m 53 #[.val (.long p0), .second, .val (.int p1), .val (.int p2), .val (.int p3), .val (.int p4), .val (.int f1), .val (.int f2), .val (.int cnt), .val (.int (0 : Int32)), .val (.int (0 : Int32)), .unset, .unset, .unset, .unset, .unset, .unset] [])) rfl (hb hby at_53) (by decide) (by decide)
    obtain ⟨b504, g504⟩ : ∃ z, z = h0.size := ⟨_, rfl⟩
    rw [← g504] at A504 D504 st504
    have sz_b504 : h0.size ≤ b504 := Nat.le_trans (Keep.refl h0 []).1 (Nat.le_of_eq g504.symm)
    have gn_b504 : n0 ≤ b504 := Nat.le_trans Z0 sz_b504
    have hSk504 := Nat.le_trans hSk0 E504.1
    have EX504 := own_ext_trans (own_ext_refl h0) E504
    have KP504 := Keep.ext (Keep.refl h0 []) E504
    have F504_modCount : Fld Z h504 b504 "java/util/AbstractList" "modCount" "I" (.int (0 : Int32)) := D504 (Or.inl (own_q hw 23 rfl)) (ty := .int) (by decide)
    have F504_elementData : Fld Z h504 b504 "java/util/ArrayList" "elementData" "[Ljava/lang/Object;" .null := D504 (Or.inl (own_q hw 26 rfl)) (ty := (.array (.object "java/lang/Object"))) (by decide)
    have F504_size : Fld Z h504 b504 "java/util/ArrayList" "size" "I" (.int (0 : Int32)) := D504 (Or.inl (own_q hw 134 rfl)) (ty := .int) (by decide)
    obtain ⟨_, _, ⟨T505, L505, k505, n505⟩, -, X505, ⟨Lc505, hQ505, l505, y505, z505⟩, st505⟩ := X504.specialBack hx (y := (⟨"java/util/ArrayList", "<init>", "()V"⟩ : MethodName)) rfl hown (mvT hZ (own_q hw 4 rfl)) (mvT hZ (own_q hw 5 rfl)) (mvT hZ (own_q hw 6 rfl)) (by decide) (backOf (W := 1) (rm_ali l Z a0 hw [] b504 h504 n0 (Nat.le_trans Z0 EX504.1) ⟨A504, F504_elementData, F504_size, F504_modCount⟩ gn_b504 hS hn (own_ext_trans hEx EX504) dE oe kD hWd) hZ (own_q hw 6 rfl) (own_q hw 3 rfl) (by decide) (by decide)) (g := (mkF m 57 #[.val (.long p0), .second, .val (.int p1), .val (.int p2), .val (.int p3), .val (.int p4), .val (.int f1), .val (.int f2), .val (.int cnt), .val (.int (0 : Int32)), .val (.int (0 : Int32)), .unset, .unset, .unset, .unset, .unset, .unset] [(.ref b504), (.ref b504)])) rfl (by rw [hml]; rfl) (Steps.refl _) (a := b504) (argsL := []) (rest := [(.ref b504)]) (lenOf pd_13 rfl) rfl (by show 2 * 0 + _ ≤ _; exact Nat.le_of_eq rfl) (hb hby at_57) (fun _ _ => ⟨rfl, e504, (by decide : 1 + 0 ≤ _), (by decide : 3 + 0 ≤ _)⟩)
    dsimp only [Pt.U, Pt.locs, Pt.cells, Pt.slots] at X505 l505 y505 z505 st505 hQ505
    obtain rfl : k505 = 1 := y505; obtain rfl : n505 = 3 := z505
    obtain ⟨rfl, N505q, K505, EA505, FE505, FZ505, FM505⟩ := hQ505
    have N505 : Fr n0 L505 := by rw [l505]; exact Fr.app N499 N505q
    have e505 : T505.heap = T505.heap := rfl
    have hSk505 := Nat.le_trans hSk504 K505.1
    have EX505 := own_ext_keep EX504 K505 (allS sz_b504 all0)
    have KP505 := Keep.trans KP504 K505 (allS (Or.inr sz_b504) all0)
    obtain ⟨T506, h506, X506, e506, E506, A506, D506, -, st506⟩ := newO X505 hx hZ hown (own_q hw 1 rfl) (own_q hw 2 rfl) (own_q hw 3 rfl) e505 (g := (mkF m 102 #[.val (.long p0), .second, .val (.int p1), .val (.int p2), .val (.int p3), .val (.int p4), .val (.int f1), .val (.int f2), .val (.int cnt), .val (.int (0 : Int32)), .val (.int (0 : Int32)), .val (.ref b504), .unset, .unset, .unset, .unset, .unset] [])) rfl (hb hby at_102) (by decide) (by decide)
    obtain ⟨b506, g506⟩ : ∃ z, z = T505.heap.size := ⟨_, rfl⟩
    rw [← g506] at A506 D506 st506
    have sz_b506 : h0.size ≤ b506 := Nat.le_trans KP505.1 (Nat.le_of_eq g506.symm)
    have gn_b506 : n0 ≤ b506 := Nat.le_trans Z0 sz_b506
    have ne_b504_b506 : b504 ≠ b506 := Nat.ne_of_lt (Nat.lt_of_lt_of_le EA505.lt (Nat.le_of_eq g506.symm))
    have hSk506 := Nat.le_trans hSk505 E506.1
    have EX506 := own_ext_trans EX505 E506
    have KP506 := Keep.ext KP505 E506
    have F506_modCount : Fld Z h506 b506 "java/util/AbstractList" "modCount" "I" (.int (0 : Int32)) := D506 (Or.inl (own_q hw 23 rfl)) (ty := .int) (by decide)
    have F506_elementData : Fld Z h506 b506 "java/util/ArrayList" "elementData" "[Ljava/lang/Object;" .null := D506 (Or.inl (own_q hw 26 rfl)) (ty := (.array (.object "java/lang/Object"))) (by decide)
    have F506_size : Fld Z h506 b506 "java/util/ArrayList" "size" "I" (.int (0 : Int32)) := D506 (Or.inl (own_q hw 134 rfl)) (ty := .int) (by decide)
    obtain ⟨_, _, ⟨T507, L507, k507, n507⟩, -, X507, ⟨Lc507, hQ507, l507, y507, z507⟩, st507⟩ := X506.specialBack hx (y := (⟨"java/util/ArrayList", "<init>", "()V"⟩ : MethodName)) rfl hown (mvT hZ (own_q hw 4 rfl)) (mvT hZ (own_q hw 5 rfl)) (mvT hZ (own_q hw 6 rfl)) (by decide) (backOf (W := 1) (rm_ali l Z a0 hw [] b506 h506 n0 (Nat.le_trans Z0 EX506.1) ⟨A506, F506_elementData, F506_size, F506_modCount⟩ gn_b506 hS hn (own_ext_trans hEx EX506) dE oe kD hWd) hZ (own_q hw 6 rfl) (own_q hw 3 rfl) (by decide) (by decide)) (g := (mkF m 106 #[.val (.long p0), .second, .val (.int p1), .val (.int p2), .val (.int p3), .val (.int p4), .val (.int f1), .val (.int f2), .val (.int cnt), .val (.int (0 : Int32)), .val (.int (0 : Int32)), .val (.ref b504), .unset, .unset, .unset, .unset, .unset] [(.ref b506), (.ref b506)])) rfl (by rw [hml]; rfl) (Steps.refl _) (a := b506) (argsL := []) (rest := [(.ref b506)]) (lenOf pd_13 rfl) rfl (by show 2 * 0 + _ ≤ _; exact Nat.le_of_eq rfl) (hb hby at_106) (fun _ _ => ⟨rfl, e506, (by decide : 2 + 0 ≤ _), (by decide : 6 + 0 ≤ _)⟩)
    dsimp only [Pt.U, Pt.locs, Pt.cells, Pt.slots] at X507 l507 y507 z507 st507 hQ507
    obtain rfl : k507 = 2 := y507; obtain rfl : n507 = 6 := z507
    obtain ⟨rfl, N507q, K507, EA507, FE507, FZ507, FM507⟩ := hQ507
    have N507 : Fr n0 L507 := by rw [l507]; exact Fr.app N505 N507q
    have e507 : T507.heap = T507.heap := rfl
    have hSk507 := Nat.le_trans hSk506 K507.1
    have EX507 := own_ext_keep EX506 K507 (allS sz_b506 all0)
    have KP507 := Keep.trans KP506 K507 (allS (Or.inr sz_b506) all0)
    have Fx508 := ((EA505.ext E506).keep K507)
    obtain ⟨T509, h509, X509, e509, E509, A509, D509, -, st509⟩ := newO X507 hx hZ hown (own_q hw 27 rfl) (own_q hw 28 rfl) (own_q hw 29 rfl) e507 (g := (mkF m 111 #[.val (.long p0), .second, .val (.int p1), .val (.int p2), .val (.int p3), .val (.int p4), .val (.int f1), .val (.int f2), .val (.int cnt), .val (.int (0 : Int32)), .val (.int (0 : Int32)), .val (.ref b504), .val (.ref b506), .unset, .unset, .unset, .unset] [])) rfl (hb hby at_111) (by decide) (by decide)
    obtain ⟨b509, g509⟩ : ∃ z, z = T507.heap.size := ⟨_, rfl⟩
    rw [← g509] at A509 D509 st509
    have sz_b509 : h0.size ≤ b509 := Nat.le_trans KP507.1 (Nat.le_of_eq g509.symm)
    have gn_b509 : n0 ≤ b509 := Nat.le_trans Z0 sz_b509
    have ne_b504_b509 : b504 ≠ b509 := Nat.ne_of_lt (Nat.lt_of_lt_of_le Fx508.lt (Nat.le_of_eq g509.symm))
    have ne_b506_b509 : b506 ≠ b509 := Nat.ne_of_lt (Nat.lt_of_lt_of_le EA507.lt (Nat.le_of_eq g509.symm))
    have hSk509 := Nat.le_trans hSk507 E509.1
    have EX509 := own_ext_trans EX507 E509
    have KP509 := Keep.ext KP507 E509
    have F509_floors : Fld Z h509 b509 "com/example/parley/parley/floor/Conference" "floors" "[Lcom/example/parley/parley/floor/Conference$Floor;" .null := D509 (Or.inr (own_q hw 39 rfl)) (ty := (.array (.object "com/example/parley/parley/floor/Conference$Floor"))) (by decide)
    have F509_users : Fld Z h509 b509 "com/example/parley/parley/floor/Conference" "users" "Ljava/util/Map;" .null := D509 (Or.inr (own_q hw 57 rfl)) (ty := (.object "java/util/Map")) (by decide)
    have F509_pinned : Fld Z h509 b509 "com/example/parley/parley/floor/Conference" "pinned" "Ljava/util/Set;" .null := D509 (Or.inr (own_q hw 78 rfl)) (ty := (.object "java/util/Set")) (by decide)
    have F509_requests : Fld Z h509 b509 "com/example/parley/parley/floor/Conference" "requests" "Ljava/util/Map;" .null := D509 (Or.inr (own_q hw 80 rfl)) (ty := (.object "java/util/Map")) (by decide)
    have F509_madeBy : Fld Z h509 b509 "com/example/parley/parley/floor/Conference" "madeBy" "Ljava/util/Map;" .null := D509 (Or.inr (own_q hw 82 rfl)) (ty := (.object "java/util/Map")) (by decide)
    have F509_madeFor : Fld Z h509 b509 "com/example/parley/parley/floor/Conference" "madeFor" "Ljava/util/Map;" .null := D509 (Or.inr (own_q hw 84 rfl)) (ty := (.object "java/util/Map")) (by decide)
    have F509_requesterListeners : Fld Z h509 b509 "com/example/parley/parley/floor/Conference" "requesterListeners" "Ljava/util/List;" .null := D509 (Or.inr (own_q hw 88 rfl)) (ty := (.object "java/util/List")) (by decide)
    have F509_changeListeners : Fld Z h509 b509 "com/example/parley/parley/floor/Conference" "changeListeners" "Ljava/util/List;" .null := D509 (Or.inr (own_q hw 90 rfl)) (ty := (.object "java/util/List")) (by decide)
    have F509_id : Fld Z h509 b509 "com/example/parley/parley/floor/Conference" "id" "J" (.long (0 : Int64)) := D509 (Or.inr (own_q hw 96 rfl)) (ty := .long) (by decide)
    obtain ⟨xi, h_xi⟩ : ∃ zQ : Int64, (p0 &&& (4294967295 : Int64)) = zQ := ⟨_, rfl⟩
    have hxi : 0 ≤ xi.toInt ∧ xi.toInt ≤ 4294967295 := by rw [← h_xi]; exact own_and32 p0
    have Fx510 := (Fx508.ext E509)
    have Fx511 := (((FE505.ext E506).keep K507 (ninS ne_b504_b506 nin0)).ext E509)
    have Fx512 := (((FZ505.ext E506).keep K507 (ninS ne_b504_b506 nin0)).ext E509)
    have Fx513 := (((FM505.ext E506).keep K507 (ninS ne_b504_b506 nin0)).ext E509)
    have Fx514 := (EA507.ext E509)
    have Fx515 := (FE507.ext E509)
    have Fx516 := (FZ507.ext E509)
    have Fx517 := (FM507.ext E509)
    obtain ⟨_, _, ⟨T518, L518, k518, n518⟩, -, X518, ⟨Lc518, hQ518, l518, y518, z518⟩, st518⟩ := X509.specialBack hx (y := (⟨"com/example/parley/parley/floor/Conference", "<init>", "(JLjava/util/Collection;Ljava/util/Collection;)V"⟩ : MethodName)) rfl hown (mvT hZ (own_q hw 31 rfl)) (mvT hZ (own_q hw 32 rfl)) (mvT hZ (own_q hw 33 rfl)) (by decide) (backOf (W := 1) (rm_cfi_0 l Z a0 hw [] b509 xi b504 b506 h509 n0 (Nat.le_trans Z0 EX509.1) A509 F509_floors F509_users F509_pinned F509_requests F509_madeBy F509_madeFor F509_requesterListeners F509_changeListeners F509_id gn_b509 hS hn (own_ext_trans hEx EX509) dE oe kD hWd hxi.1 hxi.2 ⟨Fx510, Fx511, Fx512, Fx513⟩ ⟨Fx514, Fx515, Fx516, Fx517⟩ ne_b504_b509 ne_b506_b509 ) hZ (own_q hw 33 rfl) (own_q hw 29 rfl) (by decide) (by decide)) (g := (mkF m 124 #[.val (.long p0), .second, .val (.int p1), .val (.int p2), .val (.int p3), .val (.int p4), .val (.int f1), .val (.int f2), .val (.int cnt), .val (.int (0 : Int32)), .val (.int (0 : Int32)), .val (.ref b504), .val (.ref b506), .unset, .unset, .unset, .unset] [(.ref b506), (.ref b504), (.long xi), (.ref b509), (.ref b509)])) rfl (by rw [hml]; rfl) (Steps.refl _) (a := b509) (argsL := [(.long xi), (.ref b504), (.ref b506)]) (rest := [(.ref b509)]) (lenOf pd_390 rfl) rfl (by show 2 * 0 + _ ≤ _; exact Nat.le_of_eq rfl) (hb hby at_124) (fun _ _ => ⟨rfl, e509, (by decide : 3 + 12 ≤ _), (by decide : 17 + 65595 ≤ _)⟩)
    dsimp only [Pt.U, Pt.locs, Pt.cells, Pt.slots] at X518 l518 y518 z518 st518 hQ518
    obtain rfl : k518 = 15 := y518; obtain rfl : n518 = 65612 := z518
    obtain ⟨rfl, N518q, K518, fa, kF, E_C, F_C, A_C⟩ := hQ518
    have N518 : Fr n0 L518 := by rw [l518]; exact Fr.app N507 N518q
    have e518 : T518.heap = T518.heap := rfl
    have hSk518 := Nat.le_trans hSk509 K518.1
    have EX518 := own_ext_keep EX509 K518 (allS sz_b509 all0)
    have KP518 := Keep.trans KP509 K518 (allS (Or.inr sz_b509) all0)
    have ck519 : ∀ t, Steps p.tables e below (T518.setTop (mkF m 135 #[.val (.long p0), .second, .val (.int p1), .val (.int p2), .val (.int p3), .val (.int p4), .val (.int f1), .val (.int f2), .val (.int cnt), .val (.int (0 : Int32)), .val (.int (0 : Int32)), .val (.ref b504), .val (.ref b506), .val (.ref b509), .val (.int (p3 &&& (3 : Int32))), .unset, .unset] [])) t → Steps p.tables e below (s₁.setTop (entryFrame m #[(.long p0), (.int p1), (.int p2), (.int p3), (.int p4)] maxLocals)) t := by
      intro t kt
      refine ck499 _ ?_
      refine st504 _ ?_
      show Steps p.tables e below (T504.setTop (mkF m 56 #[.val (.long p0), .second, .val (.int p1), .val (.int p2), .val (.int p3), .val (.int p4), .val (.int f1), .val (.int f2), .val (.int cnt), .val (.int (0 : Int32)), .val (.int (0 : Int32)), .unset, .unset, .unset, .unset, .unset, .unset] [(.ref b504)])) _
      refine XS.dup X504.here hx rfl (hb hby at_56) rfl rfl ?_
      refine st505.trans ?_
      show Steps p.tables e below (T505.setTop (mkF m 60 #[.val (.long p0), .second, .val (.int p1), .val (.int p2), .val (.int p3), .val (.int p4), .val (.int f1), .val (.int f2), .val (.int cnt), .val (.int (0 : Int32)), .val (.int (0 : Int32)), .unset, .unset, .unset, .unset, .unset, .unset] [(.ref b504)])) _
      refine XS.astore X505.here hx rfl (hb hby at_60) rfl rfl (l' := #[.val (.long p0), .second, .val (.int p1), .val (.int p2), .val (.int p3), .val (.int p4), .val (.int f1), .val (.int f2), .val (.int cnt), .val (.int (0 : Int32)), .val (.int (0 : Int32)), .val (.ref b504), .unset, .unset, .unset, .unset, .unset]) rfl ?_
      refine XS.iload X505.here hx rfl (hb hby at_62) rfl ?_
      refine XS.ifYes X505.here hx rfl (pc0 := 64) (pc' := 82) rfl (hb hby at_64) rfl ((if0 _ _).trans (teq (by decide : (0 : Int32) = (0 : Int32))).1) (by decide) (by decide) ?_
      refine XS.iload X505.here hx rfl (hb hby at_82) rfl ?_
      refine XS.ifYes X505.here hx rfl (pc0 := 84) (pc' := 102) rfl (hb hby at_84) rfl ((if0 _ _).trans (teq (by decide : (0 : Int32) = (0 : Int32))).1) (by decide) (by decide) ?_
      refine st506 _ ?_
      show Steps p.tables e below (T506.setTop (mkF m 105 #[.val (.long p0), .second, .val (.int p1), .val (.int p2), .val (.int p3), .val (.int p4), .val (.int f1), .val (.int f2), .val (.int cnt), .val (.int (0 : Int32)), .val (.int (0 : Int32)), .val (.ref b504), .unset, .unset, .unset, .unset, .unset] [(.ref b506)])) _
      refine XS.dup X506.here hx rfl (hb hby at_105) rfl rfl ?_
      refine st507.trans ?_
      show Steps p.tables e below (T507.setTop (mkF m 109 #[.val (.long p0), .second, .val (.int p1), .val (.int p2), .val (.int p3), .val (.int p4), .val (.int f1), .val (.int f2), .val (.int cnt), .val (.int (0 : Int32)), .val (.int (0 : Int32)), .val (.ref b504), .unset, .unset, .unset, .unset, .unset] [(.ref b506)])) _
      refine XS.astore X507.here hx rfl (hb hby at_109) rfl rfl (l' := #[.val (.long p0), .second, .val (.int p1), .val (.int p2), .val (.int p3), .val (.int p4), .val (.int f1), .val (.int f2), .val (.int cnt), .val (.int (0 : Int32)), .val (.int (0 : Int32)), .val (.ref b504), .val (.ref b506), .unset, .unset, .unset, .unset]) rfl ?_
      refine st509 _ ?_
      show Steps p.tables e below (T509.setTop (mkF m 114 #[.val (.long p0), .second, .val (.int p1), .val (.int p2), .val (.int p3), .val (.int p4), .val (.int f1), .val (.int f2), .val (.int cnt), .val (.int (0 : Int32)), .val (.int (0 : Int32)), .val (.ref b504), .val (.ref b506), .unset, .unset, .unset, .unset] [(.ref b509)])) _
      refine XS.dup X509.here hx rfl (hb hby at_114) rfl rfl ?_
      refine XS.lloadN X509.here hx rfl (hb hby at_115) rfl ?_
      refine X509.ldc2Long hx hown (mvT hZ (own_q hw 30 rfl)) (g := (mkF m 116 #[.val (.long p0), .second, .val (.int p1), .val (.int p2), .val (.int p3), .val (.int p4), .val (.int f1), .val (.int f2), .val (.int cnt), .val (.int (0 : Int32)), .val (.int (0 : Int32)), .val (.ref b504), .val (.ref b506), .unset, .unset, .unset, .unset] [(.long p0), (.ref b509), (.ref b509)])) rfl (hb hby at_116) _ ?_
      show Steps p.tables e below (T509.setTop (mkF m 119 #[.val (.long p0), .second, .val (.int p1), .val (.int p2), .val (.int p3), .val (.int p4), .val (.int f1), .val (.int f2), .val (.int cnt), .val (.int (0 : Int32)), .val (.int (0 : Int32)), .val (.ref b504), .val (.ref b506), .unset, .unset, .unset, .unset] [(.long (4294967295 : Int64)), (.long p0), (.ref b509), (.ref b509)])) _
      refine XS.land X509.here hx rfl (hb hby at_119) rfl ?_
      show Steps p.tables e below (T509.setTop (mkF m 120 #[.val (.long p0), .second, .val (.int p1), .val (.int p2), .val (.int p3), .val (.int p4), .val (.int f1), .val (.int f2), .val (.int cnt), .val (.int (0 : Int32)), .val (.int (0 : Int32)), .val (.ref b504), .val (.ref b506), .unset, .unset, .unset, .unset] [(.long (p0 &&& (4294967295 : Int64))), (.ref b509), (.ref b509)])) _
      rw [h_xi]
      show Steps p.tables e below (T509.setTop (mkF m 120 #[.val (.long p0), .second, .val (.int p1), .val (.int p2), .val (.int p3), .val (.int p4), .val (.int f1), .val (.int f2), .val (.int cnt), .val (.int (0 : Int32)), .val (.int (0 : Int32)), .val (.ref b504), .val (.ref b506), .unset, .unset, .unset, .unset] [(.long xi), (.ref b509), (.ref b509)])) _
      refine XS.aload X509.here hx rfl (hb hby at_120) rfl rfl ?_
      refine XS.aload X509.here hx rfl (hb hby at_122) rfl rfl ?_
      refine st518.trans ?_
      show Steps p.tables e below (T518.setTop (mkF m 127 #[.val (.long p0), .second, .val (.int p1), .val (.int p2), .val (.int p3), .val (.int p4), .val (.int f1), .val (.int f2), .val (.int cnt), .val (.int (0 : Int32)), .val (.int (0 : Int32)), .val (.ref b504), .val (.ref b506), .unset, .unset, .unset, .unset] [(.ref b509)])) _
      refine XS.astore X518.here hx rfl (hb hby at_127) rfl rfl (l' := #[.val (.long p0), .second, .val (.int p1), .val (.int p2), .val (.int p3), .val (.int p4), .val (.int f1), .val (.int f2), .val (.int cnt), .val (.int (0 : Int32)), .val (.int (0 : Int32)), .val (.ref b504), .val (.ref b506), .val (.ref b509), .unset, .unset, .unset]) rfl ?_
      refine XS.iload X518.here hx rfl (hb hby at_129) rfl ?_
      refine XS.iconst X518.here hx rfl (hb hby at_131) ?_
      refine XS.iand X518.here hx rfl (hb hby at_132) rfl ?_
      refine XS.istore X518.here hx rfl (hb hby at_133) rfl (l' := #[.val (.long p0), .second, .val (.int p1), .val (.int p2), .val (.int p3), .val (.int p4), .val (.int f1), .val (.int f2), .val (.int cnt), .val (.int (0 : Int32)), .val (.int (0 : Int32)), .val (.ref b504), .val (.ref b506), .val (.ref b509), .val (.int (p3 &&& (3 : Int32))), .unset, .unset]) rfl ?_
      exact kt
    (try clear N518q); (try clear st518); (try clear Lc518); (try clear n518); (try clear k518); (try clear L518); (try clear F509_id); (try clear F509_changeListeners); (try clear F509_requesterListeners); (try clear F509_madeFor); (try clear F509_madeBy); (try clear F509_requests); (try clear F509_pinned); (try clear F509_users); (try clear F509_floors); (try clear KP509); (try clear EX509); (try clear st509); (try clear D509); (try clear A509); (try clear E509); (try clear e509); (try clear X509); (try clear h509); (try clear T509); (try clear Fx508); (try clear KP507); (try clear EX507); (try clear e507); (try clear N507); (try clear K507); (try clear N507q); (try clear st507); (try clear Lc507); (try clear X507); (try clear n507); (try clear k507); (try clear L507); (try clear T507); (try clear F506_size); (try clear F506_elementData); (try clear F506_modCount); (try clear KP506); (try clear EX506); (try clear st506); (try clear D506); (try clear A506); (try clear E506); (try clear e506); (try clear X506); (try clear h506); (try clear T506); (try clear KP505); (try clear EX505); (try clear e505); (try clear N505); (try clear K505); (try clear N505q); (try clear st505); (try clear Lc505); (try clear X505); (try clear n505); (try clear k505); (try clear L505); (try clear T505); (try clear F504_size); (try clear F504_elementData); (try clear F504_modCount); (try clear KP504); (try clear EX504); (try clear st504); (try clear D504); (try clear A504); (try clear E504); (try clear e504); (try clear X504); (try clear h504); (try clear T504)
    obtain ⟨T526, L526, qv, X526, e526, N526, ck526⟩ : ∃ (TJ : State) (LJ : List Loc) (qv : Int32), Stand p l e room_1 (s.setVm s.vm) m #[(.long p0), (.int p1), (.int p2), (.int p3), (.int p4)] below meth c TJ LJ 15 65612 ∧ TJ.heap = T518.heap ∧ Fr n0 LJ ∧ (∀ t, Steps p.tables e below (TJ.setTop (mkF m 195 #[.val (.long p0), .second, .val (.int p1), .val (.int p2), .val (.int p3), .val (.int p4), .val (.int f1), .val (.int f2), .val (.int cnt), .val (.int (0 : Int32)), .val (.int (0 : Int32)), .val (.ref b504), .val (.ref b506), .val (.ref b509), .val (.int (p3 &&& (3 : Int32))), .val (.int qv), .unset] [])) t → Steps p.tables e below (s₁.setTop (entryFrame m #[(.long p0), (.int p1), (.int p2), (.int p3), (.int p4)] maxLocals)) t) := by
      by_cases hc137_527 : (p3 &&& (3 : Int32)) = (0 : Int32)
      · -- pc 137: yes
        refine ⟨T518, _, f1, X518, e518, N518, fun t kt => ?_⟩
        refine ck519 _ ?_
        refine XS.iload X518.here hx rfl (hb hby at_135) rfl ?_
        refine XS.ifNo X518.here hx rfl (hb hby at_137) rfl ((if0 _ _).trans (teq hc137_527).2) ?_
        refine XS.iload X518.here hx rfl (hb hby at_140) rfl ?_
        refine XS.istore X518.here hx rfl (hb hby at_142) rfl (l' := #[.val (.long p0), .second, .val (.int p1), .val (.int p2), .val (.int p3), .val (.int p4), .val (.int f1), .val (.int f2), .val (.int cnt), .val (.int (0 : Int32)), .val (.int (0 : Int32)), .val (.ref b504), .val (.ref b506), .val (.ref b509), .val (.int (p3 &&& (3 : Int32))), .val (.int f1), .unset]) rfl ?_
        refine XS.goto X518.here hx rfl (pc0 := 144) (pc' := 195) rfl (hb hby at_144) (by decide) (by decide) ?_
        exact kt
      · -- pc 137: no
        have ck529 : ∀ t, Steps p.tables e below (T518.setTop (mkF m 150 #[.val (.long p0), .second, .val (.int p1), .val (.int p2), .val (.int p3), .val (.int p4), .val (.int f1), .val (.int f2), .val (.int cnt), .val (.int (0 : Int32)), .val (.int (0 : Int32)), .val (.ref b504), .val (.ref b506), .val (.ref b509), .val (.int (p3 &&& (3 : Int32))), .unset, .unset] [(.int (1 : Int32)), (.int (p3 &&& (3 : Int32)))])) t → Steps p.tables e below (s₁.setTop (entryFrame m #[(.long p0), (.int p1), (.int p2), (.int p3), (.int p4)] maxLocals)) t := by
          intro t kt
          refine ck519 _ ?_
          refine XS.iload X518.here hx rfl (hb hby at_135) rfl ?_
          refine XS.ifYes X518.here hx rfl (pc0 := 137) (pc' := 147) rfl (hb hby at_137) rfl ((if0 _ _).trans (feq hc137_527).2) (by decide) (by decide) ?_
          refine XS.iload X518.here hx rfl (hb hby at_147) rfl ?_
          refine XS.iconst X518.here hx rfl (hb hby at_149) ?_
          exact kt
        by_cases hc150_528 : (p3 &&& (3 : Int32)) = (1 : Int32)
        · -- pc 150: yes
          refine ⟨T518, _, f2, X518, e518, N518, fun t kt => ?_⟩
          refine ck529 _ ?_
          refine XS.icmpNo X518.here hx rfl (hb hby at_150) rfl (teq hc150_528).2 ?_
          refine XS.iload X518.here hx rfl (hb hby at_153) rfl ?_
          refine XS.istore X518.here hx rfl (hb hby at_155) rfl (l' := #[.val (.long p0), .second, .val (.int p1), .val (.int p2), .val (.int p3), .val (.int p4), .val (.int f1), .val (.int f2), .val (.int cnt), .val (.int (0 : Int32)), .val (.int (0 : Int32)), .val (.ref b504), .val (.ref b506), .val (.ref b509), .val (.int (p3 &&& (3 : Int32))), .val (.int f2), .unset]) rfl ?_
          refine XS.goto X518.here hx rfl (pc0 := 157) (pc' := 195) rfl (hb hby at_157) (by decide) (by decide) ?_
          exact kt
        · -- pc 150: no
          by_cases hc163_530 : (p3 &&& (3 : Int32)) = (2 : Int32)
          · -- pc 163: yes
            refine ⟨T518, _, p4, X518, e518, N518, fun t kt => ?_⟩
            refine ck529 _ ?_
            refine XS.icmpYes X518.here hx rfl (pc0 := 150) (pc' := 160) rfl (hb hby at_150) rfl (feq hc150_528).2 (by decide) (by decide) ?_
            refine XS.iload X518.here hx rfl (hb hby at_160) rfl ?_
            refine XS.iconst X518.here hx rfl (hb hby at_162) ?_
            refine XS.icmpNo X518.here hx rfl (hb hby at_163) rfl (teq hc163_530).2 ?_
            refine XS.iload X518.here hx rfl (hb hby at_166) rfl ?_
            refine XS.istore X518.here hx rfl (hb hby at_168) rfl (l' := #[.val (.long p0), .second, .val (.int p1), .val (.int p2), .val (.int p3), .val (.int p4), .val (.int f1), .val (.int f2), .val (.int cnt), .val (.int (0 : Int32)), .val (.int (0 : Int32)), .val (.ref b504), .val (.ref b506), .val (.ref b509), .val (.int (p3 &&& (3 : Int32))), .val (.int p4), .unset]) rfl ?_
            refine XS.goto X518.here hx rfl (pc0 := 170) (pc' := 195) rfl (hb hby at_170) (by decide) (by decide) ?_
            exact kt
          · -- pc 163: no
            have ck532 : ∀ t, Steps p.tables e below (T518.setTop (mkF m 177 #[.val (.long p0), .second, .val (.int p1), .val (.int p2), .val (.int p3), .val (.int p4), .val (.int f1), .val (.int f2), .val (.int cnt), .val (.int (0 : Int32)), .val (.int (0 : Int32)), .val (.ref b504), .val (.ref b506), .val (.ref b509), .val (.int (p3 &&& (3 : Int32))), .unset, .unset] [(.int (p4 &&& (1 : Int32)))])) t → Steps p.tables e below (s₁.setTop (entryFrame m #[(.long p0), (.int p1), (.int p2), (.int p3), (.int p4)] maxLocals)) t := by
              intro t kt
              refine ck529 _ ?_
              refine XS.icmpYes X518.here hx rfl (pc0 := 150) (pc' := 160) rfl (hb hby at_150) rfl (feq hc150_528).2 (by decide) (by decide) ?_
              refine XS.iload X518.here hx rfl (hb hby at_160) rfl ?_
              refine XS.iconst X518.here hx rfl (hb hby at_162) ?_
              refine XS.icmpYes X518.here hx rfl (pc0 := 163) (pc' := 173) rfl (hb hby at_163) rfl (feq hc163_530).2 (by decide) (by decide) ?_
              refine XS.iload X518.here hx rfl (hb hby at_173) rfl ?_
              refine XS.iconst X518.here hx rfl (hb hby at_175) ?_
              refine XS.iand X518.here hx rfl (hb hby at_176) rfl ?_
              exact kt
            by_cases hc177_531 : (p4 &&& (1 : Int32)) = (0 : Int32)
            · -- pc 177: yes
              refine ⟨T518, _, (f1 + (1 : Int32)), X518, e518, N518, fun t kt => ?_⟩
              refine ck532 _ ?_
              refine XS.ifNo X518.here hx rfl (hb hby at_177) rfl ((if0 _ _).trans (teq hc177_531).2) ?_
              refine XS.iload X518.here hx rfl (hb hby at_180) rfl ?_
              refine XS.iconst X518.here hx rfl (hb hby at_182) ?_
              refine XS.iadd X518.here hx rfl (hb hby at_183) rfl ?_
              refine XS.istore X518.here hx rfl (hb hby at_184) rfl (l' := #[.val (.long p0), .second, .val (.int p1), .val (.int p2), .val (.int p3), .val (.int p4), .val (.int f1), .val (.int f2), .val (.int cnt), .val (.int (0 : Int32)), .val (.int (0 : Int32)), .val (.ref b504), .val (.ref b506), .val (.ref b509), .val (.int (p3 &&& (3 : Int32))), .val (.int (f1 + (1 : Int32))), .unset]) rfl ?_
              refine XS.goto X518.here hx rfl (pc0 := 186) (pc' := 195) rfl (hb hby at_186) (by decide) (by decide) ?_
              exact kt
            · -- pc 177: no
              refine ⟨T518, _, (f1 - (1 : Int32)), X518, e518, N518, fun t kt => ?_⟩
              refine ck532 _ ?_
              refine XS.ifYes X518.here hx rfl (pc0 := 177) (pc' := 189) rfl (hb hby at_177) rfl ((if0 _ _).trans (feq hc177_531).2) (by decide) (by decide) ?_
              refine XS.iload X518.here hx rfl (hb hby at_189) rfl ?_
              refine XS.iconst X518.here hx rfl (hb hby at_191) ?_
              refine XS.isub X518.here hx rfl (hb hby at_192) rfl ?_
              refine XS.istore X518.here hx rfl (hb hby at_193) rfl (l' := #[.val (.long p0), .second, .val (.int p1), .val (.int p2), .val (.int p3), .val (.int p4), .val (.int f1), .val (.int f2), .val (.int cnt), .val (.int (0 : Int32)), .val (.int (0 : Int32)), .val (.ref b504), .val (.ref b506), .val (.ref b509), .val (.int (p3 &&& (3 : Int32))), .val (.int (f1 - (1 : Int32))), .unset]) rfl ?_
              exact kt
    obtain ⟨cq533, kq533, q533a, q533b, q533c⟩ := isOf hZ e526 (E_C)
    obtain ⟨_, _, ⟨T533, L533, k533, n533⟩, -, X533, ⟨Lc533, hQ533, l533, y533, z533⟩, st533⟩ := X526.virtualBack hx (y := (⟨"com/example/parley/parley/floor/Conference", "hasFloor", "(I)Z"⟩ : MethodName)) (z := (⟨"com/example/parley/parley/floor/Conference", "hasFloor", "(I)Z"⟩ : MethodName)) hown (mvT hZ (own_q hw 135 rfl)) (mvT hZ (own_q hw 136 rfl)) (notFace_of_selects (args := #[]) (mvT hZ (own_q hw 138 rfl))) (mvT hZ (own_q hw 138 rfl)) (mvT hZ (own_q hw 137 rfl)) (by decide) (backOf (W := 0) (rm_hf l Z a0 hw [] b509 qv T518.heap n0 (Nat.le_trans Z0 EX518.1) fa kF [] F_C A_C .null (fun z _ => rfl) (Or.inl rfl) (0 : Int32) ⟨fun _ => rfl, fun _ => rfl, fun _ _ _ => rfl, fun _ _ z => absurd rfl z⟩) hZ (own_q hw 139 rfl) (own_q hw 29 rfl) (by decide) (by decide)) q533a q533c (g := (mkF m 230 #[.val (.long p0), .second, .val (.int p1), .val (.int p2), .val (.int p3), .val (.int p4), .val (.int f1), .val (.int f2), .val (.int cnt), .val (.int (0 : Int32)), .val (.int (0 : Int32)), .val (.ref b504), .val (.ref b506), .val (.ref b509), .val (.int (p3 &&& (3 : Int32))), .val (.int qv), .val (.int (0 : Int32))] [(.int qv), (.ref b509)])) rfl (by rw [hml]; rfl) (Steps.refl _) (argsL := [(.int qv)]) (rest := []) (lenOf pd_365 rfl) rfl (by show 2 * 0 + _ ≤ _; exact Nat.le_of_eq rfl) (hb hby at_230) (fun _ _ => ⟨rfl, e526, (by decide : 15 + 0 ≤ _), (by decide : 65612 + 0 ≤ _)⟩)
    dsimp only [Pt.U, Pt.locs, Pt.cells, Pt.slots] at X533 l533 y533 z533 st533 hQ533
    obtain rfl : k533 = 15 := y533; obtain rfl : n533 = 65612 := z533
    obtain ⟨rfl, N533q, e533⟩ := hQ533
    have N533 : Fr n0 L533 := by rw [l533]; exact Fr.app N526 N533q
    obtain ⟨fs, hr, hrun, hended, hW⟩ := X533.leaveW hSi0 (show _ ≤ T533.heap.size by rw [e533]; exact hSk518) (v := some (.int (1 : Int32))) (fun h => by rw [Bd.returns] at h; cases h)
    refine ⟨_, _, ck526 _ ?_, hrun, hended, _, _, rfl, ?_, own_retW (k := 15) (n := 65612) hW (by decide) (by decide)⟩
    · refine XS.iload X526.here hx rfl (hb hby at_195) rfl ?_
      refine XS.ifYes X526.here hx rfl (pc0 := 197) (pc' := 207) rfl (hb hby at_197) rfl ((if0 _ _).trans (teq (by decide : (0 : Int32) = (0 : Int32))).1) (by decide) (by decide) ?_
      refine XS.iload X526.here hx rfl (hb hby at_207) rfl ?_
      refine XS.ifYes X526.here hx rfl (pc0 := 209) (pc' := 223) rfl (hb hby at_209) rfl ((if0 _ _).trans (teq (by decide : (0 : Int32) = (0 : Int32))).1) (by decide) (by decide) ?_
      refine XS.iconst X526.here hx rfl (hb hby at_223) ?_
      refine XS.istore X526.here hx rfl (hb hby at_224) rfl (l' := #[.val (.long p0), .second, .val (.int p1), .val (.int p2), .val (.int p3), .val (.int p4), .val (.int f1), .val (.int f2), .val (.int cnt), .val (.int (0 : Int32)), .val (.int (0 : Int32)), .val (.ref b504), .val (.ref b506), .val (.ref b509), .val (.int (p3 &&& (3 : Int32))), .val (.int qv), .val (.int (0 : Int32))]) rfl ?_
      refine XS.aload X526.here hx rfl (hb hby at_226) rfl rfl ?_
      refine XS.iload X526.here hx rfl (hb hby at_228) rfl ?_
      refine st533.trans ?_
      show Steps p.tables e below (T533.setTop (mkF m 233 #[.val (.long p0), .second, .val (.int p1), .val (.int p2), .val (.int p3), .val (.int p4), .val (.int f1), .val (.int f2), .val (.int cnt), .val (.int (0 : Int32)), .val (.int (0 : Int32)), .val (.ref b504), .val (.ref b506), .val (.ref b509), .val (.int (p3 &&& (3 : Int32))), .val (.int qv), .val (.int (0 : Int32))] [(.int (0 : Int32))])) _
      refine XS.iload X533.here hx rfl (hb hby at_233) rfl ?_
      refine XS.icmpNo X533.here hx rfl (hb hby at_235) rfl (teq (by decide : (0 : Int32) = (0 : Int32))).2 ?_
      refine XS.iconst X533.here hx rfl (hb hby at_238) ?_
      refine XS.goto X533.here hx rfl (pc0 := 239) (pc' := 243) rfl (hb hby at_239) (by decide) (by decide) ?_
      exact retN X533 hx (t := .boolean) Bd.returns (by simp) (hb hby at_243) hr
    · show own_Made (some (.int 1)) n0 _ T533.heap _
      rw [e533]
      exact ⟨rfl, N533, trivial⟩
  · -- floors: 1
    obtain ⟨T534, h534, X534, e534, E534, A534, D534, -, st534⟩ := newO X499 hx hZ hown (own_q hw 1 rfl) (own_q hw 2 rfl) (own_q hw 3 rfl) e499 (g := (mkF m 53 #[.val (.long p0), .second, .val (.int p1), .val (.int p2), .val (.int p3), .val (.int p4), .val (.int f1), .val (.int f2), .val (.int cnt), .val (.int (1 : Int32)), .val (.int (0 : Int32)), .unset, .unset, .unset, .unset, .unset, .unset] [])) rfl (hb hby at_53) (by decide) (by decide)
    obtain ⟨b534, g534⟩ : ∃ z, z = h0.size := ⟨_, rfl⟩
    rw [← g534] at A534 D534 st534
    have sz_b534 : h0.size ≤ b534 := Nat.le_trans (Keep.refl h0 []).1 (Nat.le_of_eq g534.symm)
    have gn_b534 : n0 ≤ b534 := Nat.le_trans Z0 sz_b534
    have hSk534 := Nat.le_trans hSk0 E534.1
    have EX534 := own_ext_trans (own_ext_refl h0) E534
    have KP534 := Keep.ext (Keep.refl h0 []) E534
    have F534_modCount : Fld Z h534 b534 "java/util/AbstractList" "modCount" "I" (.int (0 : Int32)) := D534 (Or.inl (own_q hw 23 rfl)) (ty := .int) (by decide)
    have F534_elementData : Fld Z h534 b534 "java/util/ArrayList" "elementData" "[Ljava/lang/Object;" .null := D534 (Or.inl (own_q hw 26 rfl)) (ty := (.array (.object "java/lang/Object"))) (by decide)
    have F534_size : Fld Z h534 b534 "java/util/ArrayList" "size" "I" (.int (0 : Int32)) := D534 (Or.inl (own_q hw 134 rfl)) (ty := .int) (by decide)
    obtain ⟨_, _, ⟨T535, L535, k535, n535⟩, -, X535, ⟨Lc535, hQ535, l535, y535, z535⟩, st535⟩ := X534.specialBack hx (y := (⟨"java/util/ArrayList", "<init>", "()V"⟩ : MethodName)) rfl hown (mvT hZ (own_q hw 4 rfl)) (mvT hZ (own_q hw 5 rfl)) (mvT hZ (own_q hw 6 rfl)) (by decide) (backOf (W := 1) (rm_ali l Z a0 hw [] b534 h534 n0 (Nat.le_trans Z0 EX534.1) ⟨A534, F534_elementData, F534_size, F534_modCount⟩ gn_b534 hS hn (own_ext_trans hEx EX534) dE oe kD hWd) hZ (own_q hw 6 rfl) (own_q hw 3 rfl) (by decide) (by decide)) (g := (mkF m 57 #[.val (.long p0), .second, .val (.int p1), .val (.int p2), .val (.int p3), .val (.int p4), .val (.int f1), .val (.int f2), .val (.int cnt), .val (.int (1 : Int32)), .val (.int (0 : Int32)), .unset, .unset, .unset, .unset, .unset, .unset] [(.ref b534), (.ref b534)])) rfl (by rw [hml]; rfl) (Steps.refl _) (a := b534) (argsL := []) (rest := [(.ref b534)]) (lenOf pd_13 rfl) rfl (by show 2 * 0 + _ ≤ _; exact Nat.le_of_eq rfl) (hb hby at_57) (fun _ _ => ⟨rfl, e534, (by decide : 1 + 0 ≤ _), (by decide : 3 + 0 ≤ _)⟩)
    dsimp only [Pt.U, Pt.locs, Pt.cells, Pt.slots] at X535 l535 y535 z535 st535 hQ535
    obtain rfl : k535 = 1 := y535; obtain rfl : n535 = 3 := z535
    obtain ⟨rfl, N535q, K535, EA535, FE535, FZ535, FM535⟩ := hQ535
    have N535 : Fr n0 L535 := by rw [l535]; exact Fr.app N499 N535q
    have e535 : T535.heap = T535.heap := rfl
    have hSk535 := Nat.le_trans hSk534 K535.1
    have EX535 := own_ext_keep EX534 K535 (allS sz_b534 all0)
    have KP535 := Keep.trans KP534 K535 (allS (Or.inr sz_b534) all0)
    obtain ⟨T536, h536, X536, e536, E536, A536, D536, -, st536⟩ := newO X535 hx hZ hown (own_q hw 141 rfl) (own_q hw 142 rfl) (own_q hw 143 rfl) e535 (g := (mkF m 69 #[.val (.long p0), .second, .val (.int p1), .val (.int p2), .val (.int p3), .val (.int p4), .val (.int f1), .val (.int f2), .val (.int cnt), .val (.int (1 : Int32)), .val (.int (0 : Int32)), .val (.ref b534), .unset, .unset, .unset, .unset, .unset] [(.ref b534)])) rfl (hb hby at_69) (by decide) (by decide)
    obtain ⟨b536, g536⟩ : ∃ z, z = T535.heap.size := ⟨_, rfl⟩
    rw [← g536] at A536 D536 st536
    have sz_b536 : h0.size ≤ b536 := Nat.le_trans KP535.1 (Nat.le_of_eq g536.symm)
    have gn_b536 : n0 ≤ b536 := Nat.le_trans Z0 sz_b536
    have ne_b534_b536 : b534 ≠ b536 := Nat.ne_of_lt (Nat.lt_of_lt_of_le EA535.lt (Nat.le_of_eq g536.symm))
    have hSk536 := Nat.le_trans hSk535 E536.1
    have EX536 := own_ext_trans EX535 E536
    have KP536 := Keep.ext KP535 E536
    have F536_id : Fld Z h536 b536 "com/example/parley/parley/floor/FloorSettings" "id" "I" (.int (0 : Int32)) := D536 (Or.inr (own_q hw 186 rfl)) (ty := .int) (by decide)
    have F536_chair : Fld Z h536 b536 "com/example/parley/parley/floor/FloorSettings" "chair" "Ljava/util/OptionalInt;" .null := D536 (Or.inr (own_q hw 188 rfl)) (ty := (.object "java/util/OptionalInt")) (by decide)
    have F536_maxRequestsPerUser : Fld Z h536 b536 "com/example/parley/parley/floor/FloorSettings" "maxRequestsPerUser" "I" (.int (0 : Int32)) := D536 (Or.inr (own_q hw 190 rfl)) (ty := .int) (by decide)
    have ck537 : ∀ t, Steps p.tables e below (T536.setTop (mkF m 75 #[.val (.long p0), .second, .val (.int p1), .val (.int p2), .val (.int p3), .val (.int p4), .val (.int f1), .val (.int f2), .val (.int cnt), .val (.int (1 : Int32)), .val (.int (0 : Int32)), .val (.ref b534), .unset, .unset, .unset, .unset, .unset] [(.int f1), (.ref b536), (.ref b536), (.ref b534)])) t → Steps p.tables e below (s₁.setTop (entryFrame m #[(.long p0), (.int p1), (.int p2), (.int p3), (.int p4)] maxLocals)) t := by
      intro t kt
      refine ck499 _ ?_
      refine st534 _ ?_
      show Steps p.tables e below (T534.setTop (mkF m 56 #[.val (.long p0), .second, .val (.int p1), .val (.int p2), .val (.int p3), .val (.int p4), .val (.int f1), .val (.int f2), .val (.int cnt), .val (.int (1 : Int32)), .val (.int (0 : Int32)), .unset, .unset, .unset, .unset, .unset, .unset] [(.ref b534)])) _
      refine XS.dup X534.here hx rfl (hb hby at_56) rfl rfl ?_
      refine st535.trans ?_
      show Steps p.tables e below (T535.setTop (mkF m 60 #[.val (.long p0), .second, .val (.int p1), .val (.int p2), .val (.int p3), .val (.int p4), .val (.int f1), .val (.int f2), .val (.int cnt), .val (.int (1 : Int32)), .val (.int (0 : Int32)), .unset, .unset, .unset, .unset, .unset, .unset] [(.ref b534)])) _
      refine XS.astore X535.here hx rfl (hb hby at_60) rfl rfl (l' := #[.val (.long p0), .second, .val (.int p1), .val (.int p2), .val (.int p3), .val (.int p4), .val (.int f1), .val (.int f2), .val (.int cnt), .val (.int (1 : Int32)), .val (.int (0 : Int32)), .val (.ref b534), .unset, .unset, .unset, .unset, .unset]) rfl ?_
      refine XS.iload X535.here hx rfl (hb hby at_62) rfl ?_
      refine XS.ifNo X535.here hx rfl (hb hby at_64) rfl ((if0 _ _).trans (feq (by decide : ¬ ((1 : Int32) = (0 : Int32)))).1) ?_
      refine XS.aload X535.here hx rfl (hb hby at_67) rfl rfl ?_
      refine st536 _ ?_
      show Steps p.tables e below (T536.setTop (mkF m 72 #[.val (.long p0), .second, .val (.int p1), .val (.int p2), .val (.int p3), .val (.int p4), .val (.int f1), .val (.int f2), .val (.int cnt), .val (.int (1 : Int32)), .val (.int (0 : Int32)), .val (.ref b534), .unset, .unset, .unset, .unset, .unset] [(.ref b536), (.ref b534)])) _
      refine XS.dup X536.here hx rfl (hb hby at_72) rfl rfl ?_
      refine XS.iload X536.here hx rfl (hb hby at_73) rfl ?_
      exact kt
    (try clear st536); (try clear D536); (try clear KP535); (try clear EX535); (try clear e535); (try clear K535); (try clear N535q); (try clear st535); (try clear Lc535); (try clear X535); (try clear n535); (try clear k535); (try clear L535); (try clear T535); (try clear F534_size); (try clear F534_elementData); (try clear F534_modCount); (try clear KP534); (try clear EX534); (try clear st534); (try clear D534); (try clear A534); (try clear E534); (try clear e534); (try clear X534); (try clear h534); (try clear T534)
    obtain ⟨_, _, ⟨T538, L538, k538, n538⟩, -, X538r, S538r, g538r, ⟨Lc538, hQ538, l538, y538, z538⟩, st538⟩ := X536.specialBackS hx (y := (⟨"com/example/parley/parley/floor/FloorSettings", "<init>", "(I)V"⟩ : MethodName)) rfl hown (mvT hZ (own_q hw 144 rfl)) (mvT hZ (own_q hw 145 rfl)) (mvT hZ (own_q hw 146 rfl)) (by decide) (backOfS (W := 2) (rm_fs1 l Z a0 hw [] b536 f1 h536 n0 (Nat.le_trans Z0 EX536.1) A536 F536_id F536_chair F536_maxRequestsPerUser gn_b536 hf1 hS hn (own_ext_trans hEx EX536) dE oe kD hWd) hZ (own_q hw 146 rfl) (own_q hw 143 rfl) (by decide) (by decide)) (g := (mkF m 75 #[.val (.long p0), .second, .val (.int p1), .val (.int p2), .val (.int p3), .val (.int p4), .val (.int f1), .val (.int f2), .val (.int cnt), .val (.int (1 : Int32)), .val (.int (0 : Int32)), .val (.ref b534), .unset, .unset, .unset, .unset, .unset] [(.int f1), (.ref b536), (.ref b536), (.ref b534)])) rfl (by rw [hml]; rfl) (Steps.refl _) (a := b536) (argsL := [(.int f1)]) (rest := [(.ref b536), (.ref b534)]) (lenOf pd_391 rfl) rfl (by show 2 * 0 + _ ≤ _; exact Nat.le_of_eq rfl) (hb hby at_75) (fun _ _ => ⟨rfl, e536, (by decide : 2 + 2 ≤ _), (by decide : 6 + 36 ≤ _)⟩)
    dsimp only [Pt.U, Pt.locs, Pt.cells, Pt.slots] at X538r S538r g538r l538 y538 z538 st538 hQ538
    obtain rfl : k538 = 4 := y538; obtain rfl : n538 = 42 := z538
    obtain ⟨X538, hSi538, hZ, hown⟩ := rebS hSi0 (show _ ≤ T536.heap.size by rw [e536]; exact hSk536) X538r S538r g538r hZ hown
    obtain ⟨rfl, N538q, K538, hX538⟩ := hQ538
    have N538 : Fr n0 L538 := by rw [l538]; exact Fr.app N535 N538q
    have e538 : T538.heap = T538.heap := rfl
    have hSk538 := Nat.le_trans hSk536 K538.1
    have EX538 := own_ext_keep EX536 K538 (allS sz_b536 all0)
    have KP538 := Keep.trans KP536 K538 (allS (Or.inr sz_b536) all0)
    have Fx539 := ((EA535.ext E536).keep K538)
    have Fx540 := ((FE535.ext E536).keep K538 (ninS ne_b534_b536 nin0))
    have Fx541 := ((FZ535.ext E536).keep K538 (ninS ne_b534_b536 nin0))
    have Fx542 := ((FM535.ext E536).keep K538 (ninS ne_b534_b536 nin0))
    obtain ⟨cq543, kq543, q543a, q543b, q543c⟩ := isOf hZ e538 (Fx539)
    obtain ⟨_, _, ⟨T543, L543, k543, n543⟩, -, X543, ⟨Lc543, hQ543, l543, y543, z543⟩, st543⟩ := X538.virtualBack hx (y := (⟨"java/util/ArrayList", "add", "(Ljava/lang/Object;)Z"⟩ : MethodName)) (z := (⟨"java/util/ArrayList", "add", "(Ljava/lang/Object;)Z"⟩ : MethodName)) hown (mvT hZ (own_q hw 191 rfl)) (mvT hZ (own_q hw 192 rfl)) (notFace_of_selects (args := #[]) (mvT hZ (own_q hw 194 rfl))) (mvT hZ (own_q hw 194 rfl)) (mvT hZ (own_q hw 193 rfl)) (by decide) (backOf (W := 0) (rm_add_0 l Z a0 hw [] b534 b536 T538.heap n0 (Nat.le_trans Z0 EX538.1) hS hn (own_ext_trans hEx EX538) dE oe kD hWd ⟨Fx539, Fx540, Fx541, Fx542⟩ gn_b534 (hX538).1) hZ (own_q hw 195 rfl) (own_q hw 3 rfl) (by decide) (by decide)) q543a q543c (g := (mkF m 78 #[.val (.long p0), .second, .val (.int p1), .val (.int p2), .val (.int p3), .val (.int p4), .val (.int f1), .val (.int f2), .val (.int cnt), .val (.int (1 : Int32)), .val (.int (0 : Int32)), .val (.ref b534), .unset, .unset, .unset, .unset, .unset] [(.ref b536), (.ref b534)])) rfl (by rw [hml]; rfl) (Steps.refl _) (argsL := [(.ref b536)]) (rest := []) (lenOf pd_392 rfl) rfl (by show 2 * 0 + _ ≤ _; exact Nat.le_of_eq rfl) (hb hby at_78) (fun _ _ => ⟨rfl, e538, (by decide : 4 + 1 ≤ _), (by decide : 42 + 10 ≤ _)⟩)
    dsimp only [Pt.U, Pt.locs, Pt.cells, Pt.slots] at X543 l543 y543 z543 st543 hQ543
    obtain rfl : k543 = 5 := y543; obtain rfl : n543 = 52 := z543
    obtain ⟨rfl, N543q, K543, ed, kE, z543', ⟨EA543, FE543, FZ543, FM543⟩, V_E, O_E⟩ := hQ543
    have N543 : Fr n0 L543 := by rw [l543]; exact Fr.app N538 N543q
    have e543 : T543.heap = T543.heap := rfl
    have hSk543 := Nat.le_trans (Nat.le_refl T538.heap.size) K543.1
    have EX543 := own_ext_keep EX538 K543 (allS sz_b534 all0)
    have KP543 := Keep.trans KP538 K543 (allS (Or.inr sz_b534) all0)
    have sz_ed : h0.size ≤ ed := Nat.le_trans KP538.1 z543'
    have gn_ed : n0 ≤ ed := Nat.le_trans Z0 sz_ed
    have ne_b534_ed : b534 ≠ ed := Nat.ne_of_lt (Nat.lt_of_lt_of_le Fx539.lt z543')
    have ne_b536_ed : b536 ≠ ed := Nat.ne_of_lt (Nat.lt_of_lt_of_le hX538.lt z543')
    have Fx544 := (hX538.keep K543 (ninS (Ne.symm ne_b534_b536) nin0))
    obtain ⟨T545, h545, X545, e545, E545, A545, D545, -, st545⟩ := newO X543 hx hZ hown (own_q hw 1 rfl) (own_q hw 2 rfl) (own_q hw 3 rfl) e543 (g := (mkF m 102 #[.val (.long p0), .second, .val (.int p1), .val (.int p2), .val (.int p3), .val (.int p4), .val (.int f1), .val (.int f2), .val (.int cnt), .val (.int (1 : Int32)), .val (.int (0 : Int32)), .val (.ref b534), .unset, .unset, .unset, .unset, .unset] [])) rfl (hb hby at_102) (by decide) (by decide)
    obtain ⟨b545, g545⟩ : ∃ z, z = T543.heap.size := ⟨_, rfl⟩
    rw [← g545] at A545 D545 st545
    have sz_b545 : h0.size ≤ b545 := Nat.le_trans KP543.1 (Nat.le_of_eq g545.symm)
    have gn_b545 : n0 ≤ b545 := Nat.le_trans Z0 sz_b545
    have ne_b534_b545 : b534 ≠ b545 := Nat.ne_of_lt (Nat.lt_of_lt_of_le EA543.lt (Nat.le_of_eq g545.symm))
    have ne_b536_b545 : b536 ≠ b545 := Nat.ne_of_lt (Nat.lt_of_lt_of_le Fx544.lt (Nat.le_of_eq g545.symm))
    have ne_ed_b545 : ed ≠ b545 := Nat.ne_of_lt (Nat.lt_of_lt_of_le V_E.lt (Nat.le_of_eq g545.symm))
    have hSk545 := Nat.le_trans hSk543 E545.1
    have EX545 := own_ext_trans EX543 E545
    have KP545 := Keep.ext KP543 E545
    have F545_modCount : Fld Z h545 b545 "java/util/AbstractList" "modCount" "I" (.int (0 : Int32)) := D545 (Or.inl (own_q hw 23 rfl)) (ty := .int) (by decide)
    have F545_elementData : Fld Z h545 b545 "java/util/ArrayList" "elementData" "[Ljava/lang/Object;" .null := D545 (Or.inl (own_q hw 26 rfl)) (ty := (.array (.object "java/lang/Object"))) (by decide)
    have F545_size : Fld Z h545 b545 "java/util/ArrayList" "size" "I" (.int (0 : Int32)) := D545 (Or.inl (own_q hw 134 rfl)) (ty := .int) (by decide)
    obtain ⟨_, _, ⟨T546, L546, k546, n546⟩, -, X546, ⟨Lc546, hQ546, l546, y546, z546⟩, st546⟩ := X545.specialBack hx (y := (⟨"java/util/ArrayList", "<init>", "()V"⟩ : MethodName)) rfl hown (mvT hZ (own_q hw 4 rfl)) (mvT hZ (own_q hw 5 rfl)) (mvT hZ (own_q hw 6 rfl)) (by decide) (backOf (W := 1) (rm_ali l Z a0 hw [] b545 h545 n0 (Nat.le_trans Z0 EX545.1) ⟨A545, F545_elementData, F545_size, F545_modCount⟩ gn_b545 hS hn (own_ext_trans hEx EX545) dE oe kD hWd) hZ (own_q hw 6 rfl) (own_q hw 3 rfl) (by decide) (by decide)) (g := (mkF m 106 #[.val (.long p0), .second, .val (.int p1), .val (.int p2), .val (.int p3), .val (.int p4), .val (.int f1), .val (.int f2), .val (.int cnt), .val (.int (1 : Int32)), .val (.int (0 : Int32)), .val (.ref b534), .unset, .unset, .unset, .unset, .unset] [(.ref b545), (.ref b545)])) rfl (by rw [hml]; rfl) (Steps.refl _) (a := b545) (argsL := []) (rest := [(.ref b545)]) (lenOf pd_13 rfl) rfl (by show 2 * 0 + _ ≤ _; exact Nat.le_of_eq rfl) (hb hby at_106) (fun _ _ => ⟨rfl, e545, (by decide : 6 + 0 ≤ _), (by decide : 55 + 0 ≤ _)⟩)
    dsimp only [Pt.U, Pt.locs, Pt.cells, Pt.slots] at X546 l546 y546 z546 st546 hQ546
    obtain rfl : k546 = 6 := y546; obtain rfl : n546 = 55 := z546
    obtain ⟨rfl, N546q, K546, EA546, FE546, FZ546, FM546⟩ := hQ546
    have N546 : Fr n0 L546 := by rw [l546]; exact Fr.app N543 N546q
    have e546 : T546.heap = T546.heap := rfl
    have hSk546 := Nat.le_trans hSk545 K546.1
    have EX546 := own_ext_keep EX545 K546 (allS sz_b545 all0)
    have KP546 := Keep.trans KP545 K546 (allS (Or.inr sz_b545) all0)
    have Fx547 := ((EA543.ext E545).keep K546)
    have Fx548 := ((Fx544.ext E545).keep K546 (ninS ne_b536_b545 nin0))
    have Fx549 := ((V_E.ext E545).keep K546 (ninS ne_ed_b545 nin0))
    obtain ⟨T550, h550, X550, e550, E550, A550, D550, -, st550⟩ := newO X546 hx hZ hown (own_q hw 27 rfl) (own_q hw 28 rfl) (own_q hw 29 rfl) e546 (g := (mkF m 111 #[.val (.long p0), .second, .val (.int p1), .val (.int p2), .val (.int p3), .val (.int p4), .val (.int f1), .val (.int f2), .val (.int cnt), .val (.int (1 : Int32)), .val (.int (0 : Int32)), .val (.ref b534), .val (.ref b545), .unset, .unset, .unset, .unset] [])) rfl (hb hby at_111) (by decide) (by decide)
    obtain ⟨b550, g550⟩ : ∃ z, z = T546.heap.size := ⟨_, rfl⟩
    rw [← g550] at A550 D550 st550
    have sz_b550 : h0.size ≤ b550 := Nat.le_trans KP546.1 (Nat.le_of_eq g550.symm)
    have gn_b550 : n0 ≤ b550 := Nat.le_trans Z0 sz_b550
    have ne_b534_b550 : b534 ≠ b550 := Nat.ne_of_lt (Nat.lt_of_lt_of_le Fx547.lt (Nat.le_of_eq g550.symm))
    have ne_b536_b550 : b536 ≠ b550 := Nat.ne_of_lt (Nat.lt_of_lt_of_le Fx548.lt (Nat.le_of_eq g550.symm))
    have ne_ed_b550 : ed ≠ b550 := Nat.ne_of_lt (Nat.lt_of_lt_of_le Fx549.lt (Nat.le_of_eq g550.symm))
    have ne_b545_b550 : b545 ≠ b550 := Nat.ne_of_lt (Nat.lt_of_lt_of_le EA546.lt (Nat.le_of_eq g550.symm))
    have hSk550 := Nat.le_trans hSk546 E550.1
    have EX550 := own_ext_trans EX546 E550
    have KP550 := Keep.ext KP546 E550
    have F550_floors : Fld Z h550 b550 "com/example/parley/parley/floor/Conference" "floors" "[Lcom/example/parley/parley/floor/Conference$Floor;" .null := D550 (Or.inr (own_q hw 39 rfl)) (ty := (.array (.object "com/example/parley/parley/floor/Conference$Floor"))) (by decide)
    have F550_users : Fld Z h550 b550 "com/example/parley/parley/floor/Conference" "users" "Ljava/util/Map;" .null := D550 (Or.inr (own_q hw 57 rfl)) (ty := (.object "java/util/Map")) (by decide)
    have F550_pinned : Fld Z h550 b550 "com/example/parley/parley/floor/Conference" "pinned" "Ljava/util/Set;" .null := D550 (Or.inr (own_q hw 78 rfl)) (ty := (.object "java/util/Set")) (by decide)
    have F550_requests : Fld Z h550 b550 "com/example/parley/parley/floor/Conference" "requests" "Ljava/util/Map;" .null := D550 (Or.inr (own_q hw 80 rfl)) (ty := (.object "java/util/Map")) (by decide)
    have F550_madeBy : Fld Z h550 b550 "com/example/parley/parley/floor/Conference" "madeBy" "Ljava/util/Map;" .null := D550 (Or.inr (own_q hw 82 rfl)) (ty := (.object "java/util/Map")) (by decide)
    have F550_madeFor : Fld Z h550 b550 "com/example/parley/parley/floor/Conference" "madeFor" "Ljava/util/Map;" .null := D550 (Or.inr (own_q hw 84 rfl)) (ty := (.object "java/util/Map")) (by decide)
    have F550_requesterListeners : Fld Z h550 b550 "com/example/parley/parley/floor/Conference" "requesterListeners" "Ljava/util/List;" .null := D550 (Or.inr (own_q hw 88 rfl)) (ty := (.object "java/util/List")) (by decide)
    have F550_changeListeners : Fld Z h550 b550 "com/example/parley/parley/floor/Conference" "changeListeners" "Ljava/util/List;" .null := D550 (Or.inr (own_q hw 90 rfl)) (ty := (.object "java/util/List")) (by decide)
    have F550_id : Fld Z h550 b550 "com/example/parley/parley/floor/Conference" "id" "J" (.long (0 : Int64)) := D550 (Or.inr (own_q hw 96 rfl)) (ty := .long) (by decide)
    obtain ⟨xi, h_xi⟩ : ∃ zQ : Int64, (p0 &&& (4294967295 : Int64)) = zQ := ⟨_, rfl⟩
    have hxi : 0 ≤ xi.toInt ∧ xi.toInt ≤ 4294967295 := by rw [← h_xi]; exact own_and32 p0
    have Fx551 := (Fx547.ext E550)
    have Fx552 := (((FE543.ext E545).keep K546 (ninS ne_b534_b545 nin0)).ext E550)
    have Fx553 := (((FZ543.ext E545).keep K546 (ninS ne_b534_b545 nin0)).ext E550)
    have Fx554 := (((FM543.ext E545).keep K546 (ninS ne_b534_b545 nin0)).ext E550)
    have Fx555 := (EA546.ext E550)
    have Fx556 := (FE546.ext E550)
    have Fx557 := (FZ546.ext E550)
    have Fx558 := (FM546.ext E550)
    have Fx559 := (Fx549.ext E550)
    have Fx560 := (Fx548.ext E550)
    obtain ⟨_, _, ⟨T561, L561, k561, n561⟩, -, X561, ⟨Lc561, hQ561, l561, y561, z561⟩, st561⟩ := X550.specialBack hx (y := (⟨"com/example/parley/parley/floor/Conference", "<init>", "(JLjava/util/Collection;Ljava/util/Collection;)V"⟩ : MethodName)) rfl hown (mvT hZ (own_q hw 31 rfl)) (mvT hZ (own_q hw 32 rfl)) (mvT hZ (own_q hw 33 rfl)) (by decide) (backOf (W := 1) (rm_cfi_1 l Z a0 hw [] b550 xi b534 b545 h550 n0 (Nat.le_trans Z0 EX550.1) A550 F550_floors F550_users F550_pinned F550_requests F550_madeBy F550_madeFor F550_requesterListeners F550_changeListeners F550_id gn_b550 hS hn (own_ext_trans hEx EX550) dE oe kD hWd ed b536 kE f1 hxi.1 hxi.2 ⟨Fx551, Fx552, Fx553, Fx554⟩ ⟨Fx555, Fx556, Fx557, Fx558⟩ ne_b534_b550 ne_b545_b550 Fx559 ne_ed_b550 Fx560 ne_b536_b550 hf1 ) hZ (own_q hw 33 rfl) (own_q hw 29 rfl) (by decide) (by decide)) (g := (mkF m 124 #[.val (.long p0), .second, .val (.int p1), .val (.int p2), .val (.int p3), .val (.int p4), .val (.int f1), .val (.int f2), .val (.int cnt), .val (.int (1 : Int32)), .val (.int (0 : Int32)), .val (.ref b534), .val (.ref b545), .unset, .unset, .unset, .unset] [(.ref b545), (.ref b534), (.long xi), (.ref b550), (.ref b550)])) rfl (by rw [hml]; rfl) (Steps.refl _) (a := b550) (argsL := [(.long xi), (.ref b534), (.ref b545)]) (rest := [(.ref b550)]) (lenOf pd_390 rfl) rfl (by show 2 * 0 + _ ≤ _; exact Nat.le_of_eq rfl) (hb hby at_124) (fun _ _ => ⟨rfl, e550, (by decide : 7 + 15 ≤ _), (by decide : 66 + 65605 ≤ _)⟩)
    dsimp only [Pt.U, Pt.locs, Pt.cells, Pt.slots] at X561 l561 y561 z561 st561 hQ561
    obtain rfl : k561 = 22 := y561; obtain rfl : n561 = 65671 := z561
    obtain ⟨rfl, N561q, K561, fa, kF, g1, E_C, F_C, A_C⟩ := hQ561
    have N561 : Fr n0 L561 := by rw [l561]; exact Fr.app N546 N561q
    have e561 : T561.heap = T561.heap := rfl
    have hSk561 := Nat.le_trans hSk550 K561.1
    have EX561 := own_ext_keep EX550 K561 (allS sz_b550 all0)
    have KP561 := Keep.trans KP550 K561 (allS (Or.inr sz_b550) all0)
    have ck562 : ∀ t, Steps p.tables e below (T561.setTop (mkF m 135 #[.val (.long p0), .second, .val (.int p1), .val (.int p2), .val (.int p3), .val (.int p4), .val (.int f1), .val (.int f2), .val (.int cnt), .val (.int (1 : Int32)), .val (.int (0 : Int32)), .val (.ref b534), .val (.ref b545), .val (.ref b550), .val (.int (p3 &&& (3 : Int32))), .unset, .unset] [])) t → Steps p.tables e below (s₁.setTop (entryFrame m #[(.long p0), (.int p1), (.int p2), (.int p3), (.int p4)] maxLocals)) t := by
      intro t kt
      refine ck537 _ ?_
      refine st538.trans ?_
      show Steps p.tables e below (T538.setTop (mkF m 78 #[.val (.long p0), .second, .val (.int p1), .val (.int p2), .val (.int p3), .val (.int p4), .val (.int f1), .val (.int f2), .val (.int cnt), .val (.int (1 : Int32)), .val (.int (0 : Int32)), .val (.ref b534), .unset, .unset, .unset, .unset, .unset] [(.ref b536), (.ref b534)])) _
      refine st543.trans ?_
      show Steps p.tables e below (T543.setTop (mkF m 81 #[.val (.long p0), .second, .val (.int p1), .val (.int p2), .val (.int p3), .val (.int p4), .val (.int f1), .val (.int f2), .val (.int cnt), .val (.int (1 : Int32)), .val (.int (0 : Int32)), .val (.ref b534), .unset, .unset, .unset, .unset, .unset] [(.int (1 : Int32))])) _
      refine XS.pop X543.here hx rfl (hb hby at_81) rfl rfl ?_
      refine XS.iload X543.here hx rfl (hb hby at_82) rfl ?_
      refine XS.ifYes X543.here hx rfl (pc0 := 84) (pc' := 102) rfl (hb hby at_84) rfl ((if0 _ _).trans (teq (by decide : (0 : Int32) = (0 : Int32))).1) (by decide) (by decide) ?_
      refine st545 _ ?_
      show Steps p.tables e below (T545.setTop (mkF m 105 #[.val (.long p0), .second, .val (.int p1), .val (.int p2), .val (.int p3), .val (.int p4), .val (.int f1), .val (.int f2), .val (.int cnt), .val (.int (1 : Int32)), .val (.int (0 : Int32)), .val (.ref b534), .unset, .unset, .unset, .unset, .unset] [(.ref b545)])) _
      refine XS.dup X545.here hx rfl (hb hby at_105) rfl rfl ?_
      refine st546.trans ?_
      show Steps p.tables e below (T546.setTop (mkF m 109 #[.val (.long p0), .second, .val (.int p1), .val (.int p2), .val (.int p3), .val (.int p4), .val (.int f1), .val (.int f2), .val (.int cnt), .val (.int (1 : Int32)), .val (.int (0 : Int32)), .val (.ref b534), .unset, .unset, .unset, .unset, .unset] [(.ref b545)])) _
      refine XS.astore X546.here hx rfl (hb hby at_109) rfl rfl (l' := #[.val (.long p0), .second, .val (.int p1), .val (.int p2), .val (.int p3), .val (.int p4), .val (.int f1), .val (.int f2), .val (.int cnt), .val (.int (1 : Int32)), .val (.int (0 : Int32)), .val (.ref b534), .val (.ref b545), .unset, .unset, .unset, .unset]) rfl ?_
      refine st550 _ ?_
      show Steps p.tables e below (T550.setTop (mkF m 114 #[.val (.long p0), .second, .val (.int p1), .val (.int p2), .val (.int p3), .val (.int p4), .val (.int f1), .val (.int f2), .val (.int cnt), .val (.int (1 : Int32)), .val (.int (0 : Int32)), .val (.ref b534), .val (.ref b545), .unset, .unset, .unset, .unset] [(.ref b550)])) _
      refine XS.dup X550.here hx rfl (hb hby at_114) rfl rfl ?_
      refine XS.lloadN X550.here hx rfl (hb hby at_115) rfl ?_
      refine X550.ldc2Long hx hown (mvT hZ (own_q hw 30 rfl)) (g := (mkF m 116 #[.val (.long p0), .second, .val (.int p1), .val (.int p2), .val (.int p3), .val (.int p4), .val (.int f1), .val (.int f2), .val (.int cnt), .val (.int (1 : Int32)), .val (.int (0 : Int32)), .val (.ref b534), .val (.ref b545), .unset, .unset, .unset, .unset] [(.long p0), (.ref b550), (.ref b550)])) rfl (hb hby at_116) _ ?_
      show Steps p.tables e below (T550.setTop (mkF m 119 #[.val (.long p0), .second, .val (.int p1), .val (.int p2), .val (.int p3), .val (.int p4), .val (.int f1), .val (.int f2), .val (.int cnt), .val (.int (1 : Int32)), .val (.int (0 : Int32)), .val (.ref b534), .val (.ref b545), .unset, .unset, .unset, .unset] [(.long (4294967295 : Int64)), (.long p0), (.ref b550), (.ref b550)])) _
      refine XS.land X550.here hx rfl (hb hby at_119) rfl ?_
      show Steps p.tables e below (T550.setTop (mkF m 120 #[.val (.long p0), .second, .val (.int p1), .val (.int p2), .val (.int p3), .val (.int p4), .val (.int f1), .val (.int f2), .val (.int cnt), .val (.int (1 : Int32)), .val (.int (0 : Int32)), .val (.ref b534), .val (.ref b545), .unset, .unset, .unset, .unset] [(.long (p0 &&& (4294967295 : Int64))), (.ref b550), (.ref b550)])) _
      rw [h_xi]
      show Steps p.tables e below (T550.setTop (mkF m 120 #[.val (.long p0), .second, .val (.int p1), .val (.int p2), .val (.int p3), .val (.int p4), .val (.int f1), .val (.int f2), .val (.int cnt), .val (.int (1 : Int32)), .val (.int (0 : Int32)), .val (.ref b534), .val (.ref b545), .unset, .unset, .unset, .unset] [(.long xi), (.ref b550), (.ref b550)])) _
      refine XS.aload X550.here hx rfl (hb hby at_120) rfl rfl ?_
      refine XS.aload X550.here hx rfl (hb hby at_122) rfl rfl ?_
      refine st561.trans ?_
      show Steps p.tables e below (T561.setTop (mkF m 127 #[.val (.long p0), .second, .val (.int p1), .val (.int p2), .val (.int p3), .val (.int p4), .val (.int f1), .val (.int f2), .val (.int cnt), .val (.int (1 : Int32)), .val (.int (0 : Int32)), .val (.ref b534), .val (.ref b545), .unset, .unset, .unset, .unset] [(.ref b550)])) _
      refine XS.astore X561.here hx rfl (hb hby at_127) rfl rfl (l' := #[.val (.long p0), .second, .val (.int p1), .val (.int p2), .val (.int p3), .val (.int p4), .val (.int f1), .val (.int f2), .val (.int cnt), .val (.int (1 : Int32)), .val (.int (0 : Int32)), .val (.ref b534), .val (.ref b545), .val (.ref b550), .unset, .unset, .unset]) rfl ?_
      refine XS.iload X561.here hx rfl (hb hby at_129) rfl ?_
      refine XS.iconst X561.here hx rfl (hb hby at_131) ?_
      refine XS.iand X561.here hx rfl (hb hby at_132) rfl ?_
      refine XS.istore X561.here hx rfl (hb hby at_133) rfl (l' := #[.val (.long p0), .second, .val (.int p1), .val (.int p2), .val (.int p3), .val (.int p4), .val (.int f1), .val (.int f2), .val (.int cnt), .val (.int (1 : Int32)), .val (.int (0 : Int32)), .val (.ref b534), .val (.ref b545), .val (.ref b550), .val (.int (p3 &&& (3 : Int32))), .unset, .unset]) rfl ?_
      exact kt
    (try clear N561q); (try clear st561); (try clear Lc561); (try clear n561); (try clear k561); (try clear L561); (try clear F550_id); (try clear F550_changeListeners); (try clear F550_requesterListeners); (try clear F550_madeFor); (try clear F550_madeBy); (try clear F550_requests); (try clear F550_pinned); (try clear F550_users); (try clear F550_floors); (try clear KP550); (try clear EX550); (try clear st550); (try clear D550); (try clear A550); (try clear E550); (try clear e550); (try clear X550); (try clear h550); (try clear T550); (try clear Fx549); (try clear Fx548); (try clear Fx547); (try clear KP546); (try clear EX546); (try clear e546); (try clear N546); (try clear K546); (try clear N546q); (try clear st546); (try clear Lc546); (try clear X546); (try clear n546); (try clear k546); (try clear L546); (try clear T546); (try clear F545_size); (try clear F545_elementData); (try clear F545_modCount); (try clear KP545); (try clear EX545); (try clear st545); (try clear D545); (try clear A545); (try clear E545); (try clear e545); (try clear X545); (try clear h545); (try clear T545); (try clear Fx544); (try clear KP543); (try clear EX543); (try clear e543); (try clear N543); (try clear K543); (try clear N543q); (try clear st543); (try clear Lc543); (try clear X543); (try clear n543); (try clear k543); (try clear L543); (try clear T543); (try clear q543c); (try clear q543b); (try clear q543a); (try clear kq543); (try clear cq543); (try clear Fx542); (try clear Fx541); (try clear Fx540); (try clear Fx539); (try clear KP538); (try clear EX538); (try clear e538); (try clear N538); (try clear K538); (try clear N538q); (try clear X538); (try clear st538); (try clear Lc538); (try clear n538); (try clear k538); (try clear L538); (try clear T538)
    obtain ⟨T569, L569, qv, X569, e569, N569, ck569⟩ : ∃ (TJ : State) (LJ : List Loc) (qv : Int32), Stand p l e room_1 (s.setVm T538.vm) m #[(.long p0), (.int p1), (.int p2), (.int p3), (.int p4)] below meth c TJ LJ 22 65671 ∧ TJ.heap = T561.heap ∧ Fr n0 LJ ∧ (∀ t, Steps p.tables e below (TJ.setTop (mkF m 195 #[.val (.long p0), .second, .val (.int p1), .val (.int p2), .val (.int p3), .val (.int p4), .val (.int f1), .val (.int f2), .val (.int cnt), .val (.int (1 : Int32)), .val (.int (0 : Int32)), .val (.ref b534), .val (.ref b545), .val (.ref b550), .val (.int (p3 &&& (3 : Int32))), .val (.int qv), .unset] [])) t → Steps p.tables e below (s₁.setTop (entryFrame m #[(.long p0), (.int p1), (.int p2), (.int p3), (.int p4)] maxLocals)) t) := by
      by_cases hc137_570 : (p3 &&& (3 : Int32)) = (0 : Int32)
      · -- pc 137: yes
        refine ⟨T561, _, f1, X561, e561, N561, fun t kt => ?_⟩
        refine ck562 _ ?_
        refine XS.iload X561.here hx rfl (hb hby at_135) rfl ?_
        refine XS.ifNo X561.here hx rfl (hb hby at_137) rfl ((if0 _ _).trans (teq hc137_570).2) ?_
        refine XS.iload X561.here hx rfl (hb hby at_140) rfl ?_
        refine XS.istore X561.here hx rfl (hb hby at_142) rfl (l' := #[.val (.long p0), .second, .val (.int p1), .val (.int p2), .val (.int p3), .val (.int p4), .val (.int f1), .val (.int f2), .val (.int cnt), .val (.int (1 : Int32)), .val (.int (0 : Int32)), .val (.ref b534), .val (.ref b545), .val (.ref b550), .val (.int (p3 &&& (3 : Int32))), .val (.int f1), .unset]) rfl ?_
        refine XS.goto X561.here hx rfl (pc0 := 144) (pc' := 195) rfl (hb hby at_144) (by decide) (by decide) ?_
        exact kt
      · -- pc 137: no
        have ck572 : ∀ t, Steps p.tables e below (T561.setTop (mkF m 150 #[.val (.long p0), .second, .val (.int p1), .val (.int p2), .val (.int p3), .val (.int p4), .val (.int f1), .val (.int f2), .val (.int cnt), .val (.int (1 : Int32)), .val (.int (0 : Int32)), .val (.ref b534), .val (.ref b545), .val (.ref b550), .val (.int (p3 &&& (3 : Int32))), .unset, .unset] [(.int (1 : Int32)), (.int (p3 &&& (3 : Int32)))])) t → Steps p.tables e below (s₁.setTop (entryFrame m #[(.long p0), (.int p1), (.int p2), (.int p3), (.int p4)] maxLocals)) t := by
          intro t kt
          refine ck562 _ ?_
          refine XS.iload X561.here hx rfl (hb hby at_135) rfl ?_
          refine XS.ifYes X561.here hx rfl (pc0 := 137) (pc' := 147) rfl (hb hby at_137) rfl ((if0 _ _).trans (feq hc137_570).2) (by decide) (by decide) ?_
          refine XS.iload X561.here hx rfl (hb hby at_147) rfl ?_
          refine XS.iconst X561.here hx rfl (hb hby at_149) ?_
          exact kt
        by_cases hc150_571 : (p3 &&& (3 : Int32)) = (1 : Int32)
        · -- pc 150: yes
          refine ⟨T561, _, f2, X561, e561, N561, fun t kt => ?_⟩
          refine ck572 _ ?_
          refine XS.icmpNo X561.here hx rfl (hb hby at_150) rfl (teq hc150_571).2 ?_
          refine XS.iload X561.here hx rfl (hb hby at_153) rfl ?_
          refine XS.istore X561.here hx rfl (hb hby at_155) rfl (l' := #[.val (.long p0), .second, .val (.int p1), .val (.int p2), .val (.int p3), .val (.int p4), .val (.int f1), .val (.int f2), .val (.int cnt), .val (.int (1 : Int32)), .val (.int (0 : Int32)), .val (.ref b534), .val (.ref b545), .val (.ref b550), .val (.int (p3 &&& (3 : Int32))), .val (.int f2), .unset]) rfl ?_
          refine XS.goto X561.here hx rfl (pc0 := 157) (pc' := 195) rfl (hb hby at_157) (by decide) (by decide) ?_
          exact kt
        · -- pc 150: no
          by_cases hc163_573 : (p3 &&& (3 : Int32)) = (2 : Int32)
          · -- pc 163: yes
            refine ⟨T561, _, p4, X561, e561, N561, fun t kt => ?_⟩
            refine ck572 _ ?_
            refine XS.icmpYes X561.here hx rfl (pc0 := 150) (pc' := 160) rfl (hb hby at_150) rfl (feq hc150_571).2 (by decide) (by decide) ?_
            refine XS.iload X561.here hx rfl (hb hby at_160) rfl ?_
            refine XS.iconst X561.here hx rfl (hb hby at_162) ?_
            refine XS.icmpNo X561.here hx rfl (hb hby at_163) rfl (teq hc163_573).2 ?_
            refine XS.iload X561.here hx rfl (hb hby at_166) rfl ?_
            refine XS.istore X561.here hx rfl (hb hby at_168) rfl (l' := #[.val (.long p0), .second, .val (.int p1), .val (.int p2), .val (.int p3), .val (.int p4), .val (.int f1), .val (.int f2), .val (.int cnt), .val (.int (1 : Int32)), .val (.int (0 : Int32)), .val (.ref b534), .val (.ref b545), .val (.ref b550), .val (.int (p3 &&& (3 : Int32))), .val (.int p4), .unset]) rfl ?_
            refine XS.goto X561.here hx rfl (pc0 := 170) (pc' := 195) rfl (hb hby at_170) (by decide) (by decide) ?_
            exact kt
          · -- pc 163: no
            have ck575 : ∀ t, Steps p.tables e below (T561.setTop (mkF m 177 #[.val (.long p0), .second, .val (.int p1), .val (.int p2), .val (.int p3), .val (.int p4), .val (.int f1), .val (.int f2), .val (.int cnt), .val (.int (1 : Int32)), .val (.int (0 : Int32)), .val (.ref b534), .val (.ref b545), .val (.ref b550), .val (.int (p3 &&& (3 : Int32))), .unset, .unset] [(.int (p4 &&& (1 : Int32)))])) t → Steps p.tables e below (s₁.setTop (entryFrame m #[(.long p0), (.int p1), (.int p2), (.int p3), (.int p4)] maxLocals)) t := by
              intro t kt
              refine ck572 _ ?_
              refine XS.icmpYes X561.here hx rfl (pc0 := 150) (pc' := 160) rfl (hb hby at_150) rfl (feq hc150_571).2 (by decide) (by decide) ?_
              refine XS.iload X561.here hx rfl (hb hby at_160) rfl ?_
              refine XS.iconst X561.here hx rfl (hb hby at_162) ?_
              refine XS.icmpYes X561.here hx rfl (pc0 := 163) (pc' := 173) rfl (hb hby at_163) rfl (feq hc163_573).2 (by decide) (by decide) ?_
              refine XS.iload X561.here hx rfl (hb hby at_173) rfl ?_
              refine XS.iconst X561.here hx rfl (hb hby at_175) ?_
              refine XS.iand X561.here hx rfl (hb hby at_176) rfl ?_
              exact kt
            by_cases hc177_574 : (p4 &&& (1 : Int32)) = (0 : Int32)
            · -- pc 177: yes
              refine ⟨T561, _, (f1 + (1 : Int32)), X561, e561, N561, fun t kt => ?_⟩
              refine ck575 _ ?_
              refine XS.ifNo X561.here hx rfl (hb hby at_177) rfl ((if0 _ _).trans (teq hc177_574).2) ?_
              refine XS.iload X561.here hx rfl (hb hby at_180) rfl ?_
              refine XS.iconst X561.here hx rfl (hb hby at_182) ?_
              refine XS.iadd X561.here hx rfl (hb hby at_183) rfl ?_
              refine XS.istore X561.here hx rfl (hb hby at_184) rfl (l' := #[.val (.long p0), .second, .val (.int p1), .val (.int p2), .val (.int p3), .val (.int p4), .val (.int f1), .val (.int f2), .val (.int cnt), .val (.int (1 : Int32)), .val (.int (0 : Int32)), .val (.ref b534), .val (.ref b545), .val (.ref b550), .val (.int (p3 &&& (3 : Int32))), .val (.int (f1 + (1 : Int32))), .unset]) rfl ?_
              refine XS.goto X561.here hx rfl (pc0 := 186) (pc' := 195) rfl (hb hby at_186) (by decide) (by decide) ?_
              exact kt
            · -- pc 177: no
              refine ⟨T561, _, (f1 - (1 : Int32)), X561, e561, N561, fun t kt => ?_⟩
              refine ck575 _ ?_
              refine XS.ifYes X561.here hx rfl (pc0 := 177) (pc' := 189) rfl (hb hby at_177) rfl ((if0 _ _).trans (feq hc177_574).2) (by decide) (by decide) ?_
              refine XS.iload X561.here hx rfl (hb hby at_189) rfl ?_
              refine XS.iconst X561.here hx rfl (hb hby at_191) ?_
              refine XS.isub X561.here hx rfl (hb hby at_192) rfl ?_
              refine XS.istore X561.here hx rfl (hb hby at_193) rfl (l' := #[.val (.long p0), .second, .val (.int p1), .val (.int p2), .val (.int p3), .val (.int p4), .val (.int f1), .val (.int f2), .val (.int cnt), .val (.int (1 : Int32)), .val (.int (0 : Int32)), .val (.ref b534), .val (.ref b545), .val (.ref b550), .val (.int (p3 &&& (3 : Int32))), .val (.int (f1 - (1 : Int32))), .unset]) rfl ?_
              exact kt
    have ck577 : ∀ t, Steps p.tables e below (T569.setTop (mkF m 204 #[.val (.long p0), .second, .val (.int p1), .val (.int p2), .val (.int p3), .val (.int p4), .val (.int f1), .val (.int f2), .val (.int cnt), .val (.int (1 : Int32)), .val (.int (0 : Int32)), .val (.ref b534), .val (.ref b545), .val (.ref b550), .val (.int (p3 &&& (3 : Int32))), .val (.int qv), .unset] [(.int f1), (.int qv)])) t → Steps p.tables e below (s₁.setTop (entryFrame m #[(.long p0), (.int p1), (.int p2), (.int p3), (.int p4)] maxLocals)) t := by
      intro t kt
      refine ck569 _ ?_
      refine XS.iload X569.here hx rfl (hb hby at_195) rfl ?_
      refine XS.ifNo X569.here hx rfl (hb hby at_197) rfl ((if0 _ _).trans (feq (by decide : ¬ ((1 : Int32) = (0 : Int32)))).1) ?_
      refine XS.iload X569.here hx rfl (hb hby at_200) rfl ?_
      refine XS.iload X569.here hx rfl (hb hby at_202) rfl ?_
      exact kt
    by_cases hc204_576 : qv = f1
    · -- pc 204: yes
      obtain ⟨cq578, kq578, q578a, q578b, q578c⟩ := isOf hZ e569 (E_C)
      obtain ⟨_, _, ⟨T578, L578, k578, n578⟩, -, X578, ⟨Lc578, hQ578, l578, y578, z578⟩, st578⟩ := X569.virtualBack hx (y := (⟨"com/example/parley/parley/floor/Conference", "hasFloor", "(I)Z"⟩ : MethodName)) (z := (⟨"com/example/parley/parley/floor/Conference", "hasFloor", "(I)Z"⟩ : MethodName)) hown (mvT hZ (own_q hw 135 rfl)) (mvT hZ (own_q hw 136 rfl)) (notFace_of_selects (args := #[]) (mvT hZ (own_q hw 138 rfl))) (mvT hZ (own_q hw 138 rfl)) (mvT hZ (own_q hw 137 rfl)) (by decide) (backOf (W := 0) (rm_hf l Z a0 hw [] b550 qv T561.heap n0 (Nat.le_trans Z0 EX561.1) fa kF [(f1, .ref g1)] F_C A_C (.ref g1) (fun z _ => own_gHm (own_r16 hf1).1 hc204_576) (Or.inr ⟨_, rfl⟩) (1 : Int32) (own_hr1 hf1 hc204_576 nofun)) hZ (own_q hw 139 rfl) (own_q hw 29 rfl) (by decide) (by decide)) q578a q578c (g := (mkF m 230 #[.val (.long p0), .second, .val (.int p1), .val (.int p2), .val (.int p3), .val (.int p4), .val (.int f1), .val (.int f2), .val (.int cnt), .val (.int (1 : Int32)), .val (.int (0 : Int32)), .val (.ref b534), .val (.ref b545), .val (.ref b550), .val (.int (p3 &&& (3 : Int32))), .val (.int qv), .val (.int (1 : Int32))] [(.int qv), (.ref b550)])) rfl (by rw [hml]; rfl) (Steps.refl _) (argsL := [(.int qv)]) (rest := []) (lenOf pd_365 rfl) rfl (by show 2 * 0 + _ ≤ _; exact Nat.le_of_eq rfl) (hb hby at_230) (fun _ _ => ⟨rfl, e569, (by decide : 22 + 0 ≤ _), (by decide : 65671 + 0 ≤ _)⟩)
      dsimp only [Pt.U, Pt.locs, Pt.cells, Pt.slots] at X578 l578 y578 z578 st578 hQ578
      obtain rfl : k578 = 22 := y578; obtain rfl : n578 = 65671 := z578
      obtain ⟨rfl, N578q, e578⟩ := hQ578
      have N578 : Fr n0 L578 := by rw [l578]; exact Fr.app N569 N578q
      obtain ⟨fs, hr, hrun, hended, hW⟩ := X578.leaveW hSi538 (show _ ≤ T578.heap.size by rw [e578]; exact hSk561) (v := some (.int (1 : Int32))) (fun h => by rw [Bd.returns] at h; cases h)
      refine ⟨_, _, ck577 _ ?_, hrun, hended, _, _, rfl, ?_, own_retW (k := 22) (n := 65671) hW (by decide) (by decide)⟩
      · refine XS.icmpYes X569.here hx rfl (pc0 := 204) (pc' := 219) rfl (hb hby at_204) rfl (teq hc204_576).1 (by decide) (by decide) ?_
        refine XS.iconst X569.here hx rfl (hb hby at_219) ?_
        refine XS.goto X569.here hx rfl (pc0 := 220) (pc' := 224) rfl (hb hby at_220) (by decide) (by decide) ?_
        refine XS.istore X569.here hx rfl (hb hby at_224) rfl (l' := #[.val (.long p0), .second, .val (.int p1), .val (.int p2), .val (.int p3), .val (.int p4), .val (.int f1), .val (.int f2), .val (.int cnt), .val (.int (1 : Int32)), .val (.int (0 : Int32)), .val (.ref b534), .val (.ref b545), .val (.ref b550), .val (.int (p3 &&& (3 : Int32))), .val (.int qv), .val (.int (1 : Int32))]) rfl ?_
        refine XS.aload X569.here hx rfl (hb hby at_226) rfl rfl ?_
        refine XS.iload X569.here hx rfl (hb hby at_228) rfl ?_
        refine st578.trans ?_
        show Steps p.tables e below (T578.setTop (mkF m 233 #[.val (.long p0), .second, .val (.int p1), .val (.int p2), .val (.int p3), .val (.int p4), .val (.int f1), .val (.int f2), .val (.int cnt), .val (.int (1 : Int32)), .val (.int (0 : Int32)), .val (.ref b534), .val (.ref b545), .val (.ref b550), .val (.int (p3 &&& (3 : Int32))), .val (.int qv), .val (.int (1 : Int32))] [(.int (1 : Int32))])) _
        refine XS.iload X578.here hx rfl (hb hby at_233) rfl ?_
        refine XS.icmpNo X578.here hx rfl (hb hby at_235) rfl (teq (by decide : (1 : Int32) = (1 : Int32))).2 ?_
        refine XS.iconst X578.here hx rfl (hb hby at_238) ?_
        refine XS.goto X578.here hx rfl (pc0 := 239) (pc' := 243) rfl (hb hby at_239) (by decide) (by decide) ?_
        exact retN X578 hx (t := .boolean) Bd.returns (by simp) (hb hby at_243) hr
      · show own_Made (some (.int 1)) n0 _ T578.heap _
        rw [e578]
        exact ⟨rfl, N578, trivial⟩
    · -- pc 204: no
      obtain ⟨cq579, kq579, q579a, q579b, q579c⟩ := isOf hZ e569 (E_C)
      obtain ⟨_, _, ⟨T579, L579, k579, n579⟩, -, X579, ⟨Lc579, hQ579, l579, y579, z579⟩, st579⟩ := X569.virtualBack hx (y := (⟨"com/example/parley/parley/floor/Conference", "hasFloor", "(I)Z"⟩ : MethodName)) (z := (⟨"com/example/parley/parley/floor/Conference", "hasFloor", "(I)Z"⟩ : MethodName)) hown (mvT hZ (own_q hw 135 rfl)) (mvT hZ (own_q hw 136 rfl)) (notFace_of_selects (args := #[]) (mvT hZ (own_q hw 138 rfl))) (mvT hZ (own_q hw 138 rfl)) (mvT hZ (own_q hw 137 rfl)) (by decide) (backOf (W := 0) (rm_hf l Z a0 hw [] b550 qv T561.heap n0 (Nat.le_trans Z0 EX561.1) fa kF [(f1, .ref g1)] F_C A_C .null (fun z _ => (own_gHs z hc204_576).trans rfl) (Or.inl rfl) (0 : Int32) ⟨fun _ => rfl, fun _ => rfl, fun _ _ _ => rfl, fun _ _ z => absurd rfl z⟩) hZ (own_q hw 139 rfl) (own_q hw 29 rfl) (by decide) (by decide)) q579a q579c (g := (mkF m 230 #[.val (.long p0), .second, .val (.int p1), .val (.int p2), .val (.int p3), .val (.int p4), .val (.int f1), .val (.int f2), .val (.int cnt), .val (.int (1 : Int32)), .val (.int (0 : Int32)), .val (.ref b534), .val (.ref b545), .val (.ref b550), .val (.int (p3 &&& (3 : Int32))), .val (.int qv), .val (.int (0 : Int32))] [(.int qv), (.ref b550)])) rfl (by rw [hml]; rfl) (Steps.refl _) (argsL := [(.int qv)]) (rest := []) (lenOf pd_365 rfl) rfl (by show 2 * 0 + _ ≤ _; exact Nat.le_of_eq rfl) (hb hby at_230) (fun _ _ => ⟨rfl, e569, (by decide : 22 + 0 ≤ _), (by decide : 65671 + 0 ≤ _)⟩)
      dsimp only [Pt.U, Pt.locs, Pt.cells, Pt.slots] at X579 l579 y579 z579 st579 hQ579
      obtain rfl : k579 = 22 := y579; obtain rfl : n579 = 65671 := z579
      obtain ⟨rfl, N579q, e579⟩ := hQ579
      have N579 : Fr n0 L579 := by rw [l579]; exact Fr.app N569 N579q
      obtain ⟨fs, hr, hrun, hended, hW⟩ := X579.leaveW hSi538 (show _ ≤ T579.heap.size by rw [e579]; exact hSk561) (v := some (.int (1 : Int32))) (fun h => by rw [Bd.returns] at h; cases h)
      refine ⟨_, _, ck577 _ ?_, hrun, hended, _, _, rfl, ?_, own_retW (k := 22) (n := 65671) hW (by decide) (by decide)⟩
      · refine XS.icmpNo X569.here hx rfl (hb hby at_204) rfl (feq hc204_576).1 ?_
        refine XS.iload X569.here hx rfl (hb hby at_207) rfl ?_
        refine XS.ifYes X569.here hx rfl (pc0 := 209) (pc' := 223) rfl (hb hby at_209) rfl ((if0 _ _).trans (teq (by decide : (0 : Int32) = (0 : Int32))).1) (by decide) (by decide) ?_
        refine XS.iconst X569.here hx rfl (hb hby at_223) ?_
        refine XS.istore X569.here hx rfl (hb hby at_224) rfl (l' := #[.val (.long p0), .second, .val (.int p1), .val (.int p2), .val (.int p3), .val (.int p4), .val (.int f1), .val (.int f2), .val (.int cnt), .val (.int (1 : Int32)), .val (.int (0 : Int32)), .val (.ref b534), .val (.ref b545), .val (.ref b550), .val (.int (p3 &&& (3 : Int32))), .val (.int qv), .val (.int (0 : Int32))]) rfl ?_
        refine XS.aload X569.here hx rfl (hb hby at_226) rfl rfl ?_
        refine XS.iload X569.here hx rfl (hb hby at_228) rfl ?_
        refine st579.trans ?_
        show Steps p.tables e below (T579.setTop (mkF m 233 #[.val (.long p0), .second, .val (.int p1), .val (.int p2), .val (.int p3), .val (.int p4), .val (.int f1), .val (.int f2), .val (.int cnt), .val (.int (1 : Int32)), .val (.int (0 : Int32)), .val (.ref b534), .val (.ref b545), .val (.ref b550), .val (.int (p3 &&& (3 : Int32))), .val (.int qv), .val (.int (0 : Int32))] [(.int (0 : Int32))])) _
        refine XS.iload X579.here hx rfl (hb hby at_233) rfl ?_
        refine XS.icmpNo X579.here hx rfl (hb hby at_235) rfl (teq (by decide : (0 : Int32) = (0 : Int32))).2 ?_
        refine XS.iconst X579.here hx rfl (hb hby at_238) ?_
        refine XS.goto X579.here hx rfl (pc0 := 239) (pc' := 243) rfl (hb hby at_239) (by decide) (by decide) ?_
        exact retN X579 hx (t := .boolean) Bd.returns (by simp) (hb hby at_243) hr
      · show own_Made (some (.int 1)) n0 _ T579.heap _
        rw [e579]
        exact ⟨rfl, N579, trivial⟩
  · -- floors: 2
    obtain ⟨T580, h580, X580, e580, E580, A580, D580, -, st580⟩ := newO X499 hx hZ hown (own_q hw 1 rfl) (own_q hw 2 rfl) (own_q hw 3 rfl) e499 (g := (mkF m 53 #[.val (.long p0), .second, .val (.int p1), .val (.int p2), .val (.int p3), .val (.int p4), .val (.int f1), .val (.int f2), .val (.int cnt), .val (.int (1 : Int32)), .val (.int (1 : Int32)), .unset, .unset, .unset, .unset, .unset, .unset] [])) rfl (hb hby at_53) (by decide) (by decide)
    obtain ⟨b580, g580⟩ : ∃ z, z = h0.size := ⟨_, rfl⟩
    rw [← g580] at A580 D580 st580
    have sz_b580 : h0.size ≤ b580 := Nat.le_trans (Keep.refl h0 []).1 (Nat.le_of_eq g580.symm)
    have gn_b580 : n0 ≤ b580 := Nat.le_trans Z0 sz_b580
    have hSk580 := Nat.le_trans hSk0 E580.1
    have EX580 := own_ext_trans (own_ext_refl h0) E580
    have KP580 := Keep.ext (Keep.refl h0 []) E580
    have F580_modCount : Fld Z h580 b580 "java/util/AbstractList" "modCount" "I" (.int (0 : Int32)) := D580 (Or.inl (own_q hw 23 rfl)) (ty := .int) (by decide)
    have F580_elementData : Fld Z h580 b580 "java/util/ArrayList" "elementData" "[Ljava/lang/Object;" .null := D580 (Or.inl (own_q hw 26 rfl)) (ty := (.array (.object "java/lang/Object"))) (by decide)
    have F580_size : Fld Z h580 b580 "java/util/ArrayList" "size" "I" (.int (0 : Int32)) := D580 (Or.inl (own_q hw 134 rfl)) (ty := .int) (by decide)
    obtain ⟨_, _, ⟨T581, L581, k581, n581⟩, -, X581, ⟨Lc581, hQ581, l581, y581, z581⟩, st581⟩ := X580.specialBack hx (y := (⟨"java/util/ArrayList", "<init>", "()V"⟩ : MethodName)) rfl hown (mvT hZ (own_q hw 4 rfl)) (mvT hZ (own_q hw 5 rfl)) (mvT hZ (own_q hw 6 rfl)) (by decide) (backOf (W := 1) (rm_ali l Z a0 hw [] b580 h580 n0 (Nat.le_trans Z0 EX580.1) ⟨A580, F580_elementData, F580_size, F580_modCount⟩ gn_b580 hS hn (own_ext_trans hEx EX580) dE oe kD hWd) hZ (own_q hw 6 rfl) (own_q hw 3 rfl) (by decide) (by decide)) (g := (mkF m 57 #[.val (.long p0), .second, .val (.int p1), .val (.int p2), .val (.int p3), .val (.int p4), .val (.int f1), .val (.int f2), .val (.int cnt), .val (.int (1 : Int32)), .val (.int (1 : Int32)), .unset, .unset, .unset, .unset, .unset, .unset] [(.ref b580), (.ref b580)])) rfl (by rw [hml]; rfl) (Steps.refl _) (a := b580) (argsL := []) (rest := [(.ref b580)]) (lenOf pd_13 rfl) rfl (by show 2 * 0 + _ ≤ _; exact Nat.le_of_eq rfl) (hb hby at_57) (fun _ _ => ⟨rfl, e580, (by decide : 1 + 0 ≤ _), (by decide : 3 + 0 ≤ _)⟩)
    dsimp only [Pt.U, Pt.locs, Pt.cells, Pt.slots] at X581 l581 y581 z581 st581 hQ581
    obtain rfl : k581 = 1 := y581; obtain rfl : n581 = 3 := z581
    obtain ⟨rfl, N581q, K581, EA581, FE581, FZ581, FM581⟩ := hQ581
    have N581 : Fr n0 L581 := by rw [l581]; exact Fr.app N499 N581q
    have e581 : T581.heap = T581.heap := rfl
    have hSk581 := Nat.le_trans hSk580 K581.1
    have EX581 := own_ext_keep EX580 K581 (allS sz_b580 all0)
    have KP581 := Keep.trans KP580 K581 (allS (Or.inr sz_b580) all0)
    obtain ⟨T582, h582, X582, e582, E582, A582, D582, -, st582⟩ := newO X581 hx hZ hown (own_q hw 141 rfl) (own_q hw 142 rfl) (own_q hw 143 rfl) e581 (g := (mkF m 69 #[.val (.long p0), .second, .val (.int p1), .val (.int p2), .val (.int p3), .val (.int p4), .val (.int f1), .val (.int f2), .val (.int cnt), .val (.int (1 : Int32)), .val (.int (1 : Int32)), .val (.ref b580), .unset, .unset, .unset, .unset, .unset] [(.ref b580)])) rfl (hb hby at_69) (by decide) (by decide)
    obtain ⟨b582, g582⟩ : ∃ z, z = T581.heap.size := ⟨_, rfl⟩
    rw [← g582] at A582 D582 st582
    have sz_b582 : h0.size ≤ b582 := Nat.le_trans KP581.1 (Nat.le_of_eq g582.symm)
    have gn_b582 : n0 ≤ b582 := Nat.le_trans Z0 sz_b582
    have ne_b580_b582 : b580 ≠ b582 := Nat.ne_of_lt (Nat.lt_of_lt_of_le EA581.lt (Nat.le_of_eq g582.symm))
    have hSk582 := Nat.le_trans hSk581 E582.1
    have EX582 := own_ext_trans EX581 E582
    have KP582 := Keep.ext KP581 E582
    have F582_id : Fld Z h582 b582 "com/example/parley/parley/floor/FloorSettings" "id" "I" (.int (0 : Int32)) := D582 (Or.inr (own_q hw 186 rfl)) (ty := .int) (by decide)
    have F582_chair : Fld Z h582 b582 "com/example/parley/parley/floor/FloorSettings" "chair" "Ljava/util/OptionalInt;" .null := D582 (Or.inr (own_q hw 188 rfl)) (ty := (.object "java/util/OptionalInt")) (by decide)
    have F582_maxRequestsPerUser : Fld Z h582 b582 "com/example/parley/parley/floor/FloorSettings" "maxRequestsPerUser" "I" (.int (0 : Int32)) := D582 (Or.inr (own_q hw 190 rfl)) (ty := .int) (by decide)
    have ck583 : ∀ t, Steps p.tables e below (T582.setTop (mkF m 75 #[.val (.long p0), .second, .val (.int p1), .val (.int p2), .val (.int p3), .val (.int p4), .val (.int f1), .val (.int f2), .val (.int cnt), .val (.int (1 : Int32)), .val (.int (1 : Int32)), .val (.ref b580), .unset, .unset, .unset, .unset, .unset] [(.int f1), (.ref b582), (.ref b582), (.ref b580)])) t → Steps p.tables e below (s₁.setTop (entryFrame m #[(.long p0), (.int p1), (.int p2), (.int p3), (.int p4)] maxLocals)) t := by
      intro t kt
      refine ck499 _ ?_
      refine st580 _ ?_
      show Steps p.tables e below (T580.setTop (mkF m 56 #[.val (.long p0), .second, .val (.int p1), .val (.int p2), .val (.int p3), .val (.int p4), .val (.int f1), .val (.int f2), .val (.int cnt), .val (.int (1 : Int32)), .val (.int (1 : Int32)), .unset, .unset, .unset, .unset, .unset, .unset] [(.ref b580)])) _
      refine XS.dup X580.here hx rfl (hb hby at_56) rfl rfl ?_
      refine st581.trans ?_
      show Steps p.tables e below (T581.setTop (mkF m 60 #[.val (.long p0), .second, .val (.int p1), .val (.int p2), .val (.int p3), .val (.int p4), .val (.int f1), .val (.int f2), .val (.int cnt), .val (.int (1 : Int32)), .val (.int (1 : Int32)), .unset, .unset, .unset, .unset, .unset, .unset] [(.ref b580)])) _
      refine XS.astore X581.here hx rfl (hb hby at_60) rfl rfl (l' := #[.val (.long p0), .second, .val (.int p1), .val (.int p2), .val (.int p3), .val (.int p4), .val (.int f1), .val (.int f2), .val (.int cnt), .val (.int (1 : Int32)), .val (.int (1 : Int32)), .val (.ref b580), .unset, .unset, .unset, .unset, .unset]) rfl ?_
      refine XS.iload X581.here hx rfl (hb hby at_62) rfl ?_
      refine XS.ifNo X581.here hx rfl (hb hby at_64) rfl ((if0 _ _).trans (feq (by decide : ¬ ((1 : Int32) = (0 : Int32)))).1) ?_
      refine XS.aload X581.here hx rfl (hb hby at_67) rfl rfl ?_
      refine st582 _ ?_
      show Steps p.tables e below (T582.setTop (mkF m 72 #[.val (.long p0), .second, .val (.int p1), .val (.int p2), .val (.int p3), .val (.int p4), .val (.int f1), .val (.int f2), .val (.int cnt), .val (.int (1 : Int32)), .val (.int (1 : Int32)), .val (.ref b580), .unset, .unset, .unset, .unset, .unset] [(.ref b582), (.ref b580)])) _
      refine XS.dup X582.here hx rfl (hb hby at_72) rfl rfl ?_
      refine XS.iload X582.here hx rfl (hb hby at_73) rfl ?_
      exact kt
    (try clear st582); (try clear D582); (try clear KP581); (try clear EX581); (try clear e581); (try clear K581); (try clear N581q); (try clear st581); (try clear Lc581); (try clear X581); (try clear n581); (try clear k581); (try clear L581); (try clear T581); (try clear F580_size); (try clear F580_elementData); (try clear F580_modCount); (try clear KP580); (try clear EX580); (try clear st580); (try clear D580); (try clear A580); (try clear E580); (try clear e580); (try clear X580); (try clear h580); (try clear T580)
    obtain ⟨_, _, ⟨T584, L584, k584, n584⟩, -, X584r, S584r, g584r, ⟨Lc584, hQ584, l584, y584, z584⟩, st584⟩ := X582.specialBackS hx (y := (⟨"com/example/parley/parley/floor/FloorSettings", "<init>", "(I)V"⟩ : MethodName)) rfl hown (mvT hZ (own_q hw 144 rfl)) (mvT hZ (own_q hw 145 rfl)) (mvT hZ (own_q hw 146 rfl)) (by decide) (backOfS (W := 2) (rm_fs1 l Z a0 hw [] b582 f1 h582 n0 (Nat.le_trans Z0 EX582.1) A582 F582_id F582_chair F582_maxRequestsPerUser gn_b582 hf1 hS hn (own_ext_trans hEx EX582) dE oe kD hWd) hZ (own_q hw 146 rfl) (own_q hw 143 rfl) (by decide) (by decide)) (g := (mkF m 75 #[.val (.long p0), .second, .val (.int p1), .val (.int p2), .val (.int p3), .val (.int p4), .val (.int f1), .val (.int f2), .val (.int cnt), .val (.int (1 : Int32)), .val (.int (1 : Int32)), .val (.ref b580), .unset, .unset, .unset, .unset, .unset] [(.int f1), (.ref b582), (.ref b582), (.ref b580)])) rfl (by rw [hml]; rfl) (Steps.refl _) (a := b582) (argsL := [(.int f1)]) (rest := [(.ref b582), (.ref b580)]) (lenOf pd_391 rfl) rfl (by show 2 * 0 + _ ≤ _; exact Nat.le_of_eq rfl) (hb hby at_75) (fun _ _ => ⟨rfl, e582, (by decide : 2 + 2 ≤ _), (by decide : 6 + 36 ≤ _)⟩)
    dsimp only [Pt.U, Pt.locs, Pt.cells, Pt.slots] at X584r S584r g584r l584 y584 z584 st584 hQ584
    obtain rfl : k584 = 4 := y584; obtain rfl : n584 = 42 := z584
    obtain ⟨X584, hSi584, hZ, hown⟩ := rebS hSi0 (show _ ≤ T582.heap.size by rw [e582]; exact hSk582) X584r S584r g584r hZ hown
    obtain ⟨rfl, N584q, K584, hX584⟩ := hQ584
    have N584 : Fr n0 L584 := by rw [l584]; exact Fr.app N581 N584q
    have e584 : T584.heap = T584.heap := rfl
    have hSk584 := Nat.le_trans hSk582 K584.1
    have EX584 := own_ext_keep EX582 K584 (allS sz_b582 all0)
    have KP584 := Keep.trans KP582 K584 (allS (Or.inr sz_b582) all0)
    have Fx585 := ((EA581.ext E582).keep K584)
    have Fx586 := ((FE581.ext E582).keep K584 (ninS ne_b580_b582 nin0))
    have Fx587 := ((FZ581.ext E582).keep K584 (ninS ne_b580_b582 nin0))
    have Fx588 := ((FM581.ext E582).keep K584 (ninS ne_b580_b582 nin0))
    obtain ⟨cq589, kq589, q589a, q589b, q589c⟩ := isOf hZ e584 (Fx585)
    obtain ⟨_, _, ⟨T589, L589, k589, n589⟩, -, X589, ⟨Lc589, hQ589, l589, y589, z589⟩, st589⟩ := X584.virtualBack hx (y := (⟨"java/util/ArrayList", "add", "(Ljava/lang/Object;)Z"⟩ : MethodName)) (z := (⟨"java/util/ArrayList", "add", "(Ljava/lang/Object;)Z"⟩ : MethodName)) hown (mvT hZ (own_q hw 191 rfl)) (mvT hZ (own_q hw 192 rfl)) (notFace_of_selects (args := #[]) (mvT hZ (own_q hw 194 rfl))) (mvT hZ (own_q hw 194 rfl)) (mvT hZ (own_q hw 193 rfl)) (by decide) (backOf (W := 0) (rm_add_0 l Z a0 hw [] b580 b582 T584.heap n0 (Nat.le_trans Z0 EX584.1) hS hn (own_ext_trans hEx EX584) dE oe kD hWd ⟨Fx585, Fx586, Fx587, Fx588⟩ gn_b580 (hX584).1) hZ (own_q hw 195 rfl) (own_q hw 3 rfl) (by decide) (by decide)) q589a q589c (g := (mkF m 78 #[.val (.long p0), .second, .val (.int p1), .val (.int p2), .val (.int p3), .val (.int p4), .val (.int f1), .val (.int f2), .val (.int cnt), .val (.int (1 : Int32)), .val (.int (1 : Int32)), .val (.ref b580), .unset, .unset, .unset, .unset, .unset] [(.ref b582), (.ref b580)])) rfl (by rw [hml]; rfl) (Steps.refl _) (argsL := [(.ref b582)]) (rest := []) (lenOf pd_392 rfl) rfl (by show 2 * 0 + _ ≤ _; exact Nat.le_of_eq rfl) (hb hby at_78) (fun _ _ => ⟨rfl, e584, (by decide : 4 + 1 ≤ _), (by decide : 42 + 10 ≤ _)⟩)
    dsimp only [Pt.U, Pt.locs, Pt.cells, Pt.slots] at X589 l589 y589 z589 st589 hQ589
    obtain rfl : k589 = 5 := y589; obtain rfl : n589 = 52 := z589
    obtain ⟨rfl, N589q, K589, ed, kE, z589', ⟨EA589, FE589, FZ589, FM589⟩, V_E, O_E⟩ := hQ589
    have N589 : Fr n0 L589 := by rw [l589]; exact Fr.app N584 N589q
    have e589 : T589.heap = T589.heap := rfl
    have hSk589 := Nat.le_trans (Nat.le_refl T584.heap.size) K589.1
    have EX589 := own_ext_keep EX584 K589 (allS sz_b580 all0)
    have KP589 := Keep.trans KP584 K589 (allS (Or.inr sz_b580) all0)
    have sz_ed : h0.size ≤ ed := Nat.le_trans KP584.1 z589'
    have gn_ed : n0 ≤ ed := Nat.le_trans Z0 sz_ed
    have ne_b580_ed : b580 ≠ ed := Nat.ne_of_lt (Nat.lt_of_lt_of_le Fx585.lt z589')
    have ne_b582_ed : b582 ≠ ed := Nat.ne_of_lt (Nat.lt_of_lt_of_le hX584.lt z589')
    have Fx590 := (hX584.keep K589 (ninS (Ne.symm ne_b580_b582) nin0))
    obtain ⟨T591, h591, X591, e591, E591, A591, D591, -, st591⟩ := newO X589 hx hZ hown (own_q hw 141 rfl) (own_q hw 142 rfl) (own_q hw 143 rfl) e589 (g := (mkF m 89 #[.val (.long p0), .second, .val (.int p1), .val (.int p2), .val (.int p3), .val (.int p4), .val (.int f1), .val (.int f2), .val (.int cnt), .val (.int (1 : Int32)), .val (.int (1 : Int32)), .val (.ref b580), .unset, .unset, .unset, .unset, .unset] [(.ref b580)])) rfl (hb hby at_89) (by decide) (by decide)
    obtain ⟨b591, g591⟩ : ∃ z, z = T589.heap.size := ⟨_, rfl⟩
    rw [← g591] at A591 D591 st591
    have sz_b591 : h0.size ≤ b591 := Nat.le_trans KP589.1 (Nat.le_of_eq g591.symm)
    have gn_b591 : n0 ≤ b591 := Nat.le_trans Z0 sz_b591
    have ne_b580_b591 : b580 ≠ b591 := Nat.ne_of_lt (Nat.lt_of_lt_of_le EA589.lt (Nat.le_of_eq g591.symm))
    have ne_b582_b591 : b582 ≠ b591 := Nat.ne_of_lt (Nat.lt_of_lt_of_le Fx590.lt (Nat.le_of_eq g591.symm))
    have ne_ed_b591 : ed ≠ b591 := Nat.ne_of_lt (Nat.lt_of_lt_of_le V_E.lt (Nat.le_of_eq g591.symm))
    have hSk591 := Nat.le_trans hSk589 E591.1
    have EX591 := own_ext_trans EX589 E591
    have KP591 := Keep.ext KP589 E591
    have F591_id : Fld Z h591 b591 "com/example/parley/parley/floor/FloorSettings" "id" "I" (.int (0 : Int32)) := D591 (Or.inr (own_q hw 186 rfl)) (ty := .int) (by decide)
    have F591_chair : Fld Z h591 b591 "com/example/parley/parley/floor/FloorSettings" "chair" "Ljava/util/OptionalInt;" .null := D591 (Or.inr (own_q hw 188 rfl)) (ty := (.object "java/util/OptionalInt")) (by decide)
    have F591_maxRequestsPerUser : Fld Z h591 b591 "com/example/parley/parley/floor/FloorSettings" "maxRequestsPerUser" "I" (.int (0 : Int32)) := D591 (Or.inr (own_q hw 190 rfl)) (ty := .int) (by decide)
    have ck592 : ∀ t, Steps p.tables e below (T591.setTop (mkF m 95 #[.val (.long p0), .second, .val (.int p1), .val (.int p2), .val (.int p3), .val (.int p4), .val (.int f1), .val (.int f2), .val (.int cnt), .val (.int (1 : Int32)), .val (.int (1 : Int32)), .val (.ref b580), .unset, .unset, .unset, .unset, .unset] [(.int f2), (.ref b591), (.ref b591), (.ref b580)])) t → Steps p.tables e below (s₁.setTop (entryFrame m #[(.long p0), (.int p1), (.int p2), (.int p3), (.int p4)] maxLocals)) t := by
      intro t kt
      refine ck583 _ ?_
      refine st584.trans ?_
      show Steps p.tables e below (T584.setTop (mkF m 78 #[.val (.long p0), .second, .val (.int p1), .val (.int p2), .val (.int p3), .val (.int p4), .val (.int f1), .val (.int f2), .val (.int cnt), .val (.int (1 : Int32)), .val (.int (1 : Int32)), .val (.ref b580), .unset, .unset, .unset, .unset, .unset] [(.ref b582), (.ref b580)])) _
      refine st589.trans ?_
      show Steps p.tables e below (T589.setTop (mkF m 81 #[.val (.long p0), .second, .val (.int p1), .val (.int p2), .val (.int p3), .val (.int p4), .val (.int f1), .val (.int f2), .val (.int cnt), .val (.int (1 : Int32)), .val (.int (1 : Int32)), .val (.ref b580), .unset, .unset, .unset, .unset, .unset] [(.int (1 : Int32))])) _
      refine XS.pop X589.here hx rfl (hb hby at_81) rfl rfl ?_
      refine XS.iload X589.here hx rfl (hb hby at_82) rfl ?_
      refine XS.ifNo X589.here hx rfl (hb hby at_84) rfl ((if0 _ _).trans (feq (by decide : ¬ ((1 : Int32) = (0 : Int32)))).1) ?_
      refine XS.aload X589.here hx rfl (hb hby at_87) rfl rfl ?_
      refine st591 _ ?_
      show Steps p.tables e below (T591.setTop (mkF m 92 #[.val (.long p0), .second, .val (.int p1), .val (.int p2), .val (.int p3), .val (.int p4), .val (.int f1), .val (.int f2), .val (.int cnt), .val (.int (1 : Int32)), .val (.int (1 : Int32)), .val (.ref b580), .unset, .unset, .unset, .unset, .unset] [(.ref b591), (.ref b580)])) _
      refine XS.dup X591.here hx rfl (hb hby at_92) rfl rfl ?_
      refine XS.iload X591.here hx rfl (hb hby at_93) rfl ?_
      exact kt
    (try clear st591); (try clear D591); (try clear KP589); (try clear EX589); (try clear e589); (try clear K589); (try clear N589q); (try clear st589); (try clear Lc589); (try clear X589); (try clear n589); (try clear k589); (try clear L589); (try clear T589); (try clear q589c); (try clear q589b); (try clear q589a); (try clear kq589); (try clear cq589); (try clear Fx588); (try clear Fx587); (try clear Fx586); (try clear Fx585); (try clear KP584); (try clear EX584); (try clear e584); (try clear N584); (try clear K584); (try clear N584q); (try clear X584); (try clear st584); (try clear Lc584); (try clear n584); (try clear k584); (try clear L584); (try clear T584)
    obtain ⟨_, _, ⟨T593, L593, k593, n593⟩, -, X593r, S593r, g593r, ⟨Lc593, hQ593, l593, y593, z593⟩, st593⟩ := X591.specialBackS hx (y := (⟨"com/example/parley/parley/floor/FloorSettings", "<init>", "(I)V"⟩ : MethodName)) rfl hown (mvT hZ (own_q hw 144 rfl)) (mvT hZ (own_q hw 145 rfl)) (mvT hZ (own_q hw 146 rfl)) (by decide) (backOfS (W := 2) (rm_fs1 l Z a0 hw [] b591 f2 h591 n0 (Nat.le_trans Z0 EX591.1) A591 F591_id F591_chair F591_maxRequestsPerUser gn_b591 hf2 hS hn (own_ext_trans hEx EX591) dE oe kD hWd) hZ (own_q hw 146 rfl) (own_q hw 143 rfl) (by decide) (by decide)) (g := (mkF m 95 #[.val (.long p0), .second, .val (.int p1), .val (.int p2), .val (.int p3), .val (.int p4), .val (.int f1), .val (.int f2), .val (.int cnt), .val (.int (1 : Int32)), .val (.int (1 : Int32)), .val (.ref b580), .unset, .unset, .unset, .unset, .unset] [(.int f2), (.ref b591), (.ref b591), (.ref b580)])) rfl (by rw [hml]; rfl) (Steps.refl _) (a := b591) (argsL := [(.int f2)]) (rest := [(.ref b591), (.ref b580)]) (lenOf pd_391 rfl) rfl (by show 2 * 0 + _ ≤ _; exact Nat.le_of_eq rfl) (hb hby at_95) (fun _ _ => ⟨rfl, e591, (by decide : 6 + 2 ≤ _), (by decide : 55 + 36 ≤ _)⟩)
    dsimp only [Pt.U, Pt.locs, Pt.cells, Pt.slots] at X593r S593r g593r l593 y593 z593 st593 hQ593
    obtain rfl : k593 = 8 := y593; obtain rfl : n593 = 91 := z593
    obtain ⟨X593, hSi593, hZ, hown⟩ := rebS hSi584 (show _ ≤ T591.heap.size by rw [e591]; exact hSk591) X593r S593r g593r hZ hown
    obtain ⟨rfl, N593q, K593, hX593⟩ := hQ593
    have N593 : Fr n0 L593 := by rw [l593]; exact Fr.app N589 N593q
    have e593 : T593.heap = T593.heap := rfl
    have hSk593 := Nat.le_trans hSk591 K593.1
    have EX593 := own_ext_keep EX591 K593 (allS sz_b591 all0)
    have KP593 := Keep.trans KP591 K593 (allS (Or.inr sz_b591) all0)
    have Fx594 := ((EA589.ext E591).keep K593)
    have Fx595 := ((FE589.ext E591).keep K593 (ninS ne_b580_b591 nin0))
    have Fx596 := ((FZ589.ext E591).keep K593 (ninS ne_b580_b591 nin0))
    have Fx597 := ((FM589.ext E591).keep K593 (ninS ne_b580_b591 nin0))
    have Fx598 := ((V_E.ext E591).keep K593 (ninS ne_ed_b591 nin0))
    obtain ⟨cq599, kq599, q599a, q599b, q599c⟩ := isOf hZ e593 (Fx594)
    obtain ⟨_, _, ⟨T599, L599, k599, n599⟩, -, X599, ⟨Lc599, hQ599, l599, y599, z599⟩, st599⟩ := X593.virtualBack hx (y := (⟨"java/util/ArrayList", "add", "(Ljava/lang/Object;)Z"⟩ : MethodName)) (z := (⟨"java/util/ArrayList", "add", "(Ljava/lang/Object;)Z"⟩ : MethodName)) hown (mvT hZ (own_q hw 191 rfl)) (mvT hZ (own_q hw 192 rfl)) (notFace_of_selects (args := #[]) (mvT hZ (own_q hw 194 rfl))) (mvT hZ (own_q hw 194 rfl)) (mvT hZ (own_q hw 193 rfl)) (by decide) (backOf (W := 0) (rm_add_1 l Z a0 hw [] b580 b591 T593.heap n0 (Nat.le_trans Z0 EX593.1) ed b582 kE ⟨Fx594, Fx595, Fx596, Fx597⟩ Fx598 O_E gn_b580 gn_ed ne_b580_ed (hX593).1) hZ (own_q hw 195 rfl) (own_q hw 3 rfl) (by decide) (by decide)) q599a q599c (g := (mkF m 98 #[.val (.long p0), .second, .val (.int p1), .val (.int p2), .val (.int p3), .val (.int p4), .val (.int f1), .val (.int f2), .val (.int cnt), .val (.int (1 : Int32)), .val (.int (1 : Int32)), .val (.ref b580), .unset, .unset, .unset, .unset, .unset] [(.ref b591), (.ref b580)])) rfl (by rw [hml]; rfl) (Steps.refl _) (argsL := [(.ref b591)]) (rest := []) (lenOf pd_392 rfl) rfl (by show 2 * 0 + _ ≤ _; exact Nat.le_of_eq rfl) (hb hby at_98) (fun _ _ => ⟨rfl, e593, (by decide : 8 + 0 ≤ _), (by decide : 91 + 0 ≤ _)⟩)
    dsimp only [Pt.U, Pt.locs, Pt.cells, Pt.slots] at X599 l599 y599 z599 st599 hQ599
    obtain rfl : k599 = 8 := y599; obtain rfl : n599 = 91 := z599
    obtain ⟨rfl, N599q, K599, ⟨EA599, FE599, FZ599, FM599⟩, V599'⟩ := hQ599
    have N599 : Fr n0 L599 := by rw [l599]; exact Fr.app N593 N599q
    have e599 : T599.heap = T599.heap := rfl
    have hSk599 := Nat.le_trans (Nat.le_refl T593.heap.size) K599.1
    have EX599 := own_ext_keep EX593 K599 (allS sz_b580 (allS sz_ed all0))
    have KP599 := Keep.trans KP593 K599 (allS (Or.inr sz_b580) (allS (Or.inr sz_ed) all0))
    have Fx600 := (((Fx590.ext E591).keep K593 (ninS ne_b582_b591 nin0)).keep K599 (ninS (Ne.symm ne_b580_b582) (ninS ne_b582_ed nin0)))
    have Fx601 := (hX593.keep K599 (ninS (Ne.symm ne_b580_b591) (ninS (Ne.symm ne_ed_b591) nin0)))
    obtain ⟨T602, h602, X602, e602, E602, A602, D602, -, st602⟩ := newO X599 hx hZ hown (own_q hw 1 rfl) (own_q hw 2 rfl) (own_q hw 3 rfl) e599 (g := (mkF m 102 #[.val (.long p0), .second, .val (.int p1), .val (.int p2), .val (.int p3), .val (.int p4), .val (.int f1), .val (.int f2), .val (.int cnt), .val (.int (1 : Int32)), .val (.int (1 : Int32)), .val (.ref b580), .unset, .unset, .unset, .unset, .unset] [])) rfl (hb hby at_102) (by decide) (by decide)
    obtain ⟨b602, g602⟩ : ∃ z, z = T599.heap.size := ⟨_, rfl⟩
    rw [← g602] at A602 D602 st602
    have sz_b602 : h0.size ≤ b602 := Nat.le_trans KP599.1 (Nat.le_of_eq g602.symm)
    have gn_b602 : n0 ≤ b602 := Nat.le_trans Z0 sz_b602
    have ne_b580_b602 : b580 ≠ b602 := Nat.ne_of_lt (Nat.lt_of_lt_of_le EA599.lt (Nat.le_of_eq g602.symm))
    have ne_b582_b602 : b582 ≠ b602 := Nat.ne_of_lt (Nat.lt_of_lt_of_le Fx600.lt (Nat.le_of_eq g602.symm))
    have ne_ed_b602 : ed ≠ b602 := Nat.ne_of_lt (Nat.lt_of_lt_of_le V599'.lt (Nat.le_of_eq g602.symm))
    have ne_b591_b602 : b591 ≠ b602 := Nat.ne_of_lt (Nat.lt_of_lt_of_le Fx601.lt (Nat.le_of_eq g602.symm))
    have hSk602 := Nat.le_trans hSk599 E602.1
    have EX602 := own_ext_trans EX599 E602
    have KP602 := Keep.ext KP599 E602
    have F602_modCount : Fld Z h602 b602 "java/util/AbstractList" "modCount" "I" (.int (0 : Int32)) := D602 (Or.inl (own_q hw 23 rfl)) (ty := .int) (by decide)
    have F602_elementData : Fld Z h602 b602 "java/util/ArrayList" "elementData" "[Ljava/lang/Object;" .null := D602 (Or.inl (own_q hw 26 rfl)) (ty := (.array (.object "java/lang/Object"))) (by decide)
    have F602_size : Fld Z h602 b602 "java/util/ArrayList" "size" "I" (.int (0 : Int32)) := D602 (Or.inl (own_q hw 134 rfl)) (ty := .int) (by decide)
    obtain ⟨_, _, ⟨T603, L603, k603, n603⟩, -, X603, ⟨Lc603, hQ603, l603, y603, z603⟩, st603⟩ := X602.specialBack hx (y := (⟨"java/util/ArrayList", "<init>", "()V"⟩ : MethodName)) rfl hown (mvT hZ (own_q hw 4 rfl)) (mvT hZ (own_q hw 5 rfl)) (mvT hZ (own_q hw 6 rfl)) (by decide) (backOf (W := 1) (rm_ali l Z a0 hw [] b602 h602 n0 (Nat.le_trans Z0 EX602.1) ⟨A602, F602_elementData, F602_size, F602_modCount⟩ gn_b602 hS hn (own_ext_trans hEx EX602) dE oe kD hWd) hZ (own_q hw 6 rfl) (own_q hw 3 rfl) (by decide) (by decide)) (g := (mkF m 106 #[.val (.long p0), .second, .val (.int p1), .val (.int p2), .val (.int p3), .val (.int p4), .val (.int f1), .val (.int f2), .val (.int cnt), .val (.int (1 : Int32)), .val (.int (1 : Int32)), .val (.ref b580), .unset, .unset, .unset, .unset, .unset] [(.ref b602), (.ref b602)])) rfl (by rw [hml]; rfl) (Steps.refl _) (a := b602) (argsL := []) (rest := [(.ref b602)]) (lenOf pd_13 rfl) rfl (by show 2 * 0 + _ ≤ _; exact Nat.le_of_eq rfl) (hb hby at_106) (fun _ _ => ⟨rfl, e602, (by decide : 9 + 0 ≤ _), (by decide : 94 + 0 ≤ _)⟩)
    dsimp only [Pt.U, Pt.locs, Pt.cells, Pt.slots] at X603 l603 y603 z603 st603 hQ603
    obtain rfl : k603 = 9 := y603; obtain rfl : n603 = 94 := z603
    obtain ⟨rfl, N603q, K603, EA603, FE603, FZ603, FM603⟩ := hQ603
    have N603 : Fr n0 L603 := by rw [l603]; exact Fr.app N599 N603q
    have e603 : T603.heap = T603.heap := rfl
    have hSk603 := Nat.le_trans hSk602 K603.1
    have EX603 := own_ext_keep EX602 K603 (allS sz_b602 all0)
    have KP603 := Keep.trans KP602 K603 (allS (Or.inr sz_b602) all0)
    have Fx604 := ((EA599.ext E602).keep K603)
    have Fx605 := ((Fx600.ext E602).keep K603 (ninS ne_b582_b602 nin0))
    have Fx606 := ((V599'.ext E602).keep K603 (ninS ne_ed_b602 nin0))
    have Fx607 := ((Fx601.ext E602).keep K603 (ninS ne_b591_b602 nin0))
    obtain ⟨T608, h608, X608, e608, E608, A608, D608, -, st608⟩ := newO X603 hx hZ hown (own_q hw 27 rfl) (own_q hw 28 rfl) (own_q hw 29 rfl) e603 (g := (mkF m 111 #[.val (.long p0), .second, .val (.int p1), .val (.int p2), .val (.int p3), .val (.int p4), .val (.int f1), .val (.int f2), .val (.int cnt), .val (.int (1 : Int32)), .val (.int (1 : Int32)), .val (.ref b580), .val (.ref b602), .unset, .unset, .unset, .unset] [])) rfl (hb hby at_111) (by decide) (by decide)
    obtain ⟨b608, g608⟩ : ∃ z, z = T603.heap.size := ⟨_, rfl⟩
    rw [← g608] at A608 D608 st608
    have sz_b608 : h0.size ≤ b608 := Nat.le_trans KP603.1 (Nat.le_of_eq g608.symm)
    have gn_b608 : n0 ≤ b608 := Nat.le_trans Z0 sz_b608
    have ne_b580_b608 : b580 ≠ b608 := Nat.ne_of_lt (Nat.lt_of_lt_of_le Fx604.lt (Nat.le_of_eq g608.symm))
    have ne_b582_b608 : b582 ≠ b608 := Nat.ne_of_lt (Nat.lt_of_lt_of_le Fx605.lt (Nat.le_of_eq g608.symm))
    have ne_ed_b608 : ed ≠ b608 := Nat.ne_of_lt (Nat.lt_of_lt_of_le Fx606.lt (Nat.le_of_eq g608.symm))
    have ne_b591_b608 : b591 ≠ b608 := Nat.ne_of_lt (Nat.lt_of_lt_of_le Fx607.lt (Nat.le_of_eq g608.symm))
    have ne_b602_b608 : b602 ≠ b608 := Nat.ne_of_lt (Nat.lt_of_lt_of_le EA603.lt (Nat.le_of_eq g608.symm))
    have hSk608 := Nat.le_trans hSk603 E608.1
    have EX608 := own_ext_trans EX603 E608
    have KP608 := Keep.ext KP603 E608
    have F608_floors : Fld Z h608 b608 "com/example/parley/parley/floor/Conference" "floors" "[Lcom/example/parley/parley/floor/Conference$Floor;" .null := D608 (Or.inr (own_q hw 39 rfl)) (ty := (.array (.object "com/example/parley/parley/floor/Conference$Floor"))) (by decide)
    have F608_users : Fld Z h608 b608 "com/example/parley/parley/floor/Conference" "users" "Ljava/util/Map;" .null := D608 (Or.inr (own_q hw 57 rfl)) (ty := (.object "java/util/Map")) (by decide)
    have F608_pinned : Fld Z h608 b608 "com/example/parley/parley/floor/Conference" "pinned" "Ljava/util/Set;" .null := D608 (Or.inr (own_q hw 78 rfl)) (ty := (.object "java/util/Set")) (by decide)
    have F608_requests : Fld Z h608 b608 "com/example/parley/parley/floor/Conference" "requests" "Ljava/util/Map;" .null := D608 (Or.inr (own_q hw 80 rfl)) (ty := (.object "java/util/Map")) (by decide)
    have F608_madeBy : Fld Z h608 b608 "com/example/parley/parley/floor/Conference" "madeBy" "Ljava/util/Map;" .null := D608 (Or.inr (own_q hw 82 rfl)) (ty := (.object "java/util/Map")) (by decide)
    have F608_madeFor : Fld Z h608 b608 "com/example/parley/parley/floor/Conference" "madeFor" "Ljava/util/Map;" .null := D608 (Or.inr (own_q hw 84 rfl)) (ty := (.object "java/util/Map")) (by decide)
    have F608_requesterListeners : Fld Z h608 b608 "com/example/parley/parley/floor/Conference" "requesterListeners" "Ljava/util/List;" .null := D608 (Or.inr (own_q hw 88 rfl)) (ty := (.object "java/util/List")) (by decide)
    have F608_changeListeners : Fld Z h608 b608 "com/example/parley/parley/floor/Conference" "changeListeners" "Ljava/util/List;" .null := D608 (Or.inr (own_q hw 90 rfl)) (ty := (.object "java/util/List")) (by decide)
    have F608_id : Fld Z h608 b608 "com/example/parley/parley/floor/Conference" "id" "J" (.long (0 : Int64)) := D608 (Or.inr (own_q hw 96 rfl)) (ty := .long) (by decide)
    obtain ⟨xi, h_xi⟩ : ∃ zQ : Int64, (p0 &&& (4294967295 : Int64)) = zQ := ⟨_, rfl⟩
    have hxi : 0 ≤ xi.toInt ∧ xi.toInt ≤ 4294967295 := by rw [← h_xi]; exact own_and32 p0
    have Fx609 := (Fx604.ext E608)
    have Fx610 := (((FE599.ext E602).keep K603 (ninS ne_b580_b602 nin0)).ext E608)
    have Fx611 := (((FZ599.ext E602).keep K603 (ninS ne_b580_b602 nin0)).ext E608)
    have Fx612 := (((FM599.ext E602).keep K603 (ninS ne_b580_b602 nin0)).ext E608)
    have Fx613 := (EA603.ext E608)
    have Fx614 := (FE603.ext E608)
    have Fx615 := (FZ603.ext E608)
    have Fx616 := (FM603.ext E608)
    have Fx617 := (Fx606.ext E608)
    have Fx618 := (Fx605.ext E608)
    have Fx619 := (Fx607.ext E608)
    obtain ⟨_, _, ⟨T620, L620, k620, n620⟩, -, X620, ⟨Lc620, hQ620, l620, y620, z620⟩, st620⟩ := X608.specialBack hx (y := (⟨"com/example/parley/parley/floor/Conference", "<init>", "(JLjava/util/Collection;Ljava/util/Collection;)V"⟩ : MethodName)) rfl hown (mvT hZ (own_q hw 31 rfl)) (mvT hZ (own_q hw 32 rfl)) (mvT hZ (own_q hw 33 rfl)) (by decide) (backOf (W := 1) (rm_cfi_2 l Z a0 hw [] b608 xi b580 b602 h608 n0 (Nat.le_trans Z0 EX608.1) A608 F608_floors F608_users F608_pinned F608_requests F608_madeBy F608_madeFor F608_requesterListeners F608_changeListeners F608_id gn_b608 hS hn (own_ext_trans hEx EX608) dE oe kD hWd ed b582 b591 kE f1 f2 hxi.1 hxi.2 ⟨Fx609, Fx610, Fx611, Fx612⟩ ⟨Fx613, Fx614, Fx615, Fx616⟩ ne_b580_b608 ne_b602_b608 Fx617 ne_ed_b608 Fx618 ne_b582_b608 hf1 Fx619 ne_b591_b608 hf2 hne) hZ (own_q hw 33 rfl) (own_q hw 29 rfl) (by decide) (by decide)) (g := (mkF m 124 #[.val (.long p0), .second, .val (.int p1), .val (.int p2), .val (.int p3), .val (.int p4), .val (.int f1), .val (.int f2), .val (.int cnt), .val (.int (1 : Int32)), .val (.int (1 : Int32)), .val (.ref b580), .val (.ref b602), .unset, .unset, .unset, .unset] [(.ref b602), (.ref b580), (.long xi), (.ref b608), (.ref b608)])) rfl (by rw [hml]; rfl) (Steps.refl _) (a := b608) (argsL := [(.long xi), (.ref b580), (.ref b602)]) (rest := [(.ref b608)]) (lenOf pd_390 rfl) rfl (by show 2 * 0 + _ ≤ _; exact Nat.le_of_eq rfl) (hb hby at_124) (fun _ _ => ⟨rfl, e608, (by decide : 10 + 18 ≤ _), (by decide : 105 + 65615 ≤ _)⟩)
    dsimp only [Pt.U, Pt.locs, Pt.cells, Pt.slots] at X620 l620 y620 z620 st620 hQ620
    obtain rfl : k620 = 28 := y620; obtain rfl : n620 = 65720 := z620
    obtain ⟨rfl, N620q, K620, fa, kF, g1, g2, E_C, F_C, A_C⟩ := hQ620
    have N620 : Fr n0 L620 := by rw [l620]; exact Fr.app N603 N620q
    have e620 : T620.heap = T620.heap := rfl
    have hSk620 := Nat.le_trans hSk608 K620.1
    have EX620 := own_ext_keep EX608 K620 (allS sz_b608 all0)
    have KP620 := Keep.trans KP608 K620 (allS (Or.inr sz_b608) all0)
    have ck621 : ∀ t, Steps p.tables e below (T620.setTop (mkF m 135 #[.val (.long p0), .second, .val (.int p1), .val (.int p2), .val (.int p3), .val (.int p4), .val (.int f1), .val (.int f2), .val (.int cnt), .val (.int (1 : Int32)), .val (.int (1 : Int32)), .val (.ref b580), .val (.ref b602), .val (.ref b608), .val (.int (p3 &&& (3 : Int32))), .unset, .unset] [])) t → Steps p.tables e below (s₁.setTop (entryFrame m #[(.long p0), (.int p1), (.int p2), (.int p3), (.int p4)] maxLocals)) t := by
      intro t kt
      refine ck592 _ ?_
      refine st593.trans ?_
      show Steps p.tables e below (T593.setTop (mkF m 98 #[.val (.long p0), .second, .val (.int p1), .val (.int p2), .val (.int p3), .val (.int p4), .val (.int f1), .val (.int f2), .val (.int cnt), .val (.int (1 : Int32)), .val (.int (1 : Int32)), .val (.ref b580), .unset, .unset, .unset, .unset, .unset] [(.ref b591), (.ref b580)])) _
      refine st599.trans ?_
      show Steps p.tables e below (T599.setTop (mkF m 101 #[.val (.long p0), .second, .val (.int p1), .val (.int p2), .val (.int p3), .val (.int p4), .val (.int f1), .val (.int f2), .val (.int cnt), .val (.int (1 : Int32)), .val (.int (1 : Int32)), .val (.ref b580), .unset, .unset, .unset, .unset, .unset] [(.int (1 : Int32))])) _
      refine XS.pop X599.here hx rfl (hb hby at_101) rfl rfl ?_
      refine st602 _ ?_
      show Steps p.tables e below (T602.setTop (mkF m 105 #[.val (.long p0), .second, .val (.int p1), .val (.int p2), .val (.int p3), .val (.int p4), .val (.int f1), .val (.int f2), .val (.int cnt), .val (.int (1 : Int32)), .val (.int (1 : Int32)), .val (.ref b580), .unset, .unset, .unset, .unset, .unset] [(.ref b602)])) _
      refine XS.dup X602.here hx rfl (hb hby at_105) rfl rfl ?_
      refine st603.trans ?_
      show Steps p.tables e below (T603.setTop (mkF m 109 #[.val (.long p0), .second, .val (.int p1), .val (.int p2), .val (.int p3), .val (.int p4), .val (.int f1), .val (.int f2), .val (.int cnt), .val (.int (1 : Int32)), .val (.int (1 : Int32)), .val (.ref b580), .unset, .unset, .unset, .unset, .unset] [(.ref b602)])) _
      refine XS.astore X603.here hx rfl (hb hby at_109) rfl rfl (l' := #[.val (.long p0), .second, .val (.int p1), .val (.int p2), .val (.int p3), .val (.int p4), .val (.int f1), .val (.int f2), .val (.int cnt), .val (.int (1 : Int32)), .val (.int (1 : Int32)), .val (.ref b580), .val (.ref b602), .unset, .unset, .unset, .unset]) rfl ?_
      refine st608 _ ?_
      show Steps p.tables e below (T608.setTop (mkF m 114 #[.val (.long p0), .second, .val (.int p1), .val (.int p2), .val (.int p3), .val (.int p4), .val (.int f1), .val (.int f2), .val (.int cnt), .val (.int (1 : Int32)), .val (.int (1 : Int32)), .val (.ref b580), .val (.ref b602), .unset, .unset, .unset, .unset] [(.ref b608)])) _
      refine XS.dup X608.here hx rfl (hb hby at_114) rfl rfl ?_
      refine XS.lloadN X608.here hx rfl (hb hby at_115) rfl ?_
      refine X608.ldc2Long hx hown (mvT hZ (own_q hw 30 rfl)) (g := (mkF m 116 #[.val (.long p0), .second, .val (.int p1), .val (.int p2), .val (.int p3), .val (.int p4), .val (.int f1), .val (.int f2), .val (.int cnt), .val (.int (1 : Int32)), .val (.int (1 : Int32)), .val (.ref b580), .val (.ref b602), .unset, .unset, .unset, .unset] [(.long p0), (.ref b608), (.ref b608)])) rfl (hb hby at_116) _ ?_
      show Steps p.tables e below (T608.setTop (mkF m 119 #[.val (.long p0), .second, .val (.int p1), .val (.int p2), .val (.int p3), .val (.int p4), .val (.int f1), .val (.int f2), .val (.int cnt), .val (.int (1 : Int32)), .val (.int (1 : Int32)), .val (.ref b580), .val (.ref b602), .unset, .unset, .unset, .unset] [(.long (4294967295 : Int64)), (.long p0), (.ref b608), (.ref b608)])) _
      refine XS.land X608.here hx rfl (hb hby at_119) rfl ?_
      show Steps p.tables e below (T608.setTop (mkF m 120 #[.val (.long p0), .second, .val (.int p1), .val (.int p2), .val (.int p3), .val (.int p4), .val (.int f1), .val (.int f2), .val (.int cnt), .val (.int (1 : Int32)), .val (.int (1 : Int32)), .val (.ref b580), .val (.ref b602), .unset, .unset, .unset, .unset] [(.long (p0 &&& (4294967295 : Int64))), (.ref b608), (.ref b608)])) _
      rw [h_xi]
      show Steps p.tables e below (T608.setTop (mkF m 120 #[.val (.long p0), .second, .val (.int p1), .val (.int p2), .val (.int p3), .val (.int p4), .val (.int f1), .val (.int f2), .val (.int cnt), .val (.int (1 : Int32)), .val (.int (1 : Int32)), .val (.ref b580), .val (.ref b602), .unset, .unset, .unset, .unset] [(.long xi), (.ref b608), (.ref b608)])) _
      refine XS.aload X608.here hx rfl (hb hby at_120) rfl rfl ?_
      refine XS.aload X608.here hx rfl (hb hby at_122) rfl rfl ?_
      refine st620.trans ?_
      show Steps p.tables e below (T620.setTop (mkF m 127 #[.val (.long p0), .second, .val (.int p1), .val (.int p2), .val (.int p3), .val (.int p4), .val (.int f1), .val (.int f2), .val (.int cnt), .val (.int (1 : Int32)), .val (.int (1 : Int32)), .val (.ref b580), .val (.ref b602), .unset, .unset, .unset, .unset] [(.ref b608)])) _
      refine XS.astore X620.here hx rfl (hb hby at_127) rfl rfl (l' := #[.val (.long p0), .second, .val (.int p1), .val (.int p2), .val (.int p3), .val (.int p4), .val (.int f1), .val (.int f2), .val (.int cnt), .val (.int (1 : Int32)), .val (.int (1 : Int32)), .val (.ref b580), .val (.ref b602), .val (.ref b608), .unset, .unset, .unset]) rfl ?_
      refine XS.iload X620.here hx rfl (hb hby at_129) rfl ?_
      refine XS.iconst X620.here hx rfl (hb hby at_131) ?_
      refine XS.iand X620.here hx rfl (hb hby at_132) rfl ?_
      refine XS.istore X620.here hx rfl (hb hby at_133) rfl (l' := #[.val (.long p0), .second, .val (.int p1), .val (.int p2), .val (.int p3), .val (.int p4), .val (.int f1), .val (.int f2), .val (.int cnt), .val (.int (1 : Int32)), .val (.int (1 : Int32)), .val (.ref b580), .val (.ref b602), .val (.ref b608), .val (.int (p3 &&& (3 : Int32))), .unset, .unset]) rfl ?_
      exact kt
    (try clear N620q); (try clear st620); (try clear Lc620); (try clear n620); (try clear k620); (try clear L620); (try clear F608_id); (try clear F608_changeListeners); (try clear F608_requesterListeners); (try clear F608_madeFor); (try clear F608_madeBy); (try clear F608_requests); (try clear F608_pinned); (try clear F608_users); (try clear F608_floors); (try clear KP608); (try clear EX608); (try clear st608); (try clear D608); (try clear A608); (try clear E608); (try clear e608); (try clear X608); (try clear h608); (try clear T608); (try clear Fx607); (try clear Fx606); (try clear Fx605); (try clear Fx604); (try clear KP603); (try clear EX603); (try clear e603); (try clear N603); (try clear K603); (try clear N603q); (try clear st603); (try clear Lc603); (try clear X603); (try clear n603); (try clear k603); (try clear L603); (try clear T603); (try clear F602_size); (try clear F602_elementData); (try clear F602_modCount); (try clear KP602); (try clear EX602); (try clear st602); (try clear D602); (try clear A602); (try clear E602); (try clear e602); (try clear X602); (try clear h602); (try clear T602); (try clear Fx601); (try clear Fx600); (try clear KP599); (try clear EX599); (try clear e599); (try clear N599); (try clear V599'); (try clear K599); (try clear N599q); (try clear st599); (try clear Lc599); (try clear X599); (try clear n599); (try clear k599); (try clear L599); (try clear T599); (try clear q599c); (try clear q599b); (try clear q599a); (try clear kq599); (try clear cq599); (try clear Fx598); (try clear Fx597); (try clear Fx596); (try clear Fx595); (try clear Fx594); (try clear KP593); (try clear EX593); (try clear e593); (try clear N593); (try clear K593); (try clear N593q); (try clear X593); (try clear st593); (try clear Lc593); (try clear n593); (try clear k593); (try clear L593); (try clear T593)
    obtain ⟨T628, L628, qv, X628, e628, N628, ck628⟩ : ∃ (TJ : State) (LJ : List Loc) (qv : Int32), Stand p l e room_1 (s.setVm T593.vm) m #[(.long p0), (.int p1), (.int p2), (.int p3), (.int p4)] below meth c TJ LJ 28 65720 ∧ TJ.heap = T620.heap ∧ Fr n0 LJ ∧ (∀ t, Steps p.tables e below (TJ.setTop (mkF m 195 #[.val (.long p0), .second, .val (.int p1), .val (.int p2), .val (.int p3), .val (.int p4), .val (.int f1), .val (.int f2), .val (.int cnt), .val (.int (1 : Int32)), .val (.int (1 : Int32)), .val (.ref b580), .val (.ref b602), .val (.ref b608), .val (.int (p3 &&& (3 : Int32))), .val (.int qv), .unset] [])) t → Steps p.tables e below (s₁.setTop (entryFrame m #[(.long p0), (.int p1), (.int p2), (.int p3), (.int p4)] maxLocals)) t) := by
      by_cases hc137_629 : (p3 &&& (3 : Int32)) = (0 : Int32)
      · -- pc 137: yes
        refine ⟨T620, _, f1, X620, e620, N620, fun t kt => ?_⟩
        refine ck621 _ ?_
        refine XS.iload X620.here hx rfl (hb hby at_135) rfl ?_
        refine XS.ifNo X620.here hx rfl (hb hby at_137) rfl ((if0 _ _).trans (teq hc137_629).2) ?_
        refine XS.iload X620.here hx rfl (hb hby at_140) rfl ?_
        refine XS.istore X620.here hx rfl (hb hby at_142) rfl (l' := #[.val (.long p0), .second, .val (.int p1), .val (.int p2), .val (.int p3), .val (.int p4), .val (.int f1), .val (.int f2), .val (.int cnt), .val (.int (1 : Int32)), .val (.int (1 : Int32)), .val (.ref b580), .val (.ref b602), .val (.ref b608), .val (.int (p3 &&& (3 : Int32))), .val (.int f1), .unset]) rfl ?_
        refine XS.goto X620.here hx rfl (pc0 := 144) (pc' := 195) rfl (hb hby at_144) (by decide) (by decide) ?_
        exact kt
      · -- pc 137: no
        have ck631 : ∀ t, Steps p.tables e below (T620.setTop (mkF m 150 #[.val (.long p0), .second, .val (.int p1), .val (.int p2), .val (.int p3), .val (.int p4), .val (.int f1), .val (.int f2), .val (.int cnt), .val (.int (1 : Int32)), .val (.int (1 : Int32)), .val (.ref b580), .val (.ref b602), .val (.ref b608), .val (.int (p3 &&& (3 : Int32))), .unset, .unset] [(.int (1 : Int32)), (.int (p3 &&& (3 : Int32)))])) t → Steps p.tables e below (s₁.setTop (entryFrame m #[(.long p0), (.int p1), (.int p2), (.int p3), (.int p4)] maxLocals)) t := by
          intro t kt
          refine ck621 _ ?_
          refine XS.iload X620.here hx rfl (hb hby at_135) rfl ?_
          refine XS.ifYes X620.here hx rfl (pc0 := 137) (pc' := 147) rfl (hb hby at_137) rfl ((if0 _ _).trans (feq hc137_629).2) (by decide) (by decide) ?_
          refine XS.iload X620.here hx rfl (hb hby at_147) rfl ?_
          refine XS.iconst X620.here hx rfl (hb hby at_149) ?_
          exact kt
        by_cases hc150_630 : (p3 &&& (3 : Int32)) = (1 : Int32)
        · -- pc 150: yes
          refine ⟨T620, _, f2, X620, e620, N620, fun t kt => ?_⟩
          refine ck631 _ ?_
          refine XS.icmpNo X620.here hx rfl (hb hby at_150) rfl (teq hc150_630).2 ?_
          refine XS.iload X620.here hx rfl (hb hby at_153) rfl ?_
          refine XS.istore X620.here hx rfl (hb hby at_155) rfl (l' := #[.val (.long p0), .second, .val (.int p1), .val (.int p2), .val (.int p3), .val (.int p4), .val (.int f1), .val (.int f2), .val (.int cnt), .val (.int (1 : Int32)), .val (.int (1 : Int32)), .val (.ref b580), .val (.ref b602), .val (.ref b608), .val (.int (p3 &&& (3 : Int32))), .val (.int f2), .unset]) rfl ?_
          refine XS.goto X620.here hx rfl (pc0 := 157) (pc' := 195) rfl (hb hby at_157) (by decide) (by decide) ?_
          exact kt
        · -- pc 150: no
          by_cases hc163_632 : (p3 &&& (3 : Int32)) = (2 : Int32)
          · -- pc 163: yes
            refine ⟨T620, _, p4, X620, e620, N620, fun t kt => ?_⟩
            refine ck631 _ ?_
            refine XS.icmpYes X620.here hx rfl (pc0 := 150) (pc' := 160) rfl (hb hby at_150) rfl (feq hc150_630).2 (by decide) (by decide) ?_
            refine XS.iload X620.here hx rfl (hb hby at_160) rfl ?_
            refine XS.iconst X620.here hx rfl (hb hby at_162) ?_
            refine XS.icmpNo X620.here hx rfl (hb hby at_163) rfl (teq hc163_632).2 ?_
            refine XS.iload X620.here hx rfl (hb hby at_166) rfl ?_
            refine XS.istore X620.here hx rfl (hb hby at_168) rfl (l' := #[.val (.long p0), .second, .val (.int p1), .val (.int p2), .val (.int p3), .val (.int p4), .val (.int f1), .val (.int f2), .val (.int cnt), .val (.int (1 : Int32)), .val (.int (1 : Int32)), .val (.ref b580), .val (.ref b602), .val (.ref b608), .val (.int (p3 &&& (3 : Int32))), .val (.int p4), .unset]) rfl ?_
            refine XS.goto X620.here hx rfl (pc0 := 170) (pc' := 195) rfl (hb hby at_170) (by decide) (by decide) ?_
            exact kt
          · -- pc 163: no
            have ck634 : ∀ t, Steps p.tables e below (T620.setTop (mkF m 177 #[.val (.long p0), .second, .val (.int p1), .val (.int p2), .val (.int p3), .val (.int p4), .val (.int f1), .val (.int f2), .val (.int cnt), .val (.int (1 : Int32)), .val (.int (1 : Int32)), .val (.ref b580), .val (.ref b602), .val (.ref b608), .val (.int (p3 &&& (3 : Int32))), .unset, .unset] [(.int (p4 &&& (1 : Int32)))])) t → Steps p.tables e below (s₁.setTop (entryFrame m #[(.long p0), (.int p1), (.int p2), (.int p3), (.int p4)] maxLocals)) t := by
              intro t kt
              refine ck631 _ ?_
              refine XS.icmpYes X620.here hx rfl (pc0 := 150) (pc' := 160) rfl (hb hby at_150) rfl (feq hc150_630).2 (by decide) (by decide) ?_
              refine XS.iload X620.here hx rfl (hb hby at_160) rfl ?_
              refine XS.iconst X620.here hx rfl (hb hby at_162) ?_
              refine XS.icmpYes X620.here hx rfl (pc0 := 163) (pc' := 173) rfl (hb hby at_163) rfl (feq hc163_632).2 (by decide) (by decide) ?_
              refine XS.iload X620.here hx rfl (hb hby at_173) rfl ?_
              refine XS.iconst X620.here hx rfl (hb hby at_175) ?_
              refine XS.iand X620.here hx rfl (hb hby at_176) rfl ?_
              exact kt
            by_cases hc177_633 : (p4 &&& (1 : Int32)) = (0 : Int32)
            · -- pc 177: yes
              refine ⟨T620, _, (f1 + (1 : Int32)), X620, e620, N620, fun t kt => ?_⟩
              refine ck634 _ ?_
              refine XS.ifNo X620.here hx rfl (hb hby at_177) rfl ((if0 _ _).trans (teq hc177_633).2) ?_
              refine XS.iload X620.here hx rfl (hb hby at_180) rfl ?_
              refine XS.iconst X620.here hx rfl (hb hby at_182) ?_
              refine XS.iadd X620.here hx rfl (hb hby at_183) rfl ?_
              refine XS.istore X620.here hx rfl (hb hby at_184) rfl (l' := #[.val (.long p0), .second, .val (.int p1), .val (.int p2), .val (.int p3), .val (.int p4), .val (.int f1), .val (.int f2), .val (.int cnt), .val (.int (1 : Int32)), .val (.int (1 : Int32)), .val (.ref b580), .val (.ref b602), .val (.ref b608), .val (.int (p3 &&& (3 : Int32))), .val (.int (f1 + (1 : Int32))), .unset]) rfl ?_
              refine XS.goto X620.here hx rfl (pc0 := 186) (pc' := 195) rfl (hb hby at_186) (by decide) (by decide) ?_
              exact kt
            · -- pc 177: no
              refine ⟨T620, _, (f1 - (1 : Int32)), X620, e620, N620, fun t kt => ?_⟩
              refine ck634 _ ?_
              refine XS.ifYes X620.here hx rfl (pc0 := 177) (pc' := 189) rfl (hb hby at_177) rfl ((if0 _ _).trans (feq hc177_633).2) (by decide) (by decide) ?_
              refine XS.iload X620.here hx rfl (hb hby at_189) rfl ?_
              refine XS.iconst X620.here hx rfl (hb hby at_191) ?_
              refine XS.isub X620.here hx rfl (hb hby at_192) rfl ?_
              refine XS.istore X620.here hx rfl (hb hby at_193) rfl (l' := #[.val (.long p0), .second, .val (.int p1), .val (.int p2), .val (.int p3), .val (.int p4), .val (.int f1), .val (.int f2), .val (.int cnt), .val (.int (1 : Int32)), .val (.int (1 : Int32)), .val (.ref b580), .val (.ref b602), .val (.ref b608), .val (.int (p3 &&& (3 : Int32))), .val (.int (f1 - (1 : Int32))), .unset]) rfl ?_
              exact kt
    have ck636 : ∀ t, Steps p.tables e below (T628.setTop (mkF m 204 #[.val (.long p0), .second, .val (.int p1), .val (.int p2), .val (.int p3), .val (.int p4), .val (.int f1), .val (.int f2), .val (.int cnt), .val (.int (1 : Int32)), .val (.int (1 : Int32)), .val (.ref b580), .val (.ref b602), .val (.ref b608), .val (.int (p3 &&& (3 : Int32))), .val (.int qv), .unset] [(.int f1), (.int qv)])) t → Steps p.tables e below (s₁.setTop (entryFrame m #[(.long p0), (.int p1), (.int p2), (.int p3), (.int p4)] maxLocals)) t := by
      intro t kt
      refine ck628 _ ?_
      refine XS.iload X628.here hx rfl (hb hby at_195) rfl ?_
      refine XS.ifNo X628.here hx rfl (hb hby at_197) rfl ((if0 _ _).trans (feq (by decide : ¬ ((1 : Int32) = (0 : Int32)))).1) ?_
      refine XS.iload X628.here hx rfl (hb hby at_200) rfl ?_
      refine XS.iload X628.here hx rfl (hb hby at_202) rfl ?_
      exact kt
    by_cases hc204_635 : qv = f1
    · -- pc 204: yes
      obtain ⟨cq637, kq637, q637a, q637b, q637c⟩ := isOf hZ e628 (E_C)
      obtain ⟨_, _, ⟨T637, L637, k637, n637⟩, -, X637, ⟨Lc637, hQ637, l637, y637, z637⟩, st637⟩ := X628.virtualBack hx (y := (⟨"com/example/parley/parley/floor/Conference", "hasFloor", "(I)Z"⟩ : MethodName)) (z := (⟨"com/example/parley/parley/floor/Conference", "hasFloor", "(I)Z"⟩ : MethodName)) hown (mvT hZ (own_q hw 135 rfl)) (mvT hZ (own_q hw 136 rfl)) (notFace_of_selects (args := #[]) (mvT hZ (own_q hw 138 rfl))) (mvT hZ (own_q hw 138 rfl)) (mvT hZ (own_q hw 137 rfl)) (by decide) (backOf (W := 0) (rm_hf l Z a0 hw [] b608 qv T620.heap n0 (Nat.le_trans Z0 EX620.1) fa kF [(f2, .ref g2), (f1, .ref g1)] F_C A_C (.ref g1) (fun z _ => (own_gHs z (fun u => hne (u.symm.trans hc204_635))).trans (own_gHm (own_r16 hf1).1 hc204_635)) (Or.inr ⟨_, rfl⟩) (1 : Int32) (own_hr1 hf1 hc204_635 nofun)) hZ (own_q hw 139 rfl) (own_q hw 29 rfl) (by decide) (by decide)) q637a q637c (g := (mkF m 230 #[.val (.long p0), .second, .val (.int p1), .val (.int p2), .val (.int p3), .val (.int p4), .val (.int f1), .val (.int f2), .val (.int cnt), .val (.int (1 : Int32)), .val (.int (1 : Int32)), .val (.ref b580), .val (.ref b602), .val (.ref b608), .val (.int (p3 &&& (3 : Int32))), .val (.int qv), .val (.int (1 : Int32))] [(.int qv), (.ref b608)])) rfl (by rw [hml]; rfl) (Steps.refl _) (argsL := [(.int qv)]) (rest := []) (lenOf pd_365 rfl) rfl (by show 2 * 0 + _ ≤ _; exact Nat.le_of_eq rfl) (hb hby at_230) (fun _ _ => ⟨rfl, e628, (by decide : 28 + 0 ≤ _), (by decide : 65720 + 0 ≤ _)⟩)
      dsimp only [Pt.U, Pt.locs, Pt.cells, Pt.slots] at X637 l637 y637 z637 st637 hQ637
      obtain rfl : k637 = 28 := y637; obtain rfl : n637 = 65720 := z637
      obtain ⟨rfl, N637q, e637⟩ := hQ637
      have N637 : Fr n0 L637 := by rw [l637]; exact Fr.app N628 N637q
      obtain ⟨fs, hr, hrun, hended, hW⟩ := X637.leaveW hSi593 (show _ ≤ T637.heap.size by rw [e637]; exact hSk620) (v := some (.int (1 : Int32))) (fun h => by rw [Bd.returns] at h; cases h)
      refine ⟨_, _, ck636 _ ?_, hrun, hended, _, _, rfl, ?_, own_retW (k := 28) (n := 65720) hW (by decide) (by decide)⟩
      · refine XS.icmpYes X628.here hx rfl (pc0 := 204) (pc' := 219) rfl (hb hby at_204) rfl (teq hc204_635).1 (by decide) (by decide) ?_
        refine XS.iconst X628.here hx rfl (hb hby at_219) ?_
        refine XS.goto X628.here hx rfl (pc0 := 220) (pc' := 224) rfl (hb hby at_220) (by decide) (by decide) ?_
        refine XS.istore X628.here hx rfl (hb hby at_224) rfl (l' := #[.val (.long p0), .second, .val (.int p1), .val (.int p2), .val (.int p3), .val (.int p4), .val (.int f1), .val (.int f2), .val (.int cnt), .val (.int (1 : Int32)), .val (.int (1 : Int32)), .val (.ref b580), .val (.ref b602), .val (.ref b608), .val (.int (p3 &&& (3 : Int32))), .val (.int qv), .val (.int (1 : Int32))]) rfl ?_
        refine XS.aload X628.here hx rfl (hb hby at_226) rfl rfl ?_
        refine XS.iload X628.here hx rfl (hb hby at_228) rfl ?_
        refine st637.trans ?_
        show Steps p.tables e below (T637.setTop (mkF m 233 #[.val (.long p0), .second, .val (.int p1), .val (.int p2), .val (.int p3), .val (.int p4), .val (.int f1), .val (.int f2), .val (.int cnt), .val (.int (1 : Int32)), .val (.int (1 : Int32)), .val (.ref b580), .val (.ref b602), .val (.ref b608), .val (.int (p3 &&& (3 : Int32))), .val (.int qv), .val (.int (1 : Int32))] [(.int (1 : Int32))])) _
        refine XS.iload X637.here hx rfl (hb hby at_233) rfl ?_
        refine XS.icmpNo X637.here hx rfl (hb hby at_235) rfl (teq (by decide : (1 : Int32) = (1 : Int32))).2 ?_
        refine XS.iconst X637.here hx rfl (hb hby at_238) ?_
        refine XS.goto X637.here hx rfl (pc0 := 239) (pc' := 243) rfl (hb hby at_239) (by decide) (by decide) ?_
        exact retN X637 hx (t := .boolean) Bd.returns (by simp) (hb hby at_243) hr
      · show own_Made (some (.int 1)) n0 _ T637.heap _
        rw [e637]
        exact ⟨rfl, N637, trivial⟩
    · -- pc 204: no
      have ck639 : ∀ t, Steps p.tables e below (T628.setTop (mkF m 216 #[.val (.long p0), .second, .val (.int p1), .val (.int p2), .val (.int p3), .val (.int p4), .val (.int f1), .val (.int f2), .val (.int cnt), .val (.int (1 : Int32)), .val (.int (1 : Int32)), .val (.ref b580), .val (.ref b602), .val (.ref b608), .val (.int (p3 &&& (3 : Int32))), .val (.int qv), .unset] [(.int f2), (.int qv)])) t → Steps p.tables e below (s₁.setTop (entryFrame m #[(.long p0), (.int p1), (.int p2), (.int p3), (.int p4)] maxLocals)) t := by
        intro t kt
        refine ck636 _ ?_
        refine XS.icmpNo X628.here hx rfl (hb hby at_204) rfl (feq hc204_635).1 ?_
        refine XS.iload X628.here hx rfl (hb hby at_207) rfl ?_
        refine XS.ifNo X628.here hx rfl (hb hby at_209) rfl ((if0 _ _).trans (feq (by decide : ¬ ((1 : Int32) = (0 : Int32)))).1) ?_
        refine XS.iload X628.here hx rfl (hb hby at_212) rfl ?_
        refine XS.iload X628.here hx rfl (hb hby at_214) rfl ?_
        exact kt
      by_cases hc216_638 : qv = f2
      · -- pc 216: yes
        obtain ⟨cq640, kq640, q640a, q640b, q640c⟩ := isOf hZ e628 (E_C)
        obtain ⟨_, _, ⟨T640, L640, k640, n640⟩, -, X640, ⟨Lc640, hQ640, l640, y640, z640⟩, st640⟩ := X628.virtualBack hx (y := (⟨"com/example/parley/parley/floor/Conference", "hasFloor", "(I)Z"⟩ : MethodName)) (z := (⟨"com/example/parley/parley/floor/Conference", "hasFloor", "(I)Z"⟩ : MethodName)) hown (mvT hZ (own_q hw 135 rfl)) (mvT hZ (own_q hw 136 rfl)) (notFace_of_selects (args := #[]) (mvT hZ (own_q hw 138 rfl))) (mvT hZ (own_q hw 138 rfl)) (mvT hZ (own_q hw 137 rfl)) (by decide) (backOf (W := 0) (rm_hf l Z a0 hw [] b608 qv T620.heap n0 (Nat.le_trans Z0 EX620.1) fa kF [(f2, .ref g2), (f1, .ref g1)] F_C A_C (.ref g2) (fun _ _ => own_gHm (own_r16 hf2).1 hc216_638) (Or.inr ⟨_, rfl⟩) (1 : Int32) (own_hr1 hf2 hc216_638 nofun)) hZ (own_q hw 139 rfl) (own_q hw 29 rfl) (by decide) (by decide)) q640a q640c (g := (mkF m 230 #[.val (.long p0), .second, .val (.int p1), .val (.int p2), .val (.int p3), .val (.int p4), .val (.int f1), .val (.int f2), .val (.int cnt), .val (.int (1 : Int32)), .val (.int (1 : Int32)), .val (.ref b580), .val (.ref b602), .val (.ref b608), .val (.int (p3 &&& (3 : Int32))), .val (.int qv), .val (.int (1 : Int32))] [(.int qv), (.ref b608)])) rfl (by rw [hml]; rfl) (Steps.refl _) (argsL := [(.int qv)]) (rest := []) (lenOf pd_365 rfl) rfl (by show 2 * 0 + _ ≤ _; exact Nat.le_of_eq rfl) (hb hby at_230) (fun _ _ => ⟨rfl, e628, (by decide : 28 + 0 ≤ _), (by decide : 65720 + 0 ≤ _)⟩)
        dsimp only [Pt.U, Pt.locs, Pt.cells, Pt.slots] at X640 l640 y640 z640 st640 hQ640
        obtain rfl : k640 = 28 := y640; obtain rfl : n640 = 65720 := z640
        obtain ⟨rfl, N640q, e640⟩ := hQ640
        have N640 : Fr n0 L640 := by rw [l640]; exact Fr.app N628 N640q
        obtain ⟨fs, hr, hrun, hended, hW⟩ := X640.leaveW hSi593 (show _ ≤ T640.heap.size by rw [e640]; exact hSk620) (v := some (.int (1 : Int32))) (fun h => by rw [Bd.returns] at h; cases h)
        refine ⟨_, _, ck639 _ ?_, hrun, hended, _, _, rfl, ?_, own_retW (k := 28) (n := 65720) hW (by decide) (by decide)⟩
        · refine XS.icmpNo X628.here hx rfl (hb hby at_216) rfl (teq hc216_638).2 ?_
          refine XS.iconst X628.here hx rfl (hb hby at_219) ?_
          refine XS.goto X628.here hx rfl (pc0 := 220) (pc' := 224) rfl (hb hby at_220) (by decide) (by decide) ?_
          refine XS.istore X628.here hx rfl (hb hby at_224) rfl (l' := #[.val (.long p0), .second, .val (.int p1), .val (.int p2), .val (.int p3), .val (.int p4), .val (.int f1), .val (.int f2), .val (.int cnt), .val (.int (1 : Int32)), .val (.int (1 : Int32)), .val (.ref b580), .val (.ref b602), .val (.ref b608), .val (.int (p3 &&& (3 : Int32))), .val (.int qv), .val (.int (1 : Int32))]) rfl ?_
          refine XS.aload X628.here hx rfl (hb hby at_226) rfl rfl ?_
          refine XS.iload X628.here hx rfl (hb hby at_228) rfl ?_
          refine st640.trans ?_
          show Steps p.tables e below (T640.setTop (mkF m 233 #[.val (.long p0), .second, .val (.int p1), .val (.int p2), .val (.int p3), .val (.int p4), .val (.int f1), .val (.int f2), .val (.int cnt), .val (.int (1 : Int32)), .val (.int (1 : Int32)), .val (.ref b580), .val (.ref b602), .val (.ref b608), .val (.int (p3 &&& (3 : Int32))), .val (.int qv), .val (.int (1 : Int32))] [(.int (1 : Int32))])) _
          refine XS.iload X640.here hx rfl (hb hby at_233) rfl ?_
          refine XS.icmpNo X640.here hx rfl (hb hby at_235) rfl (teq (by decide : (1 : Int32) = (1 : Int32))).2 ?_
          refine XS.iconst X640.here hx rfl (hb hby at_238) ?_
          refine XS.goto X640.here hx rfl (pc0 := 239) (pc' := 243) rfl (hb hby at_239) (by decide) (by decide) ?_
          exact retN X640 hx (t := .boolean) Bd.returns (by simp) (hb hby at_243) hr
        · show own_Made (some (.int 1)) n0 _ T640.heap _
          rw [e640]
          exact ⟨rfl, N640, trivial⟩
      · -- pc 216: no
        obtain ⟨cq641, kq641, q641a, q641b, q641c⟩ := isOf hZ e628 (E_C)
        obtain ⟨_, _, ⟨T641, L641, k641, n641⟩, -, X641, ⟨Lc641, hQ641, l641, y641, z641⟩, st641⟩ := X628.virtualBack hx (y := (⟨"com/example/parley/parley/floor/Conference", "hasFloor", "(I)Z"⟩ : MethodName)) (z := (⟨"com/example/parley/parley/floor/Conference", "hasFloor", "(I)Z"⟩ : MethodName)) hown (mvT hZ (own_q hw 135 rfl)) (mvT hZ (own_q hw 136 rfl)) (notFace_of_selects (args := #[]) (mvT hZ (own_q hw 138 rfl))) (mvT hZ (own_q hw 138 rfl)) (mvT hZ (own_q hw 137 rfl)) (by decide) (backOf (W := 0) (rm_hf l Z a0 hw [] b608 qv T620.heap n0 (Nat.le_trans Z0 EX620.1) fa kF [(f2, .ref g2), (f1, .ref g1)] F_C A_C .null (fun z _ => (own_gHs z hc216_638).trans ((own_gHs z hc204_635).trans rfl)) (Or.inl rfl) (0 : Int32) ⟨fun _ => rfl, fun _ => rfl, fun _ _ _ => rfl, fun _ _ z => absurd rfl z⟩) hZ (own_q hw 139 rfl) (own_q hw 29 rfl) (by decide) (by decide)) q641a q641c (g := (mkF m 230 #[.val (.long p0), .second, .val (.int p1), .val (.int p2), .val (.int p3), .val (.int p4), .val (.int f1), .val (.int f2), .val (.int cnt), .val (.int (1 : Int32)), .val (.int (1 : Int32)), .val (.ref b580), .val (.ref b602), .val (.ref b608), .val (.int (p3 &&& (3 : Int32))), .val (.int qv), .val (.int (0 : Int32))] [(.int qv), (.ref b608)])) rfl (by rw [hml]; rfl) (Steps.refl _) (argsL := [(.int qv)]) (rest := []) (lenOf pd_365 rfl) rfl (by show 2 * 0 + _ ≤ _; exact Nat.le_of_eq rfl) (hb hby at_230) (fun _ _ => ⟨rfl, e628, (by decide : 28 + 0 ≤ _), (by decide : 65720 + 0 ≤ _)⟩)
        dsimp only [Pt.U, Pt.locs, Pt.cells, Pt.slots] at X641 l641 y641 z641 st641 hQ641
        obtain rfl : k641 = 28 := y641; obtain rfl : n641 = 65720 := z641
        obtain ⟨rfl, N641q, e641⟩ := hQ641
        have N641 : Fr n0 L641 := by rw [l641]; exact Fr.app N628 N641q
        obtain ⟨fs, hr, hrun, hended, hW⟩ := X641.leaveW hSi593 (show _ ≤ T641.heap.size by rw [e641]; exact hSk620) (v := some (.int (1 : Int32))) (fun h => by rw [Bd.returns] at h; cases h)
        refine ⟨_, _, ck639 _ ?_, hrun, hended, _, _, rfl, ?_, own_retW (k := 28) (n := 65720) hW (by decide) (by decide)⟩
        · refine XS.icmpYes X628.here hx rfl (pc0 := 216) (pc' := 223) rfl (hb hby at_216) rfl (feq hc216_638).2 (by decide) (by decide) ?_
          refine XS.iconst X628.here hx rfl (hb hby at_223) ?_
          refine XS.istore X628.here hx rfl (hb hby at_224) rfl (l' := #[.val (.long p0), .second, .val (.int p1), .val (.int p2), .val (.int p3), .val (.int p4), .val (.int f1), .val (.int f2), .val (.int cnt), .val (.int (1 : Int32)), .val (.int (1 : Int32)), .val (.ref b580), .val (.ref b602), .val (.ref b608), .val (.int (p3 &&& (3 : Int32))), .val (.int qv), .val (.int (0 : Int32))]) rfl ?_
          refine XS.aload X628.here hx rfl (hb hby at_226) rfl rfl ?_
          refine XS.iload X628.here hx rfl (hb hby at_228) rfl ?_
          refine st641.trans ?_
          show Steps p.tables e below (T641.setTop (mkF m 233 #[.val (.long p0), .second, .val (.int p1), .val (.int p2), .val (.int p3), .val (.int p4), .val (.int f1), .val (.int f2), .val (.int cnt), .val (.int (1 : Int32)), .val (.int (1 : Int32)), .val (.ref b580), .val (.ref b602), .val (.ref b608), .val (.int (p3 &&& (3 : Int32))), .val (.int qv), .val (.int (0 : Int32))] [(.int (0 : Int32))])) _
          refine XS.iload X641.here hx rfl (hb hby at_233) rfl ?_
          refine XS.icmpNo X641.here hx rfl (hb hby at_235) rfl (teq (by decide : (0 : Int32) = (0 : Int32))).2 ?_
          refine XS.iconst X641.here hx rfl (hb hby at_238) ?_
          refine XS.goto X641.here hx rfl (pc0 := 239) (pc' := 243) rfl (hb hby at_239) (by decide) (by decide) ?_
          exact retN X641 hx (t := .boolean) Bd.returns (by simp) (hb hby at_243) hr
        · show own_Made (some (.int 1)) n0 _ T641.heap _
          rw [e641]
          exact ⟨rfl, N641, trivial⟩
set_option maxRecDepth 65536 in
set_option maxHeartbeats 40000000 in
theorem comes_1 {Post : Tables → Env → Array Value → State → Outcome → State → Prop} (hpost : ∀ tb e args s v u, (limb_1_1.after args s (.returned v) u = true ∧ limb_1_2.after args s (.returned v) u = true ∧ True) → ReturnedEndW s (.returned v) u (Jvm.fieldLocs frame_1_writes args s ++ Jvm.arrayLocs frame_1_arrays args s ++ Jvm.staticLocs frame_1_statics s) 64 132416 → Post tb e args s (.returned v) u) :
    ArmFor flags0 classFile x code maxLocals ret World_1 tables_1 room_1 Calls_1 rest_1 Pre_1 Post := by
  intro l hfl _ _ p e ha hc hk s m args below hf hA hF happ hP
  obtain ⟨hcalls, hrest, hpre⟩ := hP
  obtain ⟨-, -, -, hnamed, -, -, -, hat⟩ := (Spec.applies_iff hf).mp happ
  obtain ⟨hg, hn⟩ := and_e (Cond.before_iff.mp (show (Jvm.Cond.and given_1 narrow_1).before args s = true from hpre))
  obtain ⟨gg0, hh0⟩ := and_e hg
  obtain ⟨gg1, hh1⟩ := and_e hh0
  obtain ⟨gg2, hh2⟩ := and_e hh1
  obtain ⟨gg3, hh3⟩ := and_e hh2
  obtain ⟨gg4, hh4⟩ := and_e hh3
  obtain ⟨w0, w1, w2, w3, w4, rfl⟩ : ∃ w0 w1 w2 w3 w4 : Value, args = #[w0, w1, w2, w3, w4] := by
    have hs : args.size = 5 := by simpa [Cond.value, given_1] using gg0
    obtain ⟨L⟩ := args
    match L, hs with
    | [w0, w1, w2, w3, w4], _ => exact ⟨w0, w1, w2, w3, w4, rfl⟩
  have hw := fun d (hd : d ∈ tables_1) => atoms_spec (ws := Jvm.Cond.code x code maxLocals ret :: tables_1) hat d (List.mem_cons_of_mem _ hd)
  have hfit : Fit s := fun {y c} hc i hi => by
    obtain ⟨ha, rfl⟩ := Array.getElem?_eq_some_iff.mp hc
    have q := List.all_eq_true.mp ((Array.all_eq_true_iff_forall_mem.mp hF) _ (Array.getElem_mem ha)) i (List.mem_range.mpr hi)
    simpa [Array.getElem?_eq_getElem hi] using q
  obtain ⟨i0, ei0⟩ := isL_v gg1
  obtain rfl : w0 = (.long i0) := Option.some.inj ei0
  obtain ⟨i1, ei1⟩ := is_v gg2
  obtain rfl : w1 = (.int i1) := Option.some.inj ei1
  obtain ⟨i2, ei2⟩ := is_v gg3
  obtain rfl : w2 = (.int i2) := Option.some.inj ei2
  obtain ⟨i3, ei3⟩ := is_v gg4
  obtain rfl : w3 = (.int i3) := Option.some.inj ei3
  obtain ⟨i4, ei4⟩ := is_v hh4
  obtain rfl : w4 = (.int i4) := Option.some.inj ei4
  have hrs := Cond.before_iff.mp (show rest_1_c.before _ s = true from hrest)
  obtain ⟨rr0, hrs⟩ := and_e hrs
  obtain ⟨rr1, hrs⟩ := and_e hrs
  obtain ⟨rr2, hrs⟩ := and_e hrs
  obtain ⟨rr3, hrs⟩ := and_e hrs
  obtain ⟨rr4, hrs⟩ := and_e hrs
  obtain ⟨rr5, hrs⟩ := and_e hrs
  obtain ⟨rr6, hrs⟩ := and_e hrs
  obtain ⟨rr7, hrs⟩ := and_e hrs
  obtain ⟨rr8, hrs⟩ := and_e hrs
  obtain ⟨rr9, hrs⟩ := and_e hrs
  obtain ⟨rr10, hrs⟩ := and_e hrs
  obtain ⟨rr11, hrs⟩ := and_e hrs
  obtain ⟨rr12, hrs⟩ := and_e hrs
  obtain ⟨rr13, hrs⟩ := and_e hrs
  obtain ⟨dE, edE⟩ := exa_v rr7
  obtain ⟨clD, arD⟩ := Arr.start edE rr6
  have A_D0 : Arv s s.heap dE clD.cls (.object "java/lang/Object") (0 : Int32) [] .null := own_arvL hfit edE arD rr8 (by decide) rfl (by simp [HasL])
  obtain ⟨oe, eoe⟩ := exa_v rr11
  have hWd0 : own_Wd s s.heap dE clD.cls oe := ⟨Sta.start edE (Or.inr ⟨(own_q hw 3 rfl), Cond.before_iff.mpr rr2⟩), A_D0, Sta.start eoe (Or.inl (Cond.before_iff.mpr rr10)), Exa.start eoe rr11, own_fld_eq eoe rr12⟩
  obtain ⟨n, o, h1, h2, h3, _, L, rfl, hQ0, hq⟩ := rm_law l s _ hw tables_1 i0 i1 i2 i3 i4 s.heap s.heap.size (Nat.le_refl _) s.heap (Nat.le_refl _) (own_ext_refl _) dE oe clD.cls hWd0 p e ha hc hk s m _ below hf ((Spec.applies_iff_loose hf).mp happ).1 ⟨rfl, State.Warmed39.refl s, rfl⟩ trivial
  have N := hQ0.2.1
  obtain rfl := hQ0.1
  refine ⟨n, _, h1, h2, h3, hpost _ _ _ _ _ _ ⟨Cond.after_iff.mpr rfl, Cond.after_iff.mpr (eq_i res_at (Term.int_eval (1)) rfl), trivial⟩ ⟨hq.1, hq.2.1, hq.2.2.1, (hq.2.2.2.sift fun y hy => Or.inr (N y hy)).mono (by decide) (by decide)⟩⟩
theorem main_1_1 : Claimed_1_1 := comes_1 fun _ _ _ _ _ _ h hF => ⟨h.1, hF⟩
theorem main_1_2 : Claimed_1_2 := comes_1 fun _ _ _ _ _ _ h hF => ⟨h.2.1, hF⟩
end Jvm.Pilot.@@N@@
namespace Jvm.Pilot.@@N@@
open Jvm Jvm.ClassFile Sem Op Lib Jvm.Free Jvm.Stand Jvm.Pilot.@@N@@.Jvm.D
/-! MADE BY PROGRAM (witnessworld.py) out of the Statement's table words and the real class files: 39 classes; the members and pool entries that the words name. The judged class is class 1, her method 1. -/
namespace start1
open Jvm.ClassFile
def u (s : String) : CpInfo := .utf8 (stringToUtf16 s)
/-- a pool by its gaps: so many unusable entries, then the entry; so many at the end -/
def gap : Nat → List CpInfo → List CpInfo
  | 0, r => r
  | n + 1, r => .unusable :: gap n r
def poolList (es : List (Nat × CpInfo)) (last : Nat) : List CpInfo := es.foldr (fun e r => gap e.1 (e.2 :: r)) (gap last [])
def pool (es : List (Nat × CpInfo)) (last : Nat) : Array CpInfo := ⟨poolList es last⟩
def fileOf (pool : Array CpInfo) (this : Nat) (attrs : Array Attribute := #[]) (ms : Array MethodInfo := #[]) (fl : Nat := 33) (sup : Nat := 0) (ifs : Array Nat := #[]) (fds : Array FieldInfo := #[]) : ClassFile where
  minorVersion := 0
  majorVersion := 65
  constantPool := pool
  accessFlags := fl
  thisClass := this
  superClass := sup
  interfaces := ifs
  fields := fds
  methods := ms
  attributes := attrs
def plain (name : String) (sup : Option ClassId) : Class where
  name := name
  kind := .ordinary
  loader := none
  accessFlags := 33
  super := sup
  interfaces := #[]
  cf := none
  fields := #[]
  methods := #[]
  instanceTypes := #[]
  staticTypes := #[]
  resolved := #[]
  callSites := []
  init := .initialized
  statics := none
  mirror := none

def pool0 : Array CpInfo := pool [(5, u "<init>"), (0, u "()V"), (1, .class_ 10), (1, u "java/lang/Object")] 113

def k0c0 : Code := { maxStack := 0, maxLocals := 1, code := object_method_1_code, exceptionTable := #[], attributes := #[] }
def k0m0 : Method := { name := "<init>", desc := "()V", sig := { parameters := [], returnType := none }, accessFlags := 1, code := some k0c0 }
/-- java/lang/Object -/
def k0 : Class := { plain "java/lang/Object" none with
  accessFlags := 33
  interfaces := #[]
  cf := some (fileOf pool0 8 #[] #[{ accessFlags := 1, nameIndex := 5, descriptorIndex := 6, attributes := #[] }] 33 0 #[] #[])
  fields := #[]
  methods := #[k0m0]
  instanceTypes := #[]
  staticTypes := #[]
  resolved := Array.replicate 124 none
  statics := none }

def pool1 : Array CpInfo := pool [(2, .class_ 4), (0, .nameAndType 5 6), (0, u "java/lang/Object"), (0, u "<init>"), (0, u "()V"), (0, .integer 65535), (0, .class_ 9), (0, u "java/util/ArrayList"), (0, .methodref 8 3), (0, .class_ 12), (0, u "com/example/parley/parley/floor/FloorSettings"), (0, .methodref 11 14), (0, .nameAndType 5 15), (0, u "(I)V"), (0, .methodref 8 17), (0, .nameAndType 18 19), (0, u "add"), (0, u "(Ljava/lang/Object;)Z"), (0, .class_ 21), (0, u "com/example/parley/parley/floor/Conference"), (0, .long 4294967295), (1, .methodref 20 25), (0, .nameAndType 5 26), (0, u "(JLjava/util/Collection;Ljava/util/Collection;)V"), (0, .methodref 20 28), (0, .nameAndType 29 30), (0, u "hasFloor"), (0, u "(I)Z"), (0, .class_ 32), (0, u "com/example/parley/parley/floor/ConferenceHasFloorPinLaw"), (2, u "law"), (0, u "(JIIII)Z")] 3

def k1m0 : Method := { name := "<init>", desc := "()V", sig := { parameters := [], returnType := none }, accessFlags := 1, code := none }
def k1c1 : Code := { maxStack := 6, maxLocals := 17, code := code, exceptionTable := #[], attributes := #[] }
def k1m1 : Method := { name := "law", desc := "(JIIII)Z", sig := { parameters := [.long, .int, .int, .int, .int], returnType := some .boolean }, accessFlags := 9, code := some k1c1 }
/-- com/example/parley/parley/floor/ConferenceHasFloorPinLaw -/
def k1 : Class := { plain "com/example/parley/parley/floor/ConferenceHasFloorPinLaw" (some 0) with
  accessFlags := 49
  interfaces := #[]
  cf := some (fileOf pool1 31 #[] #[{ accessFlags := 1, nameIndex := 5, descriptorIndex := 6, attributes := #[] }, { accessFlags := 9, nameIndex := 35, descriptorIndex := 36, attributes := #[] }] 49 2 #[] #[])
  fields := #[]
  methods := #[k1m0, k1m1]
  instanceTypes := #[]
  staticTypes := #[]
  resolved := Array.replicate 40 none
  statics := none }

def pool2 : Array CpInfo := pool [(8, .class_ 10), (1, u "java/lang/Iterable"), (24, .class_ 36), (0, u "java/lang/Object")] 25

/-- java/lang/Iterable -/
def k2 : Class := { plain "java/lang/Iterable" (some 0) with
  accessFlags := 1537
  interfaces := #[]
  cf := some (fileOf pool2 8 #[] #[] 1537 35 #[] #[])
  fields := #[]
  methods := #[]
  instanceTypes := #[]
  staticTypes := #[]
  resolved := Array.replicate 62 none
  statics := none }

def pool3 : Array CpInfo := pool [(10, .class_ 12), (1, u "java/util/Collection"), (10, u "iterator"), (0, u "()Ljava/util/Iterator;"), (35, .class_ 61), (0, u "java/lang/Object"), (0, .class_ 63), (0, u "java/lang/Iterable")] 51

def k3m0 : Method := { name := "iterator", desc := "()Ljava/util/Iterator;", sig := { parameters := [], returnType := some (.object "java/util/Iterator") }, accessFlags := 1025, code := none }
/-- java/util/Collection -/
def k3 : Class := { plain "java/util/Collection" (some 0) with
  accessFlags := 1537
  interfaces := #[2]
  cf := some (fileOf pool3 10 #[] #[{ accessFlags := 1025, nameIndex := 23, descriptorIndex := 24, attributes := #[] }] 1537 60 #[62] #[])
  fields := #[]
  methods := #[k3m0]
  instanceTypes := #[]
  staticTypes := #[]
  resolved := Array.replicate 115 none
  statics := none }

def pool4 : Array CpInfo := pool [(1, .methodref 2 3), (0, .class_ 4), (0, .nameAndType 5 6), (0, u "java/lang/Object"), (0, u "<init>"), (0, u "()V"), (1, .class_ 10), (1, u "java/util/AbstractCollection"), (66, .class_ 78), (0, u "java/util/Collection")] 81

def k4c0 : Code := { maxStack := 1, maxLocals := 1, code := jdk_22_method_1_code, exceptionTable := #[], attributes := #[] }
def k4m0 : Method := { name := "<init>", desc := "()V", sig := { parameters := [], returnType := none }, accessFlags := 4, code := some k4c0 }
/-- java/util/AbstractCollection -/
def k4 : Class := { plain "java/util/AbstractCollection" (some 0) with
  accessFlags := 1057
  interfaces := #[3]
  cf := some (fileOf pool4 8 #[] #[{ accessFlags := 4, nameIndex := 5, descriptorIndex := 6, attributes := #[] }] 1057 2 #[77] #[])
  fields := #[]
  methods := #[k4m0]
  instanceTypes := #[]
  staticTypes := #[]
  resolved := Array.replicate 160 none
  statics := none }

def pool5 : Array CpInfo := pool [(8, .class_ 10), (1, u "java/util/SequencedCollection"), (15, .class_ 27), (0, u "java/lang/Object"), (0, .class_ 29), (0, u "java/util/Collection")] 27

/-- java/util/SequencedCollection -/
def k5 : Class := { plain "java/util/SequencedCollection" (some 0) with
  accessFlags := 1537
  interfaces := #[3]
  cf := some (fileOf pool5 8 #[] #[] 1537 26 #[28] #[])
  fields := #[]
  methods := #[]
  instanceTypes := #[]
  staticTypes := #[]
  resolved := Array.replicate 57 none
  statics := none }

def pool6 : Array CpInfo := pool [(8, .class_ 10), (1, u "java/util/List"), (92, .class_ 104), (0, u "java/lang/Object"), (15, .class_ 121), (0, u "java/util/SequencedCollection")] 129

/-- java/util/List -/
def k6 : Class := { plain "java/util/List" (some 0) with
  accessFlags := 1537
  interfaces := #[5]
  cf := some (fileOf pool6 8 #[] #[] 1537 103 #[120] #[])
  fields := #[]
  methods := #[]
  instanceTypes := #[]
  staticTypes := #[]
  resolved := Array.replicate 251 none
  statics := none }

def pool7 : Array CpInfo := pool [(1, .methodref 2 3), (0, .class_ 4), (0, .nameAndType 5 6), (0, u "java/util/AbstractCollection"), (0, u "<init>"), (0, u "()V"), (0, .fieldref 8 9), (0, .class_ 10), (0, .nameAndType 11 12), (0, u "java/util/AbstractList"), (0, u "modCount"), (0, u "I"), (64, .class_ 78), (0, u "java/util/AbstractList$Itr"), (3, .class_ 83), (0, u "java/util/AbstractList$ListItr"), (9, .class_ 94), (0, u "java/util/AbstractList$RandomAccessSubList"), (3, .class_ 99), (0, u "java/util/AbstractList$SubList"), (33, .class_ 134), (0, u "java/util/List"), (73, .class_ 209), (0, u "java/util/AbstractList$SubList$1"), (0, .class_ 211), (0, u "java/util/AbstractList$RandomAccessSpliterator")] 6

def k7c0 : Code := { maxStack := 2, maxLocals := 1, code := jdk_39_method_1_code, exceptionTable := #[], attributes := #[] }
def k7m0 : Method := { name := "<init>", desc := "()V", sig := { parameters := [], returnType := none }, accessFlags := 4, code := some k7c0 }
/-- java/util/AbstractList -/
def k7 : Class := { plain "java/util/AbstractList" (some 4) with
  accessFlags := 1057
  interfaces := #[6]
  cf := some (fileOf pool7 8 #[.nestMembers #[93, 98, 208, 210, 82, 77]] #[{ accessFlags := 4, nameIndex := 5, descriptorIndex := 6, attributes := #[] }] 1057 2 #[133] #[{ accessFlags := 132, nameIndex := 11, descriptorIndex := 12, attributes := #[] }])
  fields := #[{ name := "modCount", type := .int, accessFlags := 132, slot := 0, constantValue := 0 }]
  methods := #[k7m0]
  instanceTypes := #[.int]
  staticTypes := #[]
  resolved := Array.replicate 218 none
  statics := none }

def pool8 : Array CpInfo := pool [(1, .class_ 2), (0, u "java/util/RandomAccess"), (0, .class_ 4), (0, u "java/lang/Object")] 2

/-- java/util/RandomAccess -/
def k8 : Class := { plain "java/util/RandomAccess" (some 0) with
  accessFlags := 1537
  interfaces := #[]
  cf := some (fileOf pool8 1 #[] #[] 1537 3 #[] #[])
  fields := #[]
  methods := #[]
  instanceTypes := #[]
  staticTypes := #[]
  resolved := Array.replicate 7 none
  statics := none }

def pool9 : Array CpInfo := pool [(1, .class_ 2), (0, u "java/lang/Cloneable"), (0, .class_ 4), (0, u "java/lang/Object")] 2

/-- java/lang/Cloneable -/
def k9 : Class := { plain "java/lang/Cloneable" (some 0) with
  accessFlags := 1537
  interfaces := #[]
  cf := some (fileOf pool9 1 #[] #[] 1537 3 #[] #[])
  fields := #[]
  methods := #[]
  instanceTypes := #[]
  staticTypes := #[]
  resolved := Array.replicate 7 none
  statics := none }

def pool10 : Array CpInfo := pool [(1, .class_ 2), (0, u "java/io/Serializable"), (0, .class_ 4), (0, u "java/lang/Object")] 2

/-- java/io/Serializable -/
def k10 : Class := { plain "java/io/Serializable" (some 0) with
  accessFlags := 1537
  interfaces := #[]
  cf := some (fileOf pool10 1 #[] #[] 1537 3 #[] #[])
  fields := #[]
  methods := #[]
  instanceTypes := #[]
  staticTypes := #[]
  resolved := Array.replicate 7 none
  statics := none }

def pool11 : Array CpInfo := pool [(1, .methodref 2 3), (0, .class_ 4), (0, .nameAndType 5 6), (0, u "java/util/AbstractList"), (0, u "<init>"), (0, u "()V"), (0, .class_ 8), (0, u "java/lang/Object"), (0, .fieldref 10 11), (0, .class_ 12), (0, .nameAndType 13 14), (0, u "java/util/ArrayList"), (0, u "elementData"), (0, u "[Ljava/lang/Object;"), (2, u "EMPTY_ELEMENTDATA"), (21, .fieldref 10 40), (0, .nameAndType 41 14), (0, u "DEFAULTCAPACITY_EMPTY_ELEMENTDATA"), (5, u "()[Ljava/lang/Object;"), (0, .fieldref 10 49), (0, .nameAndType 50 51), (0, u "size"), (0, u "I"), (11, .fieldref 10 64), (0, .nameAndType 65 51), (0, u "modCount"), (3, .methodref 10 70), (0, .nameAndType 71 72), (0, u "grow"), (0, u "(I)[Ljava/lang/Object;"), (6, .methodref 80 81), (0, .class_ 82), (0, .nameAndType 83 84), (0, u "java/lang/Math"), (0, u "max"), (0, u "(II)I"), (11, u "(Ljava/lang/Object;)Z"), (32, .methodref 10 130), (0, .nameAndType 71 47), (0, .methodref 10 132), (0, .nameAndType 133 134), (0, u "add"), (0, u "(Ljava/lang/Object;[Ljava/lang/Object;I)V"), (13, .class_ 149), (0, u "java/util/List"), (16, u "iterator"), (0, u "()Ljava/util/Iterator;"), (94, .class_ 263), (0, u "java/util/ArrayList$ListItr"), (3, .class_ 268), (0, u "java/util/ArrayList$Itr"), (0, .methodref 267 270), (0, .nameAndType 5 271), (0, u "(Ljava/util/ArrayList;)V"), (4, .class_ 277), (0, u "java/util/ArrayList$SubList"), (12, .class_ 291), (0, u "java/util/ArrayList$ArrayListSpliterator"), (37, .class_ 330), (0, u "java/util/RandomAccess"), (0, .class_ 332), (0, u "java/lang/Cloneable"), (0, .class_ 334), (0, u "java/io/Serializable"), (0, u "serialVersionUID"), (0, u "J"), (3, u "DEFAULT_CAPACITY"), (159, .class_ 501), (0, u "java/util/ArrayList$SubList$2"), (0, .class_ 503), (0, u "java/util/ArrayList$SubList$1")] 5

def k11c0 : Code := { maxStack := 2, maxLocals := 1, code := jdk_38_method_2_code, exceptionTable := #[], attributes := #[] }
def k11m0 : Method := { name := "<init>", desc := "()V", sig := { parameters := [], returnType := none }, accessFlags := 1, code := some k11c0 }
def k11c1 : Code := { maxStack := 4, maxLocals := 4, code := jdk_38_method_6_code, exceptionTable := #[], attributes := #[] }
def k11m1 : Method := { name := "grow", desc := "(I)[Ljava/lang/Object;", sig := { parameters := [.int], returnType := some (.array (.object "java/lang/Object")) }, accessFlags := 2, code := some k11c1 }
def k11c2 : Code := { maxStack := 3, maxLocals := 1, code := jdk_38_method_7_code, exceptionTable := #[], attributes := #[] }
def k11m2 : Method := { name := "grow", desc := "()[Ljava/lang/Object;", sig := { parameters := [], returnType := some (.array (.object "java/lang/Object")) }, accessFlags := 2, code := some k11c2 }
def k11c3 : Code := { maxStack := 3, maxLocals := 4, code := jdk_38_method_24_code, exceptionTable := #[], attributes := #[] }
def k11m3 : Method := { name := "add", desc := "(Ljava/lang/Object;[Ljava/lang/Object;I)V", sig := { parameters := [(.object "java/lang/Object"), (.array (.object "java/lang/Object")), .int], returnType := none }, accessFlags := 2, code := some k11c3 }
def k11c4 : Code := { maxStack := 4, maxLocals := 2, code := jdk_38_method_25_code, exceptionTable := #[], attributes := #[] }
def k11m4 : Method := { name := "add", desc := "(Ljava/lang/Object;)Z", sig := { parameters := [(.object "java/lang/Object")], returnType := some .boolean }, accessFlags := 1, code := some k11c4 }
def k11c5 : Code := { maxStack := 3, maxLocals := 1, code := jdk_38_method_55_code, exceptionTable := #[], attributes := #[] }
def k11m5 : Method := { name := "iterator", desc := "()Ljava/util/Iterator;", sig := { parameters := [], returnType := some (.object "java/util/Iterator") }, accessFlags := 1, code := some k11c5 }
/-- java/util/ArrayList -/
def k11 : Class := { plain "java/util/ArrayList" (some 7) with
  accessFlags := 33
  interfaces := #[6, 8, 9, 10]
  cf := some (fileOf pool11 10 #[.nestMembers #[290, 276, 500, 502, 262, 267]] #[{ accessFlags := 1, nameIndex := 5, descriptorIndex := 6, attributes := #[] }, { accessFlags := 2, nameIndex := 71, descriptorIndex := 72, attributes := #[] }, { accessFlags := 2, nameIndex := 71, descriptorIndex := 47, attributes := #[] }, { accessFlags := 2, nameIndex := 133, descriptorIndex := 134, attributes := #[] }, { accessFlags := 1, nameIndex := 133, descriptorIndex := 96, attributes := #[] }, { accessFlags := 1, nameIndex := 166, descriptorIndex := 167, attributes := #[] }] 33 2 #[148, 329, 331, 333] #[{ accessFlags := 26, nameIndex := 335, descriptorIndex := 336, attributes := #[] }, { accessFlags := 26, nameIndex := 340, descriptorIndex := 51, attributes := #[] }, { accessFlags := 26, nameIndex := 17, descriptorIndex := 14, attributes := #[] }, { accessFlags := 26, nameIndex := 41, descriptorIndex := 14, attributes := #[] }, { accessFlags := 128, nameIndex := 13, descriptorIndex := 14, attributes := #[] }, { accessFlags := 2, nameIndex := 50, descriptorIndex := 51, attributes := #[] }])
  fields := #[{ name := "serialVersionUID", type := .long, accessFlags := 26, slot := 0, constantValue := 0 }, { name := "DEFAULT_CAPACITY", type := .int, accessFlags := 26, slot := 1, constantValue := 0 }, { name := "EMPTY_ELEMENTDATA", type := (.array (.object "java/lang/Object")), accessFlags := 26, slot := 2, constantValue := 0 }, { name := "DEFAULTCAPACITY_EMPTY_ELEMENTDATA", type := (.array (.object "java/lang/Object")), accessFlags := 26, slot := 3, constantValue := 0 }, { name := "elementData", type := (.array (.object "java/lang/Object")), accessFlags := 128, slot := 1, constantValue := 0 }, { name := "size", type := .int, accessFlags := 2, slot := 2, constantValue := 0 }]
  methods := #[k11m0, k11m1, k11m2, k11m3, k11m4, k11m5]
  instanceTypes := #[.int, (.array (.object "java/lang/Object")), .int]
  staticTypes := #[.long, .int, (.array (.object "java/lang/Object")), (.array (.object "java/lang/Object"))]
  resolved := Array.replicate 509 none
  statics := some 0 }

def pool12 : Array CpInfo := pool [(8, .class_ 10), (1, u "com/example/parley/parley/floor/Conference"), (0, u "<init>"), (9, .methodref 8 22), (0, .nameAndType 23 24), (0, u "checkId"), (0, u "(J)J"), (6, u "(JLjava/util/Collection;Ljava/util/Collection;)V"), (0, .methodref 33 34), (0, .class_ 35), (0, .nameAndType 11 36), (0, u "java/lang/Object"), (0, u "()V"), (0, .integer 65536), (0, .class_ 39), (0, u "com/example/parley/parley/floor/Conference$Floor"), (0, .fieldref 8 41), (0, .nameAndType 42 43), (0, u "floors"), (0, u "[Lcom/example/parley/parley/floor/Conference$Floor;"), (0, .class_ 45), (0, u "java/util/HashMap"), (0, .methodref 44 34), (0, .fieldref 8 48), (0, .nameAndType 49 50), (0, u "users"), (0, u "Ljava/util/Map;"), (0, .class_ 52), (0, u "java/util/HashSet"), (0, .methodref 51 34), (0, .fieldref 8 55), (0, .nameAndType 56 57), (0, u "pinned"), (0, u "Ljava/util/Set;"), (0, .fieldref 8 59), (0, .nameAndType 60 50), (0, u "requests"), (0, .fieldref 8 62), (0, .nameAndType 63 50), (0, u "madeBy"), (0, .fieldref 8 65), (0, .nameAndType 66 50), (0, u "madeFor"), (0, .class_ 68), (0, u "java/util/ArrayList"), (0, .methodref 67 34), (0, .fieldref 8 71), (0, .nameAndType 72 73), (0, u "requesterListeners"), (0, u "Ljava/util/List;"), (0, .fieldref 8 75), (0, .nameAndType 76 73), (0, u "changeListeners"), (0, .fieldref 8 78), (0, .nameAndType 79 80), (0, u "id"), (0, u "J"), (0, .interfaceMethodref 82 83), (0, .class_ 84), (0, .nameAndType 85 86), (0, u "java/util/Collection"), (0, u "iterator"), (0, u "()Ljava/util/Iterator;"), (0, .interfaceMethodref 88 89), (0, .class_ 90), (0, .nameAndType 91 92), (0, u "java/util/Iterator"), (0, u "hasNext"), (0, u "()Z"), (0, .interfaceMethodref 88 94), (0, .nameAndType 95 96), (0, u "next"), (0, u "()Ljava/lang/Object;"), (0, .class_ 98), (0, u "com/example/parley/parley/floor/FloorSettings"), (0, .methodref 97 100), (0, .nameAndType 79 101), (0, u "()I"), (0, .methodref 8 103), (0, .nameAndType 104 105), (0, u "hasFloor"), (0, u "(I)Z"), (9, .methodref 38 116), (0, .nameAndType 11 117), (0, u "(Lcom/example/parley/parley/floor/FloorSettings;)V"), (24, .methodref 97 143), (0, .nameAndType 144 145), (0, u "chair"), (0, u "()Ljava/util/OptionalInt;"), (0, .methodref 147 148), (0, .class_ 149), (0, .nameAndType 150 92), (0, u "java/util/OptionalInt"), (0, u "isPresent"), (15, .long 4294967295), (95, u "checkSixteenBits"), (0, u "(ILjava/lang/String;)I"), (0, .integer 65535), (105, u "made"), (139, .class_ 512), (1, u "com/example/parley/parley/floor/Conference$1"), (110, u "lastRequestId"), (0, u "I"), (8, .class_ 635), (1, u "com/example/parley/parley/floor/Conference$ChangeListener"), (2, .class_ 640), (1, u "com/example/parley/parley/floor/Conference$RequesterListener"), (11, u "MAX_ID"), (1, u "MAX_QUEUE")] 187

def k12c0 : Code := { maxStack := 5, maxLocals := 8, code := prog_3_method_4_code, exceptionTable := #[], attributes := #[] }
def k12m0 : Method := { name := "<init>", desc := "(JLjava/util/Collection;Ljava/util/Collection;)V", sig := { parameters := [.long, (.object "java/util/Collection"), (.object "java/util/Collection")], returnType := none }, accessFlags := 1, code := some k12c0 }
def k12c1 : Code := { maxStack := 4, maxLocals := 2, code := prog_3_method_5_code, exceptionTable := #[], attributes := #[] }
def k12m1 : Method := { name := "checkId", desc := "(J)J", sig := { parameters := [.long], returnType := some .long }, accessFlags := 10, code := some k12c1 }
def k12c2 : Code := { maxStack := 4, maxLocals := 2, code := prog_3_method_12_code, exceptionTable := #[], attributes := #[] }
def k12m2 : Method := { name := "checkSixteenBits", desc := "(ILjava/lang/String;)I", sig := { parameters := [.int, (.object "java/lang/String")], returnType := some .int }, accessFlags := 8, code := some k12c2 }
def k12c3 : Code := { maxStack := 2, maxLocals := 2, code := prog_3_method_14_code, exceptionTable := #[], attributes := #[] }
def k12m3 : Method := { name := "hasFloor", desc := "(I)Z", sig := { parameters := [.int], returnType := some .boolean }, accessFlags := 1, code := some k12c3 }
/-- com/example/parley/parley/floor/Conference -/
def k12 : Class := { plain "com/example/parley/parley/floor/Conference" (some 0) with
  accessFlags := 49
  interfaces := #[]
  cf := some (fileOf pool12 8 #[.nestMembers #[510, 38, 633, 638]] #[{ accessFlags := 1, nameIndex := 11, descriptorIndex := 31, attributes := #[] }, { accessFlags := 10, nameIndex := 23, descriptorIndex := 24, attributes := #[] }, { accessFlags := 8, nameIndex := 262, descriptorIndex := 263, attributes := #[] }, { accessFlags := 1, nameIndex := 104, descriptorIndex := 105, attributes := #[] }] 49 33 #[] #[{ accessFlags := 26, nameIndex := 652, descriptorIndex := 624, attributes := #[] }, { accessFlags := 24, nameIndex := 654, descriptorIndex := 624, attributes := #[] }, { accessFlags := 18, nameIndex := 79, descriptorIndex := 80, attributes := #[] }, { accessFlags := 18, nameIndex := 42, descriptorIndex := 43, attributes := #[] }, { accessFlags := 18, nameIndex := 49, descriptorIndex := 50, attributes := #[] }, { accessFlags := 18, nameIndex := 56, descriptorIndex := 57, attributes := #[] }, { accessFlags := 18, nameIndex := 60, descriptorIndex := 50, attributes := #[] }, { accessFlags := 18, nameIndex := 63, descriptorIndex := 50, attributes := #[] }, { accessFlags := 18, nameIndex := 66, descriptorIndex := 50, attributes := #[] }, { accessFlags := 18, nameIndex := 72, descriptorIndex := 73, attributes := #[] }, { accessFlags := 18, nameIndex := 76, descriptorIndex := 73, attributes := #[] }, { accessFlags := 2, nameIndex := 623, descriptorIndex := 624, attributes := #[] }, { accessFlags := 2, nameIndex := 370, descriptorIndex := 80, attributes := #[] }])
  fields := #[{ name := "MAX_ID", type := .int, accessFlags := 26, slot := 0, constantValue := 0 }, { name := "MAX_QUEUE", type := .int, accessFlags := 24, slot := 1, constantValue := 0 }, { name := "id", type := .long, accessFlags := 18, slot := 0, constantValue := 0 }, { name := "floors", type := (.array (.object "com/example/parley/parley/floor/Conference$Floor")), accessFlags := 18, slot := 1, constantValue := 0 }, { name := "users", type := (.object "java/util/Map"), accessFlags := 18, slot := 2, constantValue := 0 }, { name := "pinned", type := (.object "java/util/Set"), accessFlags := 18, slot := 3, constantValue := 0 }, { name := "requests", type := (.object "java/util/Map"), accessFlags := 18, slot := 4, constantValue := 0 }, { name := "madeBy", type := (.object "java/util/Map"), accessFlags := 18, slot := 5, constantValue := 0 }, { name := "madeFor", type := (.object "java/util/Map"), accessFlags := 18, slot := 6, constantValue := 0 }, { name := "requesterListeners", type := (.object "java/util/List"), accessFlags := 18, slot := 7, constantValue := 0 }, { name := "changeListeners", type := (.object "java/util/List"), accessFlags := 18, slot := 8, constantValue := 0 }, { name := "lastRequestId", type := .int, accessFlags := 2, slot := 9, constantValue := 0 }, { name := "made", type := .long, accessFlags := 2, slot := 10, constantValue := 0 }]
  methods := #[k12m0, k12m1, k12m2, k12m3]
  instanceTypes := #[.long, (.array (.object "com/example/parley/parley/floor/Conference$Floor")), (.object "java/util/Map"), (.object "java/util/Set"), (.object "java/util/Map"), (.object "java/util/Map"), (.object "java/util/Map"), (.object "java/util/List"), (.object "java/util/List"), .int, .long]
  staticTypes := #[.int, .int]
  resolved := Array.replicate 842 none
  statics := none }

def pool13 : Array CpInfo := pool [(1, .methodref 2 3), (0, .class_ 4), (0, .nameAndType 5 6), (0, u "java/lang/Object"), (0, u "<init>"), (0, u "()V"), (0, .class_ 8), (0, u "java/util/ArrayList"), (0, .methodref 7 3), (0, .fieldref 11 12), (0, .class_ 13), (0, .nameAndType 14 15), (0, u "com/example/parley/parley/floor/Conference$Floor"), (0, u "queue"), (0, u "Ljava/util/List;"), (0, .fieldref 11 17), (0, .nameAndType 18 15), (0, u "pending"), (0, .fieldref 11 20), (0, .nameAndType 21 22), (0, u "settings"), (0, u "Lcom/example/parley/parley/floor/FloorSettings;"), (12, u "holder"), (0, u "Lcom/example/parley/parley/floor/FloorRequest;"), (2, u "(Lcom/example/parley/parley/floor/FloorSettings;)V"), (6, .class_ 47), (0, u "com/example/parley/parley/floor/Conference")] 2

def k13c0 : Code := { maxStack := 3, maxLocals := 2, code := prog_6_method_1_code, exceptionTable := #[], attributes := #[] }
def k13m0 : Method := { name := "<init>", desc := "(Lcom/example/parley/parley/floor/FloorSettings;)V", sig := { parameters := [(.object "com/example/parley/parley/floor/FloorSettings")], returnType := none }, accessFlags := 0, code := some k13c0 }
/-- com/example/parley/parley/floor/Conference$Floor -/
def k13 : Class := { plain "com/example/parley/parley/floor/Conference$Floor" (some 0) with
  accessFlags := 48
  interfaces := #[]
  cf := some (fileOf pool13 11 #[.nestHost 46] #[{ accessFlags := 0, nameIndex := 5, descriptorIndex := 39, attributes := #[] }] 48 2 #[] #[{ accessFlags := 16, nameIndex := 21, descriptorIndex := 22, attributes := #[] }, { accessFlags := 0, nameIndex := 35, descriptorIndex := 36, attributes := #[] }, { accessFlags := 16, nameIndex := 14, descriptorIndex := 15, attributes := #[] }, { accessFlags := 16, nameIndex := 18, descriptorIndex := 15, attributes := #[] }])
  fields := #[{ name := "settings", type := (.object "com/example/parley/parley/floor/FloorSettings"), accessFlags := 16, slot := 0, constantValue := 0 }, { name := "holder", type := (.object "com/example/parley/parley/floor/FloorRequest"), accessFlags := 0, slot := 1, constantValue := 0 }, { name := "queue", type := (.object "java/util/List"), accessFlags := 16, slot := 2, constantValue := 0 }, { name := "pending", type := (.object "java/util/List"), accessFlags := 16, slot := 3, constantValue := 0 }]
  methods := #[k13m0]
  instanceTypes := #[(.object "com/example/parley/parley/floor/FloorSettings"), (.object "com/example/parley/parley/floor/FloorRequest"), (.object "java/util/List"), (.object "java/util/List")]
  staticTypes := #[]
  resolved := Array.replicate 50 none
  statics := none }

def pool14 : Array CpInfo := pool [(2, .class_ 4), (1, u "java/util/Map"), (31, .class_ 37), (0, u "java/util/Map$Entry"), (55, .class_ 94), (0, u "java/lang/Object")] 168

/-- java/util/Map -/
def k14 : Class := { plain "java/util/Map" (some 0) with
  accessFlags := 1537
  interfaces := #[]
  cf := some (fileOf pool14 2 #[.nestMembers #[36]] #[] 1537 93 #[] #[])
  fields := #[]
  methods := #[]
  instanceTypes := #[]
  staticTypes := #[]
  resolved := Array.replicate 263 none
  statics := none }

def pool15 : Array CpInfo := pool [(1, .methodref 2 3), (0, .class_ 4), (0, .nameAndType 5 6), (0, u "java/lang/Object"), (0, u "<init>"), (0, u "()V"), (1, .class_ 10), (1, u "java/util/AbstractMap"), (42, .class_ 54), (0, u "java/util/Map"), (9, u "keySet"), (0, u "Ljava/util/Set;"), (0, .class_ 67), (0, u "java/util/AbstractMap$1"), (5, u "values"), (0, u "Ljava/util/Collection;"), (0, .class_ 76), (0, u "java/util/AbstractMap$2"), (104, .class_ 182), (0, u "java/util/AbstractMap$ViewCollection"), (0, .class_ 184), (0, u "java/util/AbstractMap$SimpleImmutableEntry"), (0, .class_ 186), (0, u "java/util/AbstractMap$SimpleEntry"), (0, .class_ 188), (0, u "java/util/AbstractMap$2$1"), (0, .class_ 190), (0, u "java/util/AbstractMap$1$1")] 5

def k15c0 : Code := { maxStack := 1, maxLocals := 1, code := jdk_71_method_1_code, exceptionTable := #[], attributes := #[] }
def k15m0 : Method := { name := "<init>", desc := "()V", sig := { parameters := [], returnType := none }, accessFlags := 4, code := some k15c0 }
/-- java/util/AbstractMap -/
def k15 : Class := { plain "java/util/AbstractMap" (some 0) with
  accessFlags := 1057
  interfaces := #[14]
  cf := some (fileOf pool15 8 #[.nestMembers #[181, 183, 185, 75, 187, 66, 189]] #[{ accessFlags := 4, nameIndex := 5, descriptorIndex := 6, attributes := #[] }] 1057 2 #[53] #[{ accessFlags := 128, nameIndex := 64, descriptorIndex := 65, attributes := #[] }, { accessFlags := 128, nameIndex := 73, descriptorIndex := 74, attributes := #[] }])
  fields := #[{ name := "keySet", type := (.object "java/util/Set"), accessFlags := 128, slot := 0, constantValue := 0 }, { name := "values", type := (.object "java/util/Collection"), accessFlags := 128, slot := 1, constantValue := 0 }]
  methods := #[k15m0]
  instanceTypes := #[(.object "java/util/Set"), (.object "java/util/Collection")]
  staticTypes := #[]
  resolved := Array.replicate 196 none
  statics := none }

def pool16 : Array CpInfo := pool [(40, .class_ 41), (0, u "java/util/HashMap"), (1, .methodref 44 45), (0, .class_ 46), (0, .nameAndType 47 48), (0, u "java/util/AbstractMap"), (0, u "<init>"), (0, u "()V"), (32, .fieldref 40 82), (0, .nameAndType 83 84), (0, u "loadFactor"), (0, u "F"), (5, u "threshold"), (0, u "I"), (0, .float 1061158912), (8, .class_ 103), (1, u "java/util/Map"), (0, u "size"), (2, u "table"), (0, u "[Ljava/util/HashMap$Node;"), (14, u "entrySet"), (39, .class_ 165), (1, u "java/util/HashMap$Node"), (14, .class_ 181), (0, u "java/util/HashMap$TreeNode"), (22, u "modCount"), (37, u "Ljava/util/Set;"), (0, .class_ 244), (0, u "java/util/HashMap$KeySet"), (18, .class_ 264), (0, u "java/util/HashMap$Values"), (3, .class_ 269), (0, u "java/util/HashMap$EntrySet"), (76, .class_ 348), (1, u "java/util/HashMap$UnsafeHolder"), (43, .class_ 393), (0, u "java/lang/Cloneable"), (0, .class_ 395), (0, u "java/io/Serializable"), (0, u "serialVersionUID"), (0, u "J"), (3, u "DEFAULT_INITIAL_CAPACITY"), (1, u "MAXIMUM_CAPACITY"), (0, u "DEFAULT_LOAD_FACTOR"), (0, u "TREEIFY_THRESHOLD"), (1, u "UNTREEIFY_THRESHOLD"), (1, u "MIN_TREEIFY_CAPACITY"), (186, .class_ 597), (0, u "java/util/HashMap$EntrySpliterator"), (0, .class_ 599), (0, u "java/util/HashMap$ValueSpliterator"), (0, .class_ 601), (0, u "java/util/HashMap$KeySpliterator"), (0, .class_ 603), (0, u "java/util/HashMap$HashMapSpliterator"), (0, .class_ 605), (0, u "java/util/HashMap$EntryIterator"), (0, .class_ 607), (0, u "java/util/HashMap$ValueIterator"), (0, .class_ 609), (0, u "java/util/HashMap$KeyIterator"), (0, .class_ 611), (0, u "java/util/HashMap$HashIterator")] 17

def k16c0 : Code := { maxStack := 2, maxLocals := 1, code := jdk_69_method_7_code, exceptionTable := #[], attributes := #[] }
def k16m0 : Method := { name := "<init>", desc := "()V", sig := { parameters := [], returnType := none }, accessFlags := 1, code := some k16c0 }
/-- java/util/HashMap -/
def k16 : Class := { plain "java/util/HashMap" (some 15) with
  accessFlags := 33
  interfaces := #[14, 9, 10]
  cf := some (fileOf pool16 40 #[.nestMembers #[180, 596, 598, 600, 602, 604, 606, 608, 610, 346, 268, 263, 243, 163]] #[{ accessFlags := 1, nameIndex := 47, descriptorIndex := 48, attributes := #[] }] 33 44 #[101, 392, 394] #[{ accessFlags := 26, nameIndex := 396, descriptorIndex := 397, attributes := #[] }, { accessFlags := 24, nameIndex := 401, descriptorIndex := 91, attributes := #[] }, { accessFlags := 24, nameIndex := 403, descriptorIndex := 91, attributes := #[] }, { accessFlags := 24, nameIndex := 404, descriptorIndex := 84, attributes := #[] }, { accessFlags := 24, nameIndex := 405, descriptorIndex := 91, attributes := #[] }, { accessFlags := 24, nameIndex := 407, descriptorIndex := 91, attributes := #[] }, { accessFlags := 24, nameIndex := 409, descriptorIndex := 91, attributes := #[] }, { accessFlags := 128, nameIndex := 107, descriptorIndex := 108, attributes := #[] }, { accessFlags := 128, nameIndex := 123, descriptorIndex := 242, attributes := #[] }, { accessFlags := 128, nameIndex := 104, descriptorIndex := 91, attributes := #[] }, { accessFlags := 128, nameIndex := 204, descriptorIndex := 91, attributes := #[] }, { accessFlags := 0, nameIndex := 90, descriptorIndex := 91, attributes := #[] }, { accessFlags := 16, nameIndex := 83, descriptorIndex := 84, attributes := #[] }])
  fields := #[{ name := "serialVersionUID", type := .long, accessFlags := 26, slot := 0, constantValue := 0 }, { name := "DEFAULT_INITIAL_CAPACITY", type := .int, accessFlags := 24, slot := 1, constantValue := 0 }, { name := "MAXIMUM_CAPACITY", type := .int, accessFlags := 24, slot := 2, constantValue := 0 }, { name := "DEFAULT_LOAD_FACTOR", type := .float, accessFlags := 24, slot := 3, constantValue := 0 }, { name := "TREEIFY_THRESHOLD", type := .int, accessFlags := 24, slot := 4, constantValue := 0 }, { name := "UNTREEIFY_THRESHOLD", type := .int, accessFlags := 24, slot := 5, constantValue := 0 }, { name := "MIN_TREEIFY_CAPACITY", type := .int, accessFlags := 24, slot := 6, constantValue := 0 }, { name := "table", type := (.array (.object "java/util/HashMap$Node")), accessFlags := 128, slot := 2, constantValue := 0 }, { name := "entrySet", type := (.object "java/util/Set"), accessFlags := 128, slot := 3, constantValue := 0 }, { name := "size", type := .int, accessFlags := 128, slot := 4, constantValue := 0 }, { name := "modCount", type := .int, accessFlags := 128, slot := 5, constantValue := 0 }, { name := "threshold", type := .int, accessFlags := 0, slot := 6, constantValue := 0 }, { name := "loadFactor", type := .float, accessFlags := 16, slot := 7, constantValue := 0 }]
  methods := #[k16m0]
  instanceTypes := #[(.object "java/util/Set"), (.object "java/util/Collection"), (.array (.object "java/util/HashMap$Node")), (.object "java/util/Set"), .int, .int, .int, .float]
  staticTypes := #[.long, .int, .int, .float, .int, .int, .int]
  resolved := Array.replicate 629 none
  statics := none }

def pool17 : Array CpInfo := pool [(26, .class_ 27), (0, u "java/lang/Object"), (5, .class_ 34), (0, u "java/util/Set"), (1, .class_ 38), (1, u "java/util/Collection")] 105

/-- java/util/Set -/
def k17 : Class := { plain "java/util/Set" (some 0) with
  accessFlags := 1537
  interfaces := #[3]
  cf := some (fileOf pool17 33 #[] #[] 1537 26 #[36] #[])
  fields := #[]
  methods := #[]
  instanceTypes := #[]
  staticTypes := #[]
  resolved := Array.replicate 144 none
  statics := none }

def pool18 : Array CpInfo := pool [(1, .methodref 2 3), (0, .class_ 4), (0, .nameAndType 5 6), (0, u "java/util/AbstractCollection"), (0, u "<init>"), (0, u "()V"), (0, .class_ 8), (0, u "java/util/Set"), (7, .class_ 17), (0, u "java/util/AbstractSet")] 78

def k18c0 : Code := { maxStack := 1, maxLocals := 1, code := jdk_91_method_1_code, exceptionTable := #[], attributes := #[] }
def k18m0 : Method := { name := "<init>", desc := "()V", sig := { parameters := [], returnType := none }, accessFlags := 4, code := some k18c0 }
/-- java/util/AbstractSet -/
def k18 : Class := { plain "java/util/AbstractSet" (some 4) with
  accessFlags := 1057
  interfaces := #[17]
  cf := some (fileOf pool18 16 #[] #[{ accessFlags := 4, nameIndex := 5, descriptorIndex := 6, attributes := #[] }] 1057 2 #[7] #[])
  fields := #[]
  methods := #[k18m0]
  instanceTypes := #[]
  staticTypes := #[]
  resolved := Array.replicate 96 none
  statics := none }

def pool19 : Array CpInfo := pool [(1, .methodref 2 3), (0, .class_ 4), (0, .nameAndType 5 6), (0, u "java/util/AbstractSet"), (0, u "<init>"), (0, u "()V"), (0, .class_ 8), (0, u "java/util/HashMap"), (0, .methodref 7 3), (0, .fieldref 11 12), (0, .class_ 13), (0, .nameAndType 14 15), (0, u "java/util/HashSet"), (0, u "map"), (0, u "Ljava/util/HashMap;"), (34, .class_ 52), (1, u "java/util/Set"), (13, u "PRESENT"), (0, u "Ljava/lang/Object;"), (158, .class_ 227), (0, u "java/lang/Cloneable"), (0, .class_ 229), (0, u "java/io/Serializable"), (0, u "serialVersionUID"), (0, u "J")] 71

def k19c0 : Code := { maxStack := 3, maxLocals := 1, code := jdk_93_method_1_code, exceptionTable := #[], attributes := #[] }
def k19m0 : Method := { name := "<init>", desc := "()V", sig := { parameters := [], returnType := none }, accessFlags := 1, code := some k19c0 }
/-- java/util/HashSet -/
def k19 : Class := { plain "java/util/HashSet" (some 18) with
  accessFlags := 33
  interfaces := #[17, 9, 10]
  cf := some (fileOf pool19 11 #[] #[{ accessFlags := 1, nameIndex := 5, descriptorIndex := 6, attributes := #[] }] 33 2 #[50, 226, 228] #[{ accessFlags := 24, nameIndex := 230, descriptorIndex := 231, attributes := #[] }, { accessFlags := 128, nameIndex := 14, descriptorIndex := 15, attributes := #[] }, { accessFlags := 24, nameIndex := 66, descriptorIndex := 67, attributes := #[] }])
  fields := #[{ name := "serialVersionUID", type := .long, accessFlags := 24, slot := 0, constantValue := 0 }, { name := "map", type := (.object "java/util/HashMap"), accessFlags := 128, slot := 0, constantValue := 0 }, { name := "PRESENT", type := (.object "java/lang/Object"), accessFlags := 24, slot := 1, constantValue := 0 }]
  methods := #[k19m0]
  instanceTypes := #[(.object "java/util/HashMap")]
  staticTypes := #[.long, (.object "java/lang/Object")]
  resolved := Array.replicate 303 none
  statics := none }

def pool20 : Array CpInfo := pool [(16, .class_ 18), (1, u "java/util/Iterator"), (0, u "hasNext"), (0, u "()Z"), (2, u "next"), (0, u "()Ljava/lang/Object;"), (6, .class_ 32), (0, u "java/lang/Object")] 20

def k20m0 : Method := { name := "hasNext", desc := "()Z", sig := { parameters := [], returnType := some .boolean }, accessFlags := 1025, code := none }
def k20m1 : Method := { name := "next", desc := "()Ljava/lang/Object;", sig := { parameters := [], returnType := some (.object "java/lang/Object") }, accessFlags := 1025, code := none }
/-- java/util/Iterator -/
def k20 : Class := { plain "java/util/Iterator" (some 0) with
  accessFlags := 1537
  interfaces := #[]
  cf := some (fileOf pool20 16 #[] #[{ accessFlags := 1025, nameIndex := 19, descriptorIndex := 20, attributes := #[] }, { accessFlags := 1025, nameIndex := 23, descriptorIndex := 24, attributes := #[] }] 1537 31 #[] #[])
  fields := #[]
  methods := #[k20m0, k20m1]
  instanceTypes := #[]
  staticTypes := #[]
  resolved := Array.replicate 53 none
  statics := none }

def pool21 : Array CpInfo := pool [(1, .fieldref 2 3), (0, .class_ 4), (0, .nameAndType 5 6), (0, u "java/util/ArrayList$Itr"), (0, u "this$0"), (0, u "Ljava/util/ArrayList;"), (0, .methodref 8 9), (0, .class_ 10), (0, .nameAndType 11 12), (0, u "java/lang/Object"), (0, u "<init>"), (0, u "()V"), (0, .fieldref 2 14), (0, .nameAndType 15 16), (0, u "lastRet"), (0, u "I"), (0, .fieldref 18 19), (0, .class_ 20), (0, .nameAndType 21 16), (0, u "java/util/ArrayList"), (0, u "modCount"), (0, .fieldref 2 23), (0, .nameAndType 24 16), (0, u "expectedModCount"), (0, .fieldref 2 26), (0, .nameAndType 27 16), (0, u "cursor"), (0, .fieldref 18 29), (0, .nameAndType 30 16), (0, u "size"), (0, .methodref 2 32), (0, .nameAndType 33 12), (0, u "checkForComodification"), (3, .fieldref 18 38), (0, .nameAndType 39 40), (0, u "elementData"), (0, u "[Ljava/lang/Object;"), (28, .class_ 70), (0, u "java/util/Iterator"), (0, u "(Ljava/util/ArrayList;)V"), (8, u "hasNext"), (0, u "()Z"), (1, u "next"), (0, u "()Ljava/lang/Object;")] 19

def k21c0 : Code := { maxStack := 2, maxLocals := 2, code := jdk_49_method_1_code, exceptionTable := #[], attributes := #[] }
def k21m0 : Method := { name := "<init>", desc := "(Ljava/util/ArrayList;)V", sig := { parameters := [(.object "java/util/ArrayList")], returnType := none }, accessFlags := 0, code := some k21c0 }
def k21c1 : Code := { maxStack := 2, maxLocals := 1, code := jdk_49_method_2_code, exceptionTable := #[], attributes := #[] }
def k21m1 : Method := { name := "hasNext", desc := "()Z", sig := { parameters := [], returnType := some .boolean }, accessFlags := 1, code := some k21c1 }
def k21c2 : Code := { maxStack := 4, maxLocals := 3, code := jdk_49_method_3_code, exceptionTable := #[], attributes := #[] }
def k21m2 : Method := { name := "next", desc := "()Ljava/lang/Object;", sig := { parameters := [], returnType := some (.object "java/lang/Object") }, accessFlags := 1, code := some k21c2 }
def k21c3 : Code := { maxStack := 2, maxLocals := 1, code := jdk_49_method_6_code, exceptionTable := #[], attributes := #[] }
def k21m3 : Method := { name := "checkForComodification", desc := "()V", sig := { parameters := [], returnType := none }, accessFlags := 16, code := some k21c3 }
/-- java/util/ArrayList$Itr -/
def k21 : Class := { plain "java/util/ArrayList$Itr" (some 0) with
  accessFlags := 32
  interfaces := #[20]
  cf := some (fileOf pool21 2 #[.nestHost 18] #[{ accessFlags := 0, nameIndex := 11, descriptorIndex := 71, attributes := #[] }, { accessFlags := 1, nameIndex := 80, descriptorIndex := 81, attributes := #[] }, { accessFlags := 1, nameIndex := 83, descriptorIndex := 84, attributes := #[] }, { accessFlags := 16, nameIndex := 33, descriptorIndex := 12, attributes := #[] }] 32 8 #[69] #[{ accessFlags := 0, nameIndex := 27, descriptorIndex := 16, attributes := #[] }, { accessFlags := 0, nameIndex := 15, descriptorIndex := 16, attributes := #[] }, { accessFlags := 0, nameIndex := 24, descriptorIndex := 16, attributes := #[] }, { accessFlags := 4112, nameIndex := 5, descriptorIndex := 6, attributes := #[] }])
  fields := #[{ name := "cursor", type := .int, accessFlags := 0, slot := 0, constantValue := 0 }, { name := "lastRet", type := .int, accessFlags := 0, slot := 1, constantValue := 0 }, { name := "expectedModCount", type := .int, accessFlags := 0, slot := 2, constantValue := 0 }, { name := "this$0", type := (.object "java/util/ArrayList"), accessFlags := 4112, slot := 3, constantValue := 0 }]
  methods := #[k21m0, k21m1, k21m2, k21m3]
  instanceTypes := #[.int, .int, .int, (.object "java/util/ArrayList")]
  staticTypes := #[]
  resolved := Array.replicate 104 none
  statics := none }

def pool22 : Array CpInfo := pool [(1, .methodref 2 3), (0, .class_ 4), (0, .nameAndType 5 6), (0, u "java/lang/Object"), (0, u "<init>"), (0, u "()V"), (0, .class_ 8), (0, u "java/lang/Record")] 13

def k22c0 : Code := { maxStack := 1, maxLocals := 1, code := jdk_30_method_1_code, exceptionTable := #[], attributes := #[] }
def k22m0 : Method := { name := "<init>", desc := "()V", sig := { parameters := [], returnType := none }, accessFlags := 4, code := some k22c0 }
/-- java/lang/Record -/
def k22 : Class := { plain "java/lang/Record" (some 0) with
  accessFlags := 1057
  interfaces := #[]
  cf := some (fileOf pool22 7 #[] #[{ accessFlags := 4, nameIndex := 5, descriptorIndex := 6, attributes := #[] }] 1057 2 #[] #[])
  fields := #[]
  methods := #[k22m0]
  instanceTypes := #[]
  staticTypes := #[]
  resolved := Array.replicate 22 none
  statics := none }

def pool23 : Array CpInfo := pool [(1, .class_ 2), (0, u "com/example/parley/parley/floor/Conference"), (0, .methodref 4 5), (0, .class_ 6), (0, .nameAndType 7 8), (0, u "java/lang/Record"), (0, u "<init>"), (0, u "()V"), (0, .string 10), (0, u "floor ID"), (0, .methodref 1 12), (0, .nameAndType 13 14), (0, u "checkSixteenBits"), (0, u "(ILjava/lang/String;)I"), (0, .invokeDynamic 0 16), (0, .nameAndType 17 18), (0, u "accept"), (0, u "()Ljava/util/function/IntConsumer;"), (0, .methodref 20 21), (0, .class_ 22), (0, .nameAndType 23 24), (0, u "java/util/OptionalInt"), (0, u "ifPresent"), (0, u "(Ljava/util/function/IntConsumer;)V"), (0, .methodref 26 27), (0, .class_ 28), (0, .nameAndType 29 30), (0, u "com/example/parley/parley/floor/FloorSettings"), (0, u "checkMaxRequestsPerUser"), (0, u "(I)I"), (0, .fieldref 26 32), (0, .nameAndType 33 34), (0, u "id"), (0, u "I"), (0, .fieldref 26 36), (0, .nameAndType 37 38), (0, u "chair"), (0, u "Ljava/util/OptionalInt;"), (0, .fieldref 26 40), (0, .nameAndType 41 34), (0, u "maxRequestsPerUser"), (0, .methodref 20 43), (0, .nameAndType 44 45), (0, u "empty"), (0, u "()Ljava/util/OptionalInt;"), (0, .methodref 26 47), (0, .nameAndType 7 48), (0, u "(ILjava/util/OptionalInt;I)V"), (49, u "DEFAULT_MAX_REQUESTS_PER_USER"), (2, u "MAX_REQUESTS_PER_USER"), (4, u "(I)V"), (6, u "()I"), (1, u "lambda$new$0"), (4, .methodType 106), (0, .methodHandle 6 122), (0, .methodref 26 123), (0, .nameAndType 115 106), (7, .methodHandle 6 132), (0, .methodref 133 134), (0, .class_ 135), (0, .nameAndType 136 137), (0, u "java/lang/invoke/LambdaMetafactory"), (0, u "metafactory"), (0, u "(Ljava/lang/invoke/MethodHandles$Lookup;Ljava/lang/String;Ljava/lang/invoke/MethodType;Ljava/lang/invoke/MethodType;Ljava/lang/invoke/MethodHandle;Ljava/lang/invoke/MethodType;)Ljava/lang/invoke/CallSite;")] 19

def k23c0 : Code := { maxStack := 2, maxLocals := 4, code := prog_16_method_1_code, exceptionTable := #[], attributes := #[] }
def k23m0 : Method := { name := "<init>", desc := "(ILjava/util/OptionalInt;I)V", sig := { parameters := [.int, (.object "java/util/OptionalInt"), .int], returnType := none }, accessFlags := 1, code := some k23c0 }
def k23c1 : Code := { maxStack := 4, maxLocals := 2, code := prog_16_method_2_code, exceptionTable := #[], attributes := #[] }
def k23m1 : Method := { name := "<init>", desc := "(I)V", sig := { parameters := [.int], returnType := none }, accessFlags := 1, code := some k23c1 }
def k23c2 : Code := { maxStack := 2, maxLocals := 1, code := prog_16_method_6_code, exceptionTable := #[], attributes := #[] }
def k23m2 : Method := { name := "checkMaxRequestsPerUser", desc := "(I)I", sig := { parameters := [.int], returnType := some .int }, accessFlags := 10, code := some k23c2 }
def k23c3 : Code := { maxStack := 1, maxLocals := 1, code := prog_16_method_11_code, exceptionTable := #[], attributes := #[] }
def k23m3 : Method := { name := "id", desc := "()I", sig := { parameters := [], returnType := some .int }, accessFlags := 1, code := some k23c3 }
def k23c4 : Code := { maxStack := 1, maxLocals := 1, code := prog_16_method_12_code, exceptionTable := #[], attributes := #[] }
def k23m4 : Method := { name := "chair", desc := "()Ljava/util/OptionalInt;", sig := { parameters := [], returnType := some (.object "java/util/OptionalInt") }, accessFlags := 1, code := some k23c4 }
def k23c5 : Code := { maxStack := 2, maxLocals := 1, code := ⟨#[0x1a, 0x12, 0x54, 0xb8, 0x00, 0x0b, 0x57, 0xb1]⟩, exceptionTable := #[], attributes := #[] }
def k23m5 : Method := { name := "lambda$new$0", desc := "(I)V", sig := { parameters := [.int], returnType := none }, accessFlags := 4106, code := some k23c5 }
/-- com/example/parley/parley/floor/FloorSettings -/
def k23 : Class := { plain "com/example/parley/parley/floor/FloorSettings" (some 22) with
  accessFlags := 49
  interfaces := #[]
  cf := some (fileOf pool23 26 #[.bootstrapMethods #[⟨131, #[120, 121, 120]⟩, ⟨0, #[]⟩, ⟨0, #[]⟩]] #[{ accessFlags := 1, nameIndex := 7, descriptorIndex := 48, attributes := #[] }, { accessFlags := 1, nameIndex := 7, descriptorIndex := 106, attributes := #[] }, { accessFlags := 10, nameIndex := 29, descriptorIndex := 30, attributes := #[] }, { accessFlags := 1, nameIndex := 33, descriptorIndex := 113, attributes := #[] }, { accessFlags := 1, nameIndex := 37, descriptorIndex := 45, attributes := #[] }, { accessFlags := 4106, nameIndex := 115, descriptorIndex := 106, attributes := #[] }] 49 4 #[] #[{ accessFlags := 18, nameIndex := 33, descriptorIndex := 34, attributes := #[] }, { accessFlags := 18, nameIndex := 37, descriptorIndex := 38, attributes := #[] }, { accessFlags := 18, nameIndex := 41, descriptorIndex := 34, attributes := #[] }, { accessFlags := 25, nameIndex := 98, descriptorIndex := 34, attributes := #[] }, { accessFlags := 25, nameIndex := 101, descriptorIndex := 34, attributes := #[] }])
  fields := #[{ name := "id", type := .int, accessFlags := 18, slot := 0, constantValue := 0 }, { name := "chair", type := (.object "java/util/OptionalInt"), accessFlags := 18, slot := 1, constantValue := 0 }, { name := "maxRequestsPerUser", type := .int, accessFlags := 18, slot := 2, constantValue := 0 }, { name := "DEFAULT_MAX_REQUESTS_PER_USER", type := .int, accessFlags := 25, slot := 0, constantValue := 0 }, { name := "MAX_REQUESTS_PER_USER", type := .int, accessFlags := 25, slot := 1, constantValue := 0 }]
  methods := #[k23m0, k23m1, k23m2, k23m3, k23m4, k23m5]
  instanceTypes := #[.int, (.object "java/util/OptionalInt"), .int]
  staticTypes := #[.int, .int]
  resolved := Array.replicate 157 none
  callSites := [(0, 12, .constant 2)]
  statics := none }

def pool24 : Array CpInfo := pool [(2, .class_ 4), (1, u "java/lang/Object"), (0, u "<init>"), (0, u "()V"), (0, .fieldref 8 9), (0, .class_ 10), (0, .nameAndType 11 12), (0, u "java/util/OptionalInt"), (0, u "isPresent"), (0, u "Z"), (2, u "value"), (0, u "I"), (0, .fieldref 8 18), (0, .nameAndType 19 20), (0, u "EMPTY"), (0, u "Ljava/util/OptionalInt;"), (28, u "empty"), (46, u "()Ljava/util/OptionalInt;"), (2, u "()Z"), (1, u "ifPresent"), (0, u "(Ljava/util/function/IntConsumer;)V")] 33

def k24m0 : Method := { name := "<init>", desc := "()V", sig := { parameters := [], returnType := none }, accessFlags := 2, code := none }
def k24c1 : Code := { maxStack := 1, maxLocals := 0, code := jdk_2649_method_2_code, exceptionTable := #[], attributes := #[] }
def k24m1 : Method := { name := "empty", desc := "()Ljava/util/OptionalInt;", sig := { parameters := [], returnType := some (.object "java/util/OptionalInt") }, accessFlags := 9, code := some k24c1 }
def k24c2 : Code := { maxStack := 1, maxLocals := 1, code := jdk_2649_method_6_code, exceptionTable := #[], attributes := #[] }
def k24m2 : Method := { name := "isPresent", desc := "()Z", sig := { parameters := [], returnType := some .boolean }, accessFlags := 1, code := some k24c2 }
def k24c3 : Code := { maxStack := 2, maxLocals := 2, code := jdk_2649_method_8_code, exceptionTable := #[], attributes := #[] }
def k24m3 : Method := { name := "ifPresent", desc := "(Ljava/util/function/IntConsumer;)V", sig := { parameters := [(.object "java/util/function/IntConsumer")], returnType := none }, accessFlags := 1, code := some k24c3 }
/-- java/util/OptionalInt -/
def k24 : Class := { plain "java/util/OptionalInt" (some 0) with
  accessFlags := 49
  interfaces := #[]
  cf := some (fileOf pool24 8 #[] #[{ accessFlags := 2, nameIndex := 5, descriptorIndex := 6, attributes := #[] }, { accessFlags := 9, nameIndex := 49, descriptorIndex := 96, attributes := #[] }, { accessFlags := 1, nameIndex := 11, descriptorIndex := 99, attributes := #[] }, { accessFlags := 1, nameIndex := 101, descriptorIndex := 102, attributes := #[] }] 49 2 #[] #[{ accessFlags := 26, nameIndex := 19, descriptorIndex := 20, attributes := #[] }, { accessFlags := 18, nameIndex := 11, descriptorIndex := 12, attributes := #[] }, { accessFlags := 18, nameIndex := 15, descriptorIndex := 16, attributes := #[] }])
  fields := #[{ name := "EMPTY", type := (.object "java/util/OptionalInt"), accessFlags := 26, slot := 0, constantValue := 0 }, { name := "isPresent", type := .boolean, accessFlags := 18, slot := 0, constantValue := 0 }, { name := "value", type := .int, accessFlags := 18, slot := 1, constantValue := 0 }]
  methods := #[k24m0, k24m1, k24m2, k24m3]
  instanceTypes := #[.boolean, .int]
  staticTypes := #[(.object "java/util/OptionalInt")]
  resolved := Array.replicate 136 none
  statics := some 1 }

def pool25 : Array CpInfo := pool [(1, .class_ 2), (0, u "java/lang/Comparable"), (0, .class_ 4), (0, u "java/lang/Object")] 7

/-- java/lang/Comparable -/
def k25 : Class := { plain "java/lang/Comparable" (some 0) with
  accessFlags := 1537
  interfaces := #[]
  cf := some (fileOf pool25 1 #[] #[] 1537 3 #[] #[])
  fields := #[]
  methods := #[]
  instanceTypes := #[]
  staticTypes := #[]
  resolved := Array.replicate 12 none
  statics := none }

def pool26 : Array CpInfo := pool [(2, .class_ 4), (1, u "java/lang/CharSequence"), (42, .class_ 48), (0, u "java/lang/CharSequence$1CodePointIterator"), (10, .class_ 60), (0, u "java/lang/CharSequence$1CharIterator"), (5, .class_ 67), (0, u "java/lang/Object")] 63

/-- java/lang/CharSequence -/
def k26 : Class := { plain "java/lang/CharSequence" (some 0) with
  accessFlags := 1537
  interfaces := #[]
  cf := some (fileOf pool26 2 #[.nestMembers #[47, 59]] #[] 1537 66 #[] #[])
  fields := #[]
  methods := #[]
  instanceTypes := #[]
  staticTypes := #[]
  resolved := Array.replicate 131 none
  statics := none }

def pool27 : Array CpInfo := pool [(1, .class_ 2), (0, u "java/lang/constant/Constable"), (0, .class_ 4), (0, u "java/lang/Object")] 6

/-- java/lang/constant/Constable -/
def k27 : Class := { plain "java/lang/constant/Constable" (some 0) with
  accessFlags := 1537
  interfaces := #[]
  cf := some (fileOf pool27 1 #[] #[] 1537 3 #[] #[])
  fields := #[]
  methods := #[]
  instanceTypes := #[]
  staticTypes := #[]
  resolved := Array.replicate 11 none
  statics := none }

def pool28 : Array CpInfo := pool [(1, .class_ 2), (0, u "java/lang/constant/ConstantDesc"), (0, .class_ 4), (0, u "java/lang/Object")] 32

/-- java/lang/constant/ConstantDesc -/
def k28 : Class := { plain "java/lang/constant/ConstantDesc" (some 0) with
  accessFlags := 1537
  interfaces := #[]
  cf := some (fileOf pool28 1 #[] #[] 1537 3 #[] #[])
  fields := #[]
  methods := #[]
  instanceTypes := #[]
  staticTypes := #[]
  resolved := Array.replicate 37 none
  statics := none }

def pool29 : Array CpInfo := pool [(2, .class_ 4), (1, u "java/lang/Object"), (0, u "<init>"), (0, u "()V"), (3, .class_ 12), (1, u "java/lang/String"), (0, u "value"), (0, u "[B"), (2, u "coder"), (0, u "B"), (2, u "hash"), (0, u "I"), (2, u "hashIsZero"), (0, u "Z"), (13, u "COMPACT_STRINGS"), (534, .class_ 576), (0, u "java/lang/CharSequence"), (22, u "CASE_INSENSITIVE_ORDER"), (0, u "Ljava/util/Comparator;"), (500, u "serialPersistentFields"), (0, u "[Ljava/io/ObjectStreamField;"), (0, .class_ 1104), (0, u "java/lang/String$CaseInsensitiveComparator"), (1, .class_ 1107), (0, u "java/io/Serializable"), (0, .class_ 1109), (0, u "java/lang/Comparable"), (0, .class_ 1111), (0, u "java/lang/constant/Constable"), (0, .class_ 1113), (0, u "java/lang/constant/ConstantDesc"), (2, u "serialVersionUID"), (0, u "J"), (3, u "REPL"), (0, u "C"), (2, u "LATIN1"), (1, u "UTF16")] 323

def k29m0 : Method := { name := "<init>", desc := "()V", sig := { parameters := [], returnType := none }, accessFlags := 1, code := none }
/-- java/lang/String -/
def k29 : Class := { plain "java/lang/String" (some 0) with
  accessFlags := 49
  interfaces := #[10, 25, 26, 27, 28]
  cf := some (fileOf pool29 10 #[.nestMembers #[1103]] #[{ accessFlags := 1, nameIndex := 5, descriptorIndex := 6, attributes := #[] }] 49 2 #[1106, 1108, 575, 1110, 1112] #[{ accessFlags := 18, nameIndex := 13, descriptorIndex := 14, attributes := #[] }, { accessFlags := 18, nameIndex := 17, descriptorIndex := 18, attributes := #[] }, { accessFlags := 2, nameIndex := 21, descriptorIndex := 22, attributes := #[] }, { accessFlags := 2, nameIndex := 25, descriptorIndex := 26, attributes := #[] }, { accessFlags := 26, nameIndex := 1116, descriptorIndex := 1117, attributes := #[] }, { accessFlags := 24, nameIndex := 40, descriptorIndex := 26, attributes := #[] }, { accessFlags := 26, nameIndex := 1101, descriptorIndex := 1102, attributes := #[] }, { accessFlags := 26, nameIndex := 1121, descriptorIndex := 1122, attributes := #[] }, { accessFlags := 25, nameIndex := 599, descriptorIndex := 600, attributes := #[] }, { accessFlags := 24, nameIndex := 1125, descriptorIndex := 18, attributes := #[] }, { accessFlags := 24, nameIndex := 1127, descriptorIndex := 18, attributes := #[] }])
  fields := #[{ name := "value", type := (.array .byte), accessFlags := 18, slot := 0, constantValue := 0 }, { name := "coder", type := .byte, accessFlags := 18, slot := 1, constantValue := 0 }, { name := "hash", type := .int, accessFlags := 2, slot := 2, constantValue := 0 }, { name := "hashIsZero", type := .boolean, accessFlags := 2, slot := 3, constantValue := 0 }, { name := "serialVersionUID", type := .long, accessFlags := 26, slot := 0, constantValue := 0 }, { name := "COMPACT_STRINGS", type := .boolean, accessFlags := 24, slot := 1, constantValue := 0 }, { name := "serialPersistentFields", type := (.array (.object "java/io/ObjectStreamField")), accessFlags := 26, slot := 2, constantValue := 0 }, { name := "REPL", type := .char, accessFlags := 26, slot := 3, constantValue := 0 }, { name := "CASE_INSENSITIVE_ORDER", type := (.object "java/util/Comparator"), accessFlags := 25, slot := 4, constantValue := 0 }, { name := "LATIN1", type := .byte, accessFlags := 24, slot := 5, constantValue := 0 }, { name := "UTF16", type := .byte, accessFlags := 24, slot := 6, constantValue := 0 }]
  methods := #[k29m0]
  instanceTypes := #[(.array .byte), .byte, .int, .boolean]
  staticTypes := #[.long, .boolean, (.array (.object "java/io/ObjectStreamField")), .char, (.object "java/util/Comparator"), .byte, .byte]
  resolved := Array.replicate 1451 none
  statics := none }

def pool30 : Array CpInfo := pool [(9, u "accept"), (2, .class_ 14), (1, u "java/util/function/IntConsumer"), (0, u "(I)V"), (0, .class_ 17), (0, u "java/lang/Object")] 34

def k30m0 : Method := { name := "accept", desc := "(I)V", sig := { parameters := [.int], returnType := none }, accessFlags := 1025, code := none }
/-- java/util/function/IntConsumer -/
def k30 : Class := { plain "java/util/function/IntConsumer" (some 0) with
  accessFlags := 1537
  interfaces := #[]
  cf := some (fileOf pool30 12 #[] #[{ accessFlags := 1025, nameIndex := 9, descriptorIndex := 15, attributes := #[] }] 1537 16 #[] #[])
  fields := #[]
  methods := #[k30m0]
  instanceTypes := #[]
  staticTypes := #[]
  resolved := Array.replicate 52 none
  statics := none }

def pool31 : Array CpInfo := pool [(1, .class_ 2), (0, u "java/lang/Math"), (1, .class_ 6), (1, u "java/lang/Object"), (0, u "<init>"), (0, u "()V"), (89, .class_ 100), (1, u "java/lang/Math$RandomNumberGeneratorHolder"), (71, u "negativeZeroFloatBits"), (0, u "J"), (2, u "negativeZeroDoubleBits"), (21, u "max"), (46, u "$assertionsDisabled"), (0, u "Z"), (88, u "(II)I"), (2, u "twoToTheDoubleScaleDown"), (0, u "D"), (4, u "twoToTheDoubleScaleUp"), (9, u "E"), (3, u "PI"), (2, u "TAU"), (2, u "DEGREES_TO_RADIANS"), (0, u "RADIANS_TO_DEGREES")] 94

def k31m0 : Method := { name := "<init>", desc := "()V", sig := { parameters := [], returnType := none }, accessFlags := 2, code := none }
def k31c1 : Code := { maxStack := 2, maxLocals := 2, code := jdk_29_method_65_code, exceptionTable := #[], attributes := #[] }
def k31m1 : Method := { name := "max", desc := "(II)I", sig := { parameters := [.int, .int], returnType := some .int }, accessFlags := 9, code := some k31c1 }
/-- java/lang/Math -/
def k31 : Class := { plain "java/lang/Math" (some 0) with
  accessFlags := 49
  interfaces := #[]
  cf := some (fileOf pool31 1 #[.nestMembers #[98]] #[{ accessFlags := 2, nameIndex := 7, descriptorIndex := 8, attributes := #[] }, { accessFlags := 9, nameIndex := 198, descriptorIndex := 335, attributes := #[] }] 49 4 #[] #[{ accessFlags := 25, nameIndex := 354, descriptorIndex := 339, attributes := #[] }, { accessFlags := 25, nameIndex := 358, descriptorIndex := 339, attributes := #[] }, { accessFlags := 25, nameIndex := 361, descriptorIndex := 339, attributes := #[] }, { accessFlags := 26, nameIndex := 364, descriptorIndex := 339, attributes := #[] }, { accessFlags := 26, nameIndex := 365, descriptorIndex := 339, attributes := #[] }, { accessFlags := 26, nameIndex := 172, descriptorIndex := 173, attributes := #[] }, { accessFlags := 26, nameIndex := 176, descriptorIndex := 173, attributes := #[] }, { accessFlags := 8, nameIndex := 344, descriptorIndex := 339, attributes := #[] }, { accessFlags := 8, nameIndex := 338, descriptorIndex := 339, attributes := #[] }, { accessFlags := 4120, nameIndex := 245, descriptorIndex := 246, attributes := #[] }])
  fields := #[{ name := "E", type := .double, accessFlags := 25, slot := 0, constantValue := 0 }, { name := "PI", type := .double, accessFlags := 25, slot := 1, constantValue := 0 }, { name := "TAU", type := .double, accessFlags := 25, slot := 2, constantValue := 0 }, { name := "DEGREES_TO_RADIANS", type := .double, accessFlags := 26, slot := 3, constantValue := 0 }, { name := "RADIANS_TO_DEGREES", type := .double, accessFlags := 26, slot := 4, constantValue := 0 }, { name := "negativeZeroFloatBits", type := .long, accessFlags := 26, slot := 5, constantValue := 0 }, { name := "negativeZeroDoubleBits", type := .long, accessFlags := 26, slot := 6, constantValue := 0 }, { name := "twoToTheDoubleScaleUp", type := .double, accessFlags := 8, slot := 7, constantValue := 0 }, { name := "twoToTheDoubleScaleDown", type := .double, accessFlags := 8, slot := 8, constantValue := 0 }, { name := "$assertionsDisabled", type := .boolean, accessFlags := 4120, slot := 9, constantValue := 0 }]
  methods := #[k31m0, k31m1]
  instanceTypes := #[]
  staticTypes := #[.double, .double, .double, .double, .double, .long, .long, .double, .double, .boolean]
  resolved := Array.replicate 460 none
  statics := none }

/-- the primitive byte -/
def k32 : Class := { plain "byte" none with kind := .primitive 'B', accessFlags := 0x411 }
/-- [B -/
def k33 : Class := { plain "[B" (some 0) with kind := .array 32 .byte, interfaces := #[9, 10], accessFlags := 1041 }

/-- the primitive int -/
def k34 : Class := { plain "int" none with kind := .primitive 'I', accessFlags := 0x411 }
/-- [I -/
def k35 : Class := { plain "[I" (some 0) with kind := .array 34 .int, interfaces := #[9, 10], accessFlags := 1041 }

/-- [Lcom/example/parley/parley/floor/Conference$Floor; -/
def k36 : Class := { plain "[Lcom/example/parley/parley/floor/Conference$Floor;" (some 0) with kind := .array 13 (.object "com/example/parley/parley/floor/Conference$Floor"), interfaces := #[9, 10], accessFlags := 1041 }

/-- [Ljava/lang/Object; -/
def k37 : Class := { plain "[Ljava/lang/Object;" (some 0) with kind := .array 0 (.object "java/lang/Object"), interfaces := #[9, 10], accessFlags := 1041 }

def classes0 : Array Class := #[k0, k1, k2, k3, k4, k5, k6, k7, k8, k9, k10, k11, k12, k13, k14, k15, k16, k17, k18, k19, k20, k21, k22, k23, k24, k25, k26, k27, k28, k29, k30, k31, k32, k33, k34, k35, k36, k37]
/-- the class that the rule has made for the site at 12 of com/example/parley/parley/floor/FloorSettings.<init> -/
def k38 : Class := Jvm.LamKit.madeRec { classes := classes0 } "com/example/parley/parley/floor/FloorSettings" (Jvm.Lambda.Shape.mk "java/util/function/IntConsumer" "accept" (Jvm.ClassFile.MethodDescriptor.mk ([Jvm.ClassFile.FieldType.int] : List Jvm.ClassFile.FieldType) (Option.none : Option Jvm.ClassFile.FieldType)) ([] : List Jvm.ClassFile.FieldType) (6 : Nat) "com/example/parley/parley/floor/FloorSettings" "lambda$new$0" (Jvm.ClassFile.MethodDescriptor.mk ([Jvm.ClassFile.FieldType.int] : List Jvm.ClassFile.FieldType) (Option.none : Option Jvm.ClassFile.FieldType)) false (Jvm.ClassFile.MethodDescriptor.mk ([Jvm.ClassFile.FieldType.int] : List Jvm.ClassFile.FieldType) (Option.none : Option Jvm.ClassFile.FieldType))) 38

def heap : Heap := #[{ cls := 11, slots := #[.long 0, .int 0, .ref 3, .ref 4], vm := .statics 11 },
  { cls := 24, slots := #[.ref 5], vm := .statics 24 },
  { cls := 38, slots := #[], vm := .none },
  { cls := 37, slots := #[], vm := .none },
  { cls := 37, slots := #[], vm := .none },
  { cls := 24, slots := #[.int 0, .int 0], vm := .none }]
def classes : Array Class := #[k0, k1, k2, k3, k4, k5, k6, k7, k8, k9, k10, k11, k12, k13, k14, k15, k16, k17, k18, k19, k20, k21, k22, k23, k24, k25, k26, k27, k28, k29, k30, k31, k32, k33, k34, k35, k36, k37, k38]
def interned : List (Array UInt16 × Addr) := []
def slotsUsed : Nat := 7
def theMethod : MethodId := ⟨1, 1⟩
def args0 : Array Value := #[.long 5, .int 1, .int 2, .int 3, .int 4]
def aboutOver (below : List Frame) : State where
  vm := { classes := classes, interned := interned.toArray }
  heap := heap
  slotsUsed := slotsUsed
  threads := #[{ frames := .invoking theMethod args0 :: below }]
def below0 : List Frame := [.native { method := ⟨0, 0⟩, args := #[] }]
def about1 : State := aboutOver below0
def p0 : Program := .bare "" "" ""
def e0 : Env := launch0.env 0 0 0
theorem w_frames : about1.frames = Frame.invoking theMethod args0 :: below0 := rfl
set_option maxRecDepth 65536 in
theorem w_args : argsFit about1.vm theMethod args0 = true := by decide +kernel
set_option maxRecDepth 65536 in
theorem w_heap : heapFits about1 = true := by decide +kernel
set_option maxRecDepth 65536 in
theorem w_runnable : about1.curStatus? = some .runnable := by decide +kernel
set_option maxRecDepth 65536 in
theorem w_alone : about1.alone = true := by decide +kernel
set_option maxRecDepth 65536 in
theorem w_named : about1.methodNamed? x = some theMethod := by decide +kernel
set_option maxRecDepth 65536 in
theorem w_hears : about1.hears theMethod below0 = true := by decide +kernel
set_option maxRecDepth 65536 in
theorem w_ripe : about1.ripe theMethod args0 below0 = true := by decide +kernel
theorem w_running : about1.status = .running := rfl
set_option maxRecDepth 65536 in
theorem w_room : about1.hasRoom e0.platform room_1 = true :=
  launch0.hasRoom_least _ room_1 (by decide +kernel) (by decide +kernel) (by decide +kernel) (by decide +kernel) (by decide +kernel) (by decide +kernel)
theorem allAtoms_all (ts : List Jvm.Cond) (a : Array Jvm.Value) (st : Jvm.State) : (allAtoms ts).before a st = ts.all (fun c => c.before a st) := by
  induction ts with
  | nil => rfl
  | cons c t ih =>
    show (Jvm.Cond.and c (allAtoms t)).before a st = _
    rw [Jvm.Cond.before_and, ih, List.all_cons]
def words1 : List Jvm.Cond := Jvm.Cond.code x code maxLocals ret :: tables_1
/-- a 'code' word, met by the world's own term for the bytes: nothing is compared byte by byte -/
theorem code_word {y : MethodName} {bytes : ByteArray} {mx : Nat} {rt : Option FieldType} {a : Array Value} {s : State} {m : MethodId} {meth : Method} {c : Code} (h1 : s.methodNamed? y = some m) (h2 : s.vm.method? m = some meth) (h3 : meth.code = some c) (h4 : c.code = bytes)
    (h5 : (c.maxLocals == mx && c.exceptionTable.isEmpty && decide (c.maxStack ≤ mostOperands) && decide (meth.sig.returnType = rt) && !meth.locks && decide (parseMethodDescriptor y.desc = some meth.sig)) = true) : (Jvm.Cond.code y bytes mx rt).before a s = true := by
  simp only [Bool.and_eq_true, beq_iff_eq, Bool.not_eq_true', decide_eq_true_eq] at h5
  obtain ⟨⟨⟨⟨⟨g1, g2⟩, g3⟩, g4⟩, g5⟩, g6⟩ := h5
  simp [Cond.before, Cond.holds, Cond.value, h1, h2, h3, h4, g1, g2, g3, g4, g5, g6]
def isCode : Jvm.Cond → Bool
  | .code _ _ _ _ => true
  | _ => false
theorem all_split {L : List Jvm.Cond} {P : Jvm.Cond → Bool} (h1 : L.all (fun c => isCode c || P c) = true) (h2 : ∀ c ∈ L.filter isCode, P c = true) : L.all P = true := by
  refine List.all_eq_true.mpr fun c hc => ?_
  have h := List.all_eq_true.mp h1 c hc
  rcases Bool.eq_false_or_eq_true (isCode c) with hi | hi
  · exact h2 c (List.mem_filter.mpr ⟨hc, hi⟩)
  · simpa [hi] using h
set_option maxRecDepth 65536 in
theorem w_c0 : (Jvm.Cond.code x code maxLocals ret).before args0 about1 = true := code_word (m := ⟨1, 1⟩) (meth := k1m1) (c := k1c1) (by decide +kernel) rfl rfl rfl (by decide +kernel)
set_option maxRecDepth 65536 in
theorem w_c1 : (Jvm.Cond.code ({ cls := "java/util/ArrayList", name := "<init>", desc := "()V" } : Jvm.MethodName) jdk_38_method_2_code (1 : Nat) (Option.none : Option Jvm.ClassFile.FieldType)).before args0 about1 = true := code_word (m := ⟨11, 0⟩) (meth := k11m0) (c := k11c0) (by decide +kernel) rfl rfl rfl (by decide +kernel)
set_option maxRecDepth 65536 in
theorem w_c2 : (Jvm.Cond.code ({ cls := "java/util/AbstractList", name := "<init>", desc := "()V" } : Jvm.MethodName) jdk_39_method_1_code (1 : Nat) (Option.none : Option Jvm.ClassFile.FieldType)).before args0 about1 = true := code_word (m := ⟨7, 0⟩) (meth := k7m0) (c := k7c0) (by decide +kernel) rfl rfl rfl (by decide +kernel)
set_option maxRecDepth 65536 in
theorem w_c3 : (Jvm.Cond.code ({ cls := "java/util/AbstractCollection", name := "<init>", desc := "()V" } : Jvm.MethodName) jdk_22_method_1_code (1 : Nat) (Option.none : Option Jvm.ClassFile.FieldType)).before args0 about1 = true := code_word (m := ⟨4, 0⟩) (meth := k4m0) (c := k4c0) (by decide +kernel) rfl rfl rfl (by decide +kernel)
set_option maxRecDepth 65536 in
theorem w_c4 : (Jvm.Cond.code ({ cls := "java/lang/Object", name := "<init>", desc := "()V" } : Jvm.MethodName) object_method_1_code (1 : Nat) (Option.none : Option Jvm.ClassFile.FieldType)).before args0 about1 = true := code_word (m := ⟨0, 0⟩) (meth := k0m0) (c := k0c0) (by decide +kernel) rfl rfl rfl (by decide +kernel)
set_option maxRecDepth 65536 in
theorem w_c5 : (Jvm.Cond.code ({ cls := "com/example/parley/parley/floor/Conference", name := "<init>", desc := "(JLjava/util/Collection;Ljava/util/Collection;)V" } : Jvm.MethodName) prog_3_method_4_code (8 : Nat) (Option.none : Option Jvm.ClassFile.FieldType)).before args0 about1 = true := code_word (m := ⟨12, 0⟩) (meth := k12m0) (c := k12c0) (by decide +kernel) rfl rfl rfl (by decide +kernel)
set_option maxRecDepth 65536 in
theorem w_c6 : (Jvm.Cond.code ({ cls := "java/util/HashMap", name := "<init>", desc := "()V" } : Jvm.MethodName) jdk_69_method_7_code (1 : Nat) (Option.none : Option Jvm.ClassFile.FieldType)).before args0 about1 = true := code_word (m := ⟨16, 0⟩) (meth := k16m0) (c := k16c0) (by decide +kernel) rfl rfl rfl (by decide +kernel)
set_option maxRecDepth 65536 in
theorem w_c7 : (Jvm.Cond.code ({ cls := "java/util/AbstractMap", name := "<init>", desc := "()V" } : Jvm.MethodName) jdk_71_method_1_code (1 : Nat) (Option.none : Option Jvm.ClassFile.FieldType)).before args0 about1 = true := code_word (m := ⟨15, 0⟩) (meth := k15m0) (c := k15c0) (by decide +kernel) rfl rfl rfl (by decide +kernel)
set_option maxRecDepth 65536 in
theorem w_c8 : (Jvm.Cond.code ({ cls := "java/util/HashSet", name := "<init>", desc := "()V" } : Jvm.MethodName) jdk_93_method_1_code (1 : Nat) (Option.none : Option Jvm.ClassFile.FieldType)).before args0 about1 = true := code_word (m := ⟨19, 0⟩) (meth := k19m0) (c := k19c0) (by decide +kernel) rfl rfl rfl (by decide +kernel)
set_option maxRecDepth 65536 in
theorem w_c9 : (Jvm.Cond.code ({ cls := "java/util/AbstractSet", name := "<init>", desc := "()V" } : Jvm.MethodName) jdk_91_method_1_code (1 : Nat) (Option.none : Option Jvm.ClassFile.FieldType)).before args0 about1 = true := code_word (m := ⟨18, 0⟩) (meth := k18m0) (c := k18c0) (by decide +kernel) rfl rfl rfl (by decide +kernel)
set_option maxRecDepth 65536 in
theorem w_c10 : (Jvm.Cond.code ({ cls := "com/example/parley/parley/floor/Conference", name := "checkId", desc := "(J)J" } : Jvm.MethodName) prog_3_method_5_code (2 : Nat) (Option.some Jvm.ClassFile.FieldType.long)).before args0 about1 = true := code_word (m := ⟨12, 1⟩) (meth := k12m1) (c := k12c1) (by decide +kernel) rfl rfl rfl (by decide +kernel)
set_option maxRecDepth 65536 in
theorem w_c11 : (Jvm.Cond.code ({ cls := "java/util/ArrayList", name := "iterator", desc := "()Ljava/util/Iterator;" } : Jvm.MethodName) jdk_38_method_55_code (1 : Nat) (Option.some (Jvm.ClassFile.FieldType.object "java/util/Iterator"))).before args0 about1 = true := code_word (m := ⟨11, 5⟩) (meth := k11m5) (c := k11c5) (by decide +kernel) rfl rfl rfl (by decide +kernel)
set_option maxRecDepth 65536 in
theorem w_c12 : (Jvm.Cond.code ({ cls := "java/util/ArrayList$Itr", name := "<init>", desc := "(Ljava/util/ArrayList;)V" } : Jvm.MethodName) jdk_49_method_1_code (2 : Nat) (Option.none : Option Jvm.ClassFile.FieldType)).before args0 about1 = true := code_word (m := ⟨21, 0⟩) (meth := k21m0) (c := k21c0) (by decide +kernel) rfl rfl rfl (by decide +kernel)
set_option maxRecDepth 65536 in
theorem w_c13 : (Jvm.Cond.code ({ cls := "java/util/ArrayList$Itr", name := "hasNext", desc := "()Z" } : Jvm.MethodName) jdk_49_method_2_code (1 : Nat) (Option.some Jvm.ClassFile.FieldType.boolean)).before args0 about1 = true := code_word (m := ⟨21, 1⟩) (meth := k21m1) (c := k21c1) (by decide +kernel) rfl rfl rfl (by decide +kernel)
set_option maxRecDepth 65536 in
theorem w_c14 : (Jvm.Cond.code ({ cls := "com/example/parley/parley/floor/Conference", name := "hasFloor", desc := "(I)Z" } : Jvm.MethodName) prog_3_method_14_code (2 : Nat) (Option.some Jvm.ClassFile.FieldType.boolean)).before args0 about1 = true := code_word (m := ⟨12, 3⟩) (meth := k12m3) (c := k12c3) (by decide +kernel) rfl rfl rfl (by decide +kernel)
set_option maxRecDepth 65536 in
theorem w_c15 : (Jvm.Cond.code ({ cls := "com/example/parley/parley/floor/FloorSettings", name := "<init>", desc := "(I)V" } : Jvm.MethodName) prog_16_method_2_code (2 : Nat) (Option.none : Option Jvm.ClassFile.FieldType)).before args0 about1 = true := code_word (m := ⟨23, 1⟩) (meth := k23m1) (c := k23c1) (by decide +kernel) rfl rfl rfl (by decide +kernel)
set_option maxRecDepth 65536 in
theorem w_c16 : (Jvm.Cond.code ({ cls := "java/util/OptionalInt", name := "empty", desc := "()Ljava/util/OptionalInt;" } : Jvm.MethodName) jdk_2649_method_2_code (0 : Nat) (Option.some (Jvm.ClassFile.FieldType.object "java/util/OptionalInt"))).before args0 about1 = true := code_word (m := ⟨24, 1⟩) (meth := k24m1) (c := k24c1) (by decide +kernel) rfl rfl rfl (by decide +kernel)
set_option maxRecDepth 65536 in
theorem w_c17 : (Jvm.Cond.code ({ cls := "com/example/parley/parley/floor/FloorSettings", name := "<init>", desc := "(ILjava/util/OptionalInt;I)V" } : Jvm.MethodName) prog_16_method_1_code (4 : Nat) (Option.none : Option Jvm.ClassFile.FieldType)).before args0 about1 = true := code_word (m := ⟨23, 0⟩) (meth := k23m0) (c := k23c0) (by decide +kernel) rfl rfl rfl (by decide +kernel)
set_option maxRecDepth 65536 in
theorem w_c18 : (Jvm.Cond.code ({ cls := "java/lang/Record", name := "<init>", desc := "()V" } : Jvm.MethodName) jdk_30_method_1_code (1 : Nat) (Option.none : Option Jvm.ClassFile.FieldType)).before args0 about1 = true := code_word (m := ⟨22, 0⟩) (meth := k22m0) (c := k22c0) (by decide +kernel) rfl rfl rfl (by decide +kernel)
set_option maxRecDepth 65536 in
theorem w_c19 : (Jvm.Cond.code ({ cls := "com/example/parley/parley/floor/Conference", name := "checkSixteenBits", desc := "(ILjava/lang/String;)I" } : Jvm.MethodName) prog_3_method_12_code (2 : Nat) (Option.some Jvm.ClassFile.FieldType.int)).before args0 about1 = true := code_word (m := ⟨12, 2⟩) (meth := k12m2) (c := k12c2) (by decide +kernel) rfl rfl rfl (by decide +kernel)
set_option maxRecDepth 65536 in
theorem w_c20 : (Jvm.Cond.code ({ cls := "java/util/OptionalInt", name := "ifPresent", desc := "(Ljava/util/function/IntConsumer;)V" } : Jvm.MethodName) jdk_2649_method_8_code (2 : Nat) (Option.none : Option Jvm.ClassFile.FieldType)).before args0 about1 = true := code_word (m := ⟨24, 3⟩) (meth := k24m3) (c := k24c3) (by decide +kernel) rfl rfl rfl (by decide +kernel)
set_option maxRecDepth 65536 in
theorem w_c21 : (Jvm.Cond.code ({ cls := "com/example/parley/parley/floor/FloorSettings", name := "checkMaxRequestsPerUser", desc := "(I)I" } : Jvm.MethodName) prog_16_method_6_code (1 : Nat) (Option.some Jvm.ClassFile.FieldType.int)).before args0 about1 = true := code_word (m := ⟨23, 2⟩) (meth := k23m2) (c := k23c2) (by decide +kernel) rfl rfl rfl (by decide +kernel)
set_option maxRecDepth 65536 in
theorem w_c22 : (Jvm.Cond.code ({ cls := "java/util/ArrayList", name := "add", desc := "(Ljava/lang/Object;)Z" } : Jvm.MethodName) jdk_38_method_25_code (2 : Nat) (Option.some Jvm.ClassFile.FieldType.boolean)).before args0 about1 = true := code_word (m := ⟨11, 4⟩) (meth := k11m4) (c := k11c4) (by decide +kernel) rfl rfl rfl (by decide +kernel)
set_option maxRecDepth 65536 in
theorem w_c23 : (Jvm.Cond.code ({ cls := "java/util/ArrayList", name := "add", desc := "(Ljava/lang/Object;[Ljava/lang/Object;I)V" } : Jvm.MethodName) jdk_38_method_24_code (4 : Nat) (Option.none : Option Jvm.ClassFile.FieldType)).before args0 about1 = true := code_word (m := ⟨11, 3⟩) (meth := k11m3) (c := k11c3) (by decide +kernel) rfl rfl rfl (by decide +kernel)
set_option maxRecDepth 65536 in
theorem w_c24 : (Jvm.Cond.code ({ cls := "java/util/ArrayList", name := "grow", desc := "()[Ljava/lang/Object;" } : Jvm.MethodName) jdk_38_method_7_code (1 : Nat) (Option.some (Jvm.ClassFile.FieldType.array (Jvm.ClassFile.FieldType.object "java/lang/Object")))).before args0 about1 = true := code_word (m := ⟨11, 2⟩) (meth := k11m2) (c := k11c2) (by decide +kernel) rfl rfl rfl (by decide +kernel)
set_option maxRecDepth 65536 in
theorem w_c25 : (Jvm.Cond.code ({ cls := "java/util/ArrayList", name := "grow", desc := "(I)[Ljava/lang/Object;" } : Jvm.MethodName) jdk_38_method_6_code (4 : Nat) (Option.some (Jvm.ClassFile.FieldType.array (Jvm.ClassFile.FieldType.object "java/lang/Object")))).before args0 about1 = true := code_word (m := ⟨11, 1⟩) (meth := k11m1) (c := k11c1) (by decide +kernel) rfl rfl rfl (by decide +kernel)
set_option maxRecDepth 65536 in
theorem w_c26 : (Jvm.Cond.code ({ cls := "java/lang/Math", name := "max", desc := "(II)I" } : Jvm.MethodName) jdk_29_method_65_code (2 : Nat) (Option.some Jvm.ClassFile.FieldType.int)).before args0 about1 = true := code_word (m := ⟨31, 1⟩) (meth := k31m1) (c := k31c1) (by decide +kernel) rfl rfl rfl (by decide +kernel)
set_option maxRecDepth 65536 in
theorem w_c27 : (Jvm.Cond.code ({ cls := "java/util/ArrayList$Itr", name := "next", desc := "()Ljava/lang/Object;" } : Jvm.MethodName) jdk_49_method_3_code (3 : Nat) (Option.some (Jvm.ClassFile.FieldType.object "java/lang/Object"))).before args0 about1 = true := code_word (m := ⟨21, 2⟩) (meth := k21m2) (c := k21c2) (by decide +kernel) rfl rfl rfl (by decide +kernel)
set_option maxRecDepth 65536 in
theorem w_c28 : (Jvm.Cond.code ({ cls := "java/util/ArrayList$Itr", name := "checkForComodification", desc := "()V" } : Jvm.MethodName) jdk_49_method_6_code (1 : Nat) (Option.none : Option Jvm.ClassFile.FieldType)).before args0 about1 = true := code_word (m := ⟨21, 3⟩) (meth := k21m3) (c := k21c3) (by decide +kernel) rfl rfl rfl (by decide +kernel)
set_option maxRecDepth 65536 in
theorem w_c29 : (Jvm.Cond.code ({ cls := "com/example/parley/parley/floor/FloorSettings", name := "id", desc := "()I" } : Jvm.MethodName) prog_16_method_11_code (1 : Nat) (Option.some Jvm.ClassFile.FieldType.int)).before args0 about1 = true := code_word (m := ⟨23, 3⟩) (meth := k23m3) (c := k23c3) (by decide +kernel) rfl rfl rfl (by decide +kernel)
set_option maxRecDepth 65536 in
theorem w_c30 : (Jvm.Cond.code ({ cls := "com/example/parley/parley/floor/Conference$Floor", name := "<init>", desc := "(Lcom/example/parley/parley/floor/FloorSettings;)V" } : Jvm.MethodName) prog_6_method_1_code (2 : Nat) (Option.none : Option Jvm.ClassFile.FieldType)).before args0 about1 = true := code_word (m := ⟨13, 0⟩) (meth := k13m0) (c := k13c0) (by decide +kernel) rfl rfl rfl (by decide +kernel)
set_option maxRecDepth 65536 in
theorem w_c31 : (Jvm.Cond.code ({ cls := "com/example/parley/parley/floor/FloorSettings", name := "chair", desc := "()Ljava/util/OptionalInt;" } : Jvm.MethodName) prog_16_method_12_code (1 : Nat) (Option.some (Jvm.ClassFile.FieldType.object "java/util/OptionalInt"))).before args0 about1 = true := code_word (m := ⟨23, 4⟩) (meth := k23m4) (c := k23c4) (by decide +kernel) rfl rfl rfl (by decide +kernel)
set_option maxRecDepth 65536 in
theorem w_c32 : (Jvm.Cond.code ({ cls := "java/util/OptionalInt", name := "isPresent", desc := "()Z" } : Jvm.MethodName) jdk_2649_method_6_code (1 : Nat) (Option.some Jvm.ClassFile.FieldType.boolean)).before args0 about1 = true := code_word (m := ⟨24, 2⟩) (meth := k24m2) (c := k24c2) (by decide +kernel) rfl rfl rfl (by decide +kernel)
def codes1 : List Jvm.Cond := [Jvm.Cond.code x code maxLocals ret, Jvm.Cond.code ({ cls := "java/util/ArrayList", name := "<init>", desc := "()V" } : Jvm.MethodName) jdk_38_method_2_code (1 : Nat) (Option.none : Option Jvm.ClassFile.FieldType), Jvm.Cond.code ({ cls := "java/util/AbstractList", name := "<init>", desc := "()V" } : Jvm.MethodName) jdk_39_method_1_code (1 : Nat) (Option.none : Option Jvm.ClassFile.FieldType), Jvm.Cond.code ({ cls := "java/util/AbstractCollection", name := "<init>", desc := "()V" } : Jvm.MethodName) jdk_22_method_1_code (1 : Nat) (Option.none : Option Jvm.ClassFile.FieldType), Jvm.Cond.code ({ cls := "java/lang/Object", name := "<init>", desc := "()V" } : Jvm.MethodName) object_method_1_code (1 : Nat) (Option.none : Option Jvm.ClassFile.FieldType), Jvm.Cond.code ({ cls := "com/example/parley/parley/floor/Conference", name := "<init>", desc := "(JLjava/util/Collection;Ljava/util/Collection;)V" } : Jvm.MethodName) prog_3_method_4_code (8 : Nat) (Option.none : Option Jvm.ClassFile.FieldType), Jvm.Cond.code ({ cls := "java/util/HashMap", name := "<init>", desc := "()V" } : Jvm.MethodName) jdk_69_method_7_code (1 : Nat) (Option.none : Option Jvm.ClassFile.FieldType), Jvm.Cond.code ({ cls := "java/util/AbstractMap", name := "<init>", desc := "()V" } : Jvm.MethodName) jdk_71_method_1_code (1 : Nat) (Option.none : Option Jvm.ClassFile.FieldType), Jvm.Cond.code ({ cls := "java/util/HashSet", name := "<init>", desc := "()V" } : Jvm.MethodName) jdk_93_method_1_code (1 : Nat) (Option.none : Option Jvm.ClassFile.FieldType), Jvm.Cond.code ({ cls := "java/util/AbstractSet", name := "<init>", desc := "()V" } : Jvm.MethodName) jdk_91_method_1_code (1 : Nat) (Option.none : Option Jvm.ClassFile.FieldType), Jvm.Cond.code ({ cls := "com/example/parley/parley/floor/Conference", name := "checkId", desc := "(J)J" } : Jvm.MethodName) prog_3_method_5_code (2 : Nat) (Option.some Jvm.ClassFile.FieldType.long), Jvm.Cond.code ({ cls := "java/util/ArrayList", name := "iterator", desc := "()Ljava/util/Iterator;" } : Jvm.MethodName) jdk_38_method_55_code (1 : Nat) (Option.some (Jvm.ClassFile.FieldType.object "java/util/Iterator")), Jvm.Cond.code ({ cls := "java/util/ArrayList$Itr", name := "<init>", desc := "(Ljava/util/ArrayList;)V" } : Jvm.MethodName) jdk_49_method_1_code (2 : Nat) (Option.none : Option Jvm.ClassFile.FieldType), Jvm.Cond.code ({ cls := "java/util/ArrayList$Itr", name := "hasNext", desc := "()Z" } : Jvm.MethodName) jdk_49_method_2_code (1 : Nat) (Option.some Jvm.ClassFile.FieldType.boolean), Jvm.Cond.code ({ cls := "com/example/parley/parley/floor/Conference", name := "hasFloor", desc := "(I)Z" } : Jvm.MethodName) prog_3_method_14_code (2 : Nat) (Option.some Jvm.ClassFile.FieldType.boolean), Jvm.Cond.code ({ cls := "com/example/parley/parley/floor/FloorSettings", name := "<init>", desc := "(I)V" } : Jvm.MethodName) prog_16_method_2_code (2 : Nat) (Option.none : Option Jvm.ClassFile.FieldType), Jvm.Cond.code ({ cls := "java/util/OptionalInt", name := "empty", desc := "()Ljava/util/OptionalInt;" } : Jvm.MethodName) jdk_2649_method_2_code (0 : Nat) (Option.some (Jvm.ClassFile.FieldType.object "java/util/OptionalInt")), Jvm.Cond.code ({ cls := "com/example/parley/parley/floor/FloorSettings", name := "<init>", desc := "(ILjava/util/OptionalInt;I)V" } : Jvm.MethodName) prog_16_method_1_code (4 : Nat) (Option.none : Option Jvm.ClassFile.FieldType), Jvm.Cond.code ({ cls := "java/lang/Record", name := "<init>", desc := "()V" } : Jvm.MethodName) jdk_30_method_1_code (1 : Nat) (Option.none : Option Jvm.ClassFile.FieldType), Jvm.Cond.code ({ cls := "com/example/parley/parley/floor/Conference", name := "checkSixteenBits", desc := "(ILjava/lang/String;)I" } : Jvm.MethodName) prog_3_method_12_code (2 : Nat) (Option.some Jvm.ClassFile.FieldType.int), Jvm.Cond.code ({ cls := "java/util/OptionalInt", name := "ifPresent", desc := "(Ljava/util/function/IntConsumer;)V" } : Jvm.MethodName) jdk_2649_method_8_code (2 : Nat) (Option.none : Option Jvm.ClassFile.FieldType), Jvm.Cond.code ({ cls := "com/example/parley/parley/floor/FloorSettings", name := "checkMaxRequestsPerUser", desc := "(I)I" } : Jvm.MethodName) prog_16_method_6_code (1 : Nat) (Option.some Jvm.ClassFile.FieldType.int), Jvm.Cond.code ({ cls := "java/util/ArrayList", name := "add", desc := "(Ljava/lang/Object;)Z" } : Jvm.MethodName) jdk_38_method_25_code (2 : Nat) (Option.some Jvm.ClassFile.FieldType.boolean), Jvm.Cond.code ({ cls := "java/util/ArrayList", name := "add", desc := "(Ljava/lang/Object;[Ljava/lang/Object;I)V" } : Jvm.MethodName) jdk_38_method_24_code (4 : Nat) (Option.none : Option Jvm.ClassFile.FieldType), Jvm.Cond.code ({ cls := "java/util/ArrayList", name := "grow", desc := "()[Ljava/lang/Object;" } : Jvm.MethodName) jdk_38_method_7_code (1 : Nat) (Option.some (Jvm.ClassFile.FieldType.array (Jvm.ClassFile.FieldType.object "java/lang/Object"))), Jvm.Cond.code ({ cls := "java/util/ArrayList", name := "grow", desc := "(I)[Ljava/lang/Object;" } : Jvm.MethodName) jdk_38_method_6_code (4 : Nat) (Option.some (Jvm.ClassFile.FieldType.array (Jvm.ClassFile.FieldType.object "java/lang/Object"))), Jvm.Cond.code ({ cls := "java/lang/Math", name := "max", desc := "(II)I" } : Jvm.MethodName) jdk_29_method_65_code (2 : Nat) (Option.some Jvm.ClassFile.FieldType.int), Jvm.Cond.code ({ cls := "java/util/ArrayList$Itr", name := "next", desc := "()Ljava/lang/Object;" } : Jvm.MethodName) jdk_49_method_3_code (3 : Nat) (Option.some (Jvm.ClassFile.FieldType.object "java/lang/Object")), Jvm.Cond.code ({ cls := "java/util/ArrayList$Itr", name := "checkForComodification", desc := "()V" } : Jvm.MethodName) jdk_49_method_6_code (1 : Nat) (Option.none : Option Jvm.ClassFile.FieldType), Jvm.Cond.code ({ cls := "com/example/parley/parley/floor/FloorSettings", name := "id", desc := "()I" } : Jvm.MethodName) prog_16_method_11_code (1 : Nat) (Option.some Jvm.ClassFile.FieldType.int), Jvm.Cond.code ({ cls := "com/example/parley/parley/floor/Conference$Floor", name := "<init>", desc := "(Lcom/example/parley/parley/floor/FloorSettings;)V" } : Jvm.MethodName) prog_6_method_1_code (2 : Nat) (Option.none : Option Jvm.ClassFile.FieldType), Jvm.Cond.code ({ cls := "com/example/parley/parley/floor/FloorSettings", name := "chair", desc := "()Ljava/util/OptionalInt;" } : Jvm.MethodName) prog_16_method_12_code (1 : Nat) (Option.some (Jvm.ClassFile.FieldType.object "java/util/OptionalInt")), Jvm.Cond.code ({ cls := "java/util/OptionalInt", name := "isPresent", desc := "()Z" } : Jvm.MethodName) jdk_2649_method_6_code (1 : Nat) (Option.some Jvm.ClassFile.FieldType.boolean)]
set_option maxRecDepth 65536 in
theorem codes_eq : words1.filter isCode = codes1 := rfl
theorem w_codes : ∀ c ∈ words1.filter isCode, c.before args0 about1 = true := by
  rw [codes_eq]
  intro c hc
  simp only [codes1, List.mem_cons, List.not_mem_nil, or_false] at hc
  rcases hc with rfl | rfl | rfl | rfl | rfl | rfl | rfl | rfl | rfl | rfl | rfl | rfl | rfl | rfl | rfl | rfl | rfl | rfl | rfl | rfl | rfl | rfl | rfl | rfl | rfl | rfl | rfl | rfl | rfl | rfl | rfl | rfl | rfl
  · exact w_c0
  · exact w_c1
  · exact w_c2
  · exact w_c3
  · exact w_c4
  · exact w_c5
  · exact w_c6
  · exact w_c7
  · exact w_c8
  · exact w_c9
  · exact w_c10
  · exact w_c11
  · exact w_c12
  · exact w_c13
  · exact w_c14
  · exact w_c15
  · exact w_c16
  · exact w_c17
  · exact w_c18
  · exact w_c19
  · exact w_c20
  · exact w_c21
  · exact w_c22
  · exact w_c23
  · exact w_c24
  · exact w_c25
  · exact w_c26
  · exact w_c27
  · exact w_c28
  · exact w_c29
  · exact w_c30
  · exact w_c31
  · exact w_c32
set_option maxRecDepth 65536 in
theorem w_t1 : (words1.take 24).all (fun c => isCode c || c.before args0 about1) = true := by decide +kernel
set_option maxRecDepth 65536 in
theorem w_t2 : ((words1.drop 24).take 24).all (fun c => isCode c || c.before args0 about1) = true := by decide +kernel
set_option maxRecDepth 65536 in
theorem w_t3 : (((words1.drop 24).drop 24).take 24).all (fun c => isCode c || c.before args0 about1) = true := by decide +kernel
set_option maxRecDepth 65536 in
theorem w_t4 : ((((words1.drop 24).drop 24).drop 24).take 24).all (fun c => isCode c || c.before args0 about1) = true := by decide +kernel
set_option maxRecDepth 65536 in
theorem w_t5 : (((((words1.drop 24).drop 24).drop 24).drop 24).take 24).all (fun c => isCode c || c.before args0 about1) = true := by decide +kernel
set_option maxRecDepth 65536 in
theorem w_t6 : ((((((words1.drop 24).drop 24).drop 24).drop 24).drop 24).take 24).all (fun c => isCode c || c.before args0 about1) = true := by decide +kernel
set_option maxRecDepth 65536 in
theorem w_t7 : (((((((words1.drop 24).drop 24).drop 24).drop 24).drop 24).drop 24).take 24).all (fun c => isCode c || c.before args0 about1) = true := by decide +kernel
set_option maxRecDepth 65536 in
theorem w_t8 : ((((((((words1.drop 24).drop 24).drop 24).drop 24).drop 24).drop 24).drop 24).take 24).all (fun c => isCode c || c.before args0 about1) = true := by decide +kernel
set_option maxRecDepth 65536 in
theorem w_t9 : (((((((((words1.drop 24).drop 24).drop 24).drop 24).drop 24).drop 24).drop 24).drop 24).take 24).all (fun c => isCode c || c.before args0 about1) = true := by decide +kernel
set_option maxRecDepth 65536 in
theorem w_t10 : ((((((((((words1.drop 24).drop 24).drop 24).drop 24).drop 24).drop 24).drop 24).drop 24).drop 24).take 24).all (fun c => isCode c || c.before args0 about1) = true := by decide +kernel
set_option maxRecDepth 65536 in
theorem w_t11 : (((((((((((words1.drop 24).drop 24).drop 24).drop 24).drop 24).drop 24).drop 24).drop 24).drop 24).drop 24).take 24).all (fun c => isCode c || c.before args0 about1) = true := by decide +kernel
set_option maxRecDepth 65536 in
theorem w_t12 : (((((((((((words1.drop 24).drop 24).drop 24).drop 24).drop 24).drop 24).drop 24).drop 24).drop 24).drop 24).drop 24).all (fun c => isCode c || c.before args0 about1) = true := by decide +kernel
theorem w_tables : (allAtoms (Jvm.Cond.code x code maxLocals ret :: tables_1)).before args0 about1 = true := by
  rw [allAtoms_all]
  show words1.all (fun c => c.before args0 about1) = true
  refine all_split ?_ w_codes
  rw [← List.take_append_drop 24 words1, List.all_append, w_t1, ← List.take_append_drop 24 (words1.drop 24), List.all_append, w_t2, ← List.take_append_drop 24 ((words1.drop 24).drop 24), List.all_append, w_t3, ← List.take_append_drop 24 (((words1.drop 24).drop 24).drop 24), List.all_append, w_t4, ← List.take_append_drop 24 ((((words1.drop 24).drop 24).drop 24).drop 24), List.all_append, w_t5, ← List.take_append_drop 24 (((((words1.drop 24).drop 24).drop 24).drop 24).drop 24), List.all_append, w_t6, ← List.take_append_drop 24 ((((((words1.drop 24).drop 24).drop 24).drop 24).drop 24).drop 24), List.all_append, w_t7, ← List.take_append_drop 24 (((((((words1.drop 24).drop 24).drop 24).drop 24).drop 24).drop 24).drop 24), List.all_append, w_t8, ← List.take_append_drop 24 ((((((((words1.drop 24).drop 24).drop 24).drop 24).drop 24).drop 24).drop 24).drop 24), List.all_append, w_t9, ← List.take_append_drop 24 (((((((((words1.drop 24).drop 24).drop 24).drop 24).drop 24).drop 24).drop 24).drop 24).drop 24), List.all_append, w_t10, ← List.take_append_drop 24 ((((((((((words1.drop 24).drop 24).drop 24).drop 24).drop 24).drop 24).drop 24).drop 24).drop 24).drop 24), List.all_append, w_t11, w_t12]
  rfl
set_option maxRecDepth 65536 in
theorem w_rest : rest_1_c.before args0 about1 = true := by decide +kernel
set_option maxRecDepth 65536 in
theorem w_case : (Jvm.Cond.and given_1 narrow_1).before args0 about1 = true := by decide +kernel
theorem w_applies : (headSpec (Jvm.Cond.code x code maxLocals ret :: tables_1) room_1).applies x e0.platform about1 = true :=
  (Spec.applies_iff w_frames).mpr ⟨w_running, w_runnable, w_alone, w_named, w_hears, w_ripe, w_room, w_tables⟩
theorem atStart : AtStart classFile x code maxLocals ret World_1 tables_1 room_1 Calls_1 rest_1 Pre_1 launch0 p0 e0 about1 theMethod args0 below0 :=
  ⟨lists_1, trivial, launch0.admits_env _ _ _, launch0.least_env, fairChoices_fair.cas, fairChoices_fair.clock, w_frames, w_args, w_heap, w_applies, trivial, w_rest, w_case⟩
end start1
theorem witness_1 : WitnessClaimed_1 := ⟨start1.p0, start1.e0, start1.about1, start1.theMethod, start1.args0, start1.below0, start1.atStart⟩
end Jvm.Pilot.@@N@@
