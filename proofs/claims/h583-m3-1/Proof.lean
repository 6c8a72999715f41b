import JvmDerived
import JvmDerived.Pilot.@@N@@Statement
import JvmDerived.Pilot.@@N@@Code
set_option linter.unusedVariables false
set_option linter.unusedSimpArgs false

namespace Jvm.Pilot.@@N@@
open Jvm Jvm.ClassFile Sem Op Lib Jvm.Free Jvm.Stand Jvm.LawKit Jvm.RoadKit Bundle Jvm.Pilot.@@N@@.Jvm.D
/-- a body that writes nothing and returns r -/
def own_Pure (r : Option Value) (h0 : Heap) (n0 : Nat) (v : Option Value) (h : Heap) (L : List Loc) : Prop := v = r ∧ Fr n0 L ∧ h = h0
theorem own_ext_refl (h : Heap) : Ext h h := ⟨Nat.le_refl _, fun _ _ q => q⟩
theorem own_ext_trans {h0 h h' : Heap} (A : Ext h0 h) (B : Ext h h') : Ext h0 h' := ⟨Nat.le_trans A.1 B.1, fun a c q => B.2 a c (A.2 a c q)⟩
theorem own_ext_keep {h0 h h' : Heap} {ws : List Addr} (A : Ext h0 h) (K : Keep h h' ws) (q : ∀ x ∈ ws, h0.size ≤ x) : Ext h0 h' :=
  ⟨Nat.le_trans A.1 K.1, fun a c r => K.2.1 a c (A.2 a c r) fun z => Nat.lt_irrefl _ (Nat.lt_of_lt_of_le (Array.getElem?_eq_some_iff.mp r).1 (q a z))⟩
theorem own_ext_wr {h0 h h' : Heap} {a : Addr} {sl : Nat} {v : Value} (A : Ext h0 h) (W : Wr h h' a sl v) (q : h0.size ≤ a) : Ext h0 h' := own_ext_keep A (Keep.of_wr W) (allS q all0)
/-- a law that may make cells -/
def own_Made (r : Option Value) (n0 : Nat) (v : Option Value) (h : Heap) (L : List Loc) : Prop := v = r ∧ Fr n0 L ∧ True
theorem own_fld_eq {args : Array Value} {Z : State} {t : Term} {a : Addr} {C n d : String} {k : Int32} (ht : t.eval args Z none [] Z = some (.ref a))
    (h : (Cond.eq (.field t C n d) (.int k)).value args Z none Z [] = some true) : Fld Z Z.heap a C n d (.int k) := by
  apply Fld.start
  have e1 : (Term.field t C n d).eval args Z none [] Z = Z.fieldOf? a C n d := fld_at ht
  rw [← e1]
  have e2 : (Term.int k).eval args Z none [] Z = some (.int k) := Term.int_eval k
  simp only [Cond.value] at h
  cases hx : (Term.field t C n d).eval args Z none [] Z with
  | none => simp [hx] at h
  | some v => cases v <;> simp [hx, e2] at h ⊢; exact h
theorem own_lc_ge {x y : Int64} (h : y.toInt ≤ x.toInt) : ¬ ((lcmpW x y) < (0 : Int32)) := by
  rw [lw_lt, Int64.lt_iff_toInt_lt]; omega
theorem own_lc_lt {x y : Int64} (h : x.toInt < y.toInt) : (lcmpW x y) < (0 : Int32) := by
  rw [lw_lt, Int64.lt_iff_toInt_lt]; omega
theorem own_lc_le {x y : Int64} (h : x.toInt ≤ y.toInt) : ¬ ((0 : Int32) < (lcmpW x y)) := by
  rw [lw_gt, Int64.lt_iff_toInt_lt]; omega
theorem own_lc_gt {x y : Int64} (h : y.toInt < x.toInt) : (0 : Int32) < (lcmpW x y) := by
  rw [lw_gt, Int64.lt_iff_toInt_lt]; omega
theorem own_lc_eq {x y : Int64} (h : x.toInt = y.toInt) : (lcmpW x y) = (0 : Int32) := by
  rw [lw_eq]; exact Int64.toInt_inj.mp h
theorem own_lc_ne {x y : Int64} (h : x.toInt ≠ y.toInt) : ¬ ((lcmpW x y) = (0 : Int32)) := by
  rw [lw_eq]; intro q; exact h (congrArg Int64.toInt q)
theorem own_lt_lc {x y : Int64} (h : (lcmpW x y) < (0 : Int32)) : x.toInt < y.toInt := by
  rw [lw_lt, Int64.lt_iff_toInt_lt] at h; exact h
theorem own_ge_lc {x y : Int64} (h : ¬ ((lcmpW x y) < (0 : Int32))) : y.toInt ≤ x.toInt := by
  rw [lw_lt, Int64.lt_iff_toInt_lt] at h; omega
theorem own_gt_lc {x y : Int64} (h : (0 : Int32) < (lcmpW x y)) : y.toInt < x.toInt := by
  rw [lw_gt, Int64.lt_iff_toInt_lt] at h; exact h
theorem own_le_lc {x y : Int64} (h : ¬ ((0 : Int32) < (lcmpW x y))) : x.toInt ≤ y.toInt := by
  rw [lw_gt, Int64.lt_iff_toInt_lt] at h; omega
theorem own_eq_lc {x y : Int64} (h : (lcmpW x y) = (0 : Int32)) : x.toInt = y.toInt := by
  rw [lw_eq] at h; rw [h]
theorem own_ne_lc {x y : Int64} (h : ¬ ((lcmpW x y) = (0 : Int32))) : x.toInt ≠ y.toInt := by
  rw [lw_eq] at h; exact fun q => h (Int64.toInt_inj.mp q)
theorem own_lrem {x y : Int64} (hx : 0 ≤ x.toInt) (hy : 0 < y.toInt) : 0 ≤ (x % y).toInt ∧ (x % y).toInt < y.toInt := by
  rw [Int64.toInt_mod]; exact ⟨Int.tmod_nonneg _ hx, Int.tmod_lt_of_pos _ hy⟩
theorem own_nz {x : Int64} (h : 1 ≤ x.toInt) : x ≠ 0 := fun q => by
  rw [q] at h; exact absurd h (by decide)
/-- what both sides answer, in plain numbers -/
def own_spec (v s : Int) (wN wT wM wL : Addr) : Value :=
  if v < 2 then .ref wN
  else if v - 1 ≤ 255 ∧ s + (1 + (v - 1)) ≤ 255 then .ref wT
  else if v - 1 ≤ 65535 ∧ s + (2 + (v - 1) * 2) ≤ 65535 then .ref wM
  else if v - 1 ≤ 65535 ∧ s + (2 + (v - 1) * 4) ≤ 4294967295 then .ref wL
  else .null
theorem own_spec_N {v s : Int} {wN wT wM wL : Addr} (h : v < 2) : own_spec v s wN wT wM wL = .ref wN := if_pos h
theorem own_spec_T {v s : Int} {wN wT wM wL : Addr} (h : ¬ v < 2) (h1 : v - 1 ≤ 255 ∧ s + (1 + (v - 1)) ≤ 255) : own_spec v s wN wT wM wL = .ref wT := (if_neg h).trans (if_pos h1)
theorem own_spec_M {v s : Int} {wN wT wM wL : Addr} (h : ¬ v < 2) (h1 : ¬ (v - 1 ≤ 255 ∧ s + (1 + (v - 1)) ≤ 255)) (h2 : v - 1 ≤ 65535 ∧ s + (2 + (v - 1) * 2) ≤ 65535) : own_spec v s wN wT wM wL = .ref wM := (if_neg h).trans ((if_neg h1).trans (if_pos h2))
theorem own_spec_L {v s : Int} {wN wT wM wL : Addr} (h : ¬ v < 2) (h1 : ¬ (v - 1 ≤ 255 ∧ s + (1 + (v - 1)) ≤ 255)) (h2 : ¬ (v - 1 ≤ 65535 ∧ s + (2 + (v - 1) * 2) ≤ 65535)) (h3 : v - 1 ≤ 65535 ∧ s + (2 + (v - 1) * 4) ≤ 4294967295) : own_spec v s wN wT wM wL = .ref wL := (if_neg h).trans ((if_neg h1).trans ((if_neg h2).trans (if_pos h3)))
theorem own_spec_0 {v s : Int} {wN wT wM wL : Addr} (h : ¬ v < 2) (h1 : ¬ (v - 1 ≤ 255 ∧ s + (1 + (v - 1)) ≤ 255)) (h2 : ¬ (v - 1 ≤ 65535 ∧ s + (2 + (v - 1) * 2) ≤ 65535)) (h3 : ¬ (v - 1 ≤ 65535 ∧ s + (2 + (v - 1) * 4) ≤ 4294967295)) : own_spec v s wN wT wM wL = .null := (if_neg h).trans ((if_neg h1).trans ((if_neg h2).trans (if_neg h3)))
theorem own_spec_two (v s : Int) (wN wT wM wL : Addr) : (∃ w, own_spec v s wN wT wM wL = .ref w) ∨ own_spec v s wN wT wM wL = .null := by
  by_cases h : v < 2
  · exact Or.inl ⟨_, own_spec_N h⟩
  by_cases h1 : v - 1 ≤ 255 ∧ s + (1 + (v - 1)) ≤ 255
  · exact Or.inl ⟨_, own_spec_T h h1⟩
  by_cases h2 : v - 1 ≤ 65535 ∧ s + (2 + (v - 1) * 2) ≤ 65535
  · exact Or.inl ⟨_, own_spec_M h h1 h2⟩
  by_cases h3 : v - 1 ≤ 65535 ∧ s + (2 + (v - 1) * 4) ≤ 4294967295
  · exact Or.inl ⟨_, own_spec_L h h1 h2 h3⟩
  · exact Or.inr (own_spec_0 h h1 h2 h3)
theorem own_elem {args : Array Value} {s : State} {t u : Term} {a : Addr} {cl : Cell} {ty : FieldType} {j : Int32} {v : Value} (ht : t.eval args s none [] s = some (.ref a)) (A : Arr s s.heap a cl ty)
    (hu : u.eval args s none [] s = some v) (h : (Cond.eq (.elem t (.int j)) u).value args s none s [] = some true) : cl.slots[j.toNatClampNeg]? = some v := by
  simp only [Cond.value] at h
  cases hx : (Term.elem t (.int j)).eval args s none [] s with
  | none => simp [hx] at h
  | some w =>
    have e := (elem_in hx ht (Term.int_eval j) A.1).2
    rw [e]
    cases w <;> cases v <;> simp [hx, hu] at h ⊢ <;> exact h
theorem own_len {args : Array Value} {s : State} {t : Term} {a : Addr} {cl : Cell} {ty : FieldType} {z : Int32} (ht : t.eval args s none [] s = some (.ref a)) (A : Arr s s.heap a cl ty)
    (h : (Cond.eq (.length t) (.int z)).value args s none s [] = some true) : cl.slots.size < 2 ^ 31 ∧ cl.slots.size.toInt32 = z := by
  have ha : s.arrayAt? a = some cl := Arr.fin (Vm.Alike.refl _) A
  by_cases hl : cl.slots.size < 2 ^ 31
  · refine ⟨hl, ?_⟩
    have e := len_f ht ha hl
    have e2 : (Term.int z).eval args s none [] s = some (.int z) := Term.int_eval z
    simpa [Cond.value, e, e2] using h
  · exfalso
    have e : (Term.length t).eval args s none [] s = none := by simp [Term.eval, ht, ha, hl]
    simp [Cond.value, e] at h
theorem own_arvL {args : Array Value} {s : State} {t : Term} {a : Addr} {cl : Cell} {ty : FieldType} {z : Int32} {vs : List Value} {dv : Value} (hf : Fit s) (ht : t.eval args s none [] s = some (.ref a)) (A : Arr s s.heap a cl ty)
    (hl : (Cond.eq (.length t) (.int z)).value args s none s [] = some true) (hz : ¬ z < 0) (hv : z.toNatClampNeg = vs.length) (H : HasL cl 0 vs) : Arv s s.heap a cl.cls ty z vs dv :=
  Arv.start hf A (own_len ht A hl).1 (own_len ht A hl).2 hz hv H
/-- what the case says of the pinned statics -/
def own_W (Z : State) (h : Heap) (w_TINY w_NONE w_MEDIUM w_LARGE : Addr) : Prop :=
  Sta Z h "com/example/rowstrata/rowstrata/row/VarTable" "TINY" "Lcom/example/rowstrata/rowstrata/row/VarTable;" (.ref w_TINY) ∧
  Exa Z h w_TINY "com/example/rowstrata/rowstrata/row/VarTable" ∧
  Fld Z h w_TINY "com/example/rowstrata/rowstrata/row/VarTable" "countBytes" "I" (.int (1 : Int32)) ∧
  Fld Z h w_TINY "java/lang/Enum" "ordinal" "I" (.int (1 : Int32)) ∧
  Fld Z h w_TINY "com/example/rowstrata/rowstrata/row/VarTable" "offsetBytes" "I" (.int (1 : Int32)) ∧
  Sta Z h "com/example/rowstrata/rowstrata/row/VarTable" "NONE" "Lcom/example/rowstrata/rowstrata/row/VarTable;" (.ref w_NONE) ∧
  Exa Z h w_NONE "com/example/rowstrata/rowstrata/row/VarTable" ∧
  Fld Z h w_NONE "java/lang/Enum" "ordinal" "I" (.int (0 : Int32)) ∧
  Fld Z h w_NONE "com/example/rowstrata/rowstrata/row/VarTable" "countBytes" "I" (.int (0 : Int32)) ∧
  Fld Z h w_NONE "com/example/rowstrata/rowstrata/row/VarTable" "offsetBytes" "I" (.int (0 : Int32)) ∧
  Sta Z h "com/example/rowstrata/rowstrata/row/VarTable" "MEDIUM" "Lcom/example/rowstrata/rowstrata/row/VarTable;" (.ref w_MEDIUM) ∧
  Exa Z h w_MEDIUM "com/example/rowstrata/rowstrata/row/VarTable" ∧
  Fld Z h w_MEDIUM "com/example/rowstrata/rowstrata/row/VarTable" "countBytes" "I" (.int (2 : Int32)) ∧
  Fld Z h w_MEDIUM "java/lang/Enum" "ordinal" "I" (.int (2 : Int32)) ∧
  Fld Z h w_MEDIUM "com/example/rowstrata/rowstrata/row/VarTable" "offsetBytes" "I" (.int (2 : Int32)) ∧
  Sta Z h "com/example/rowstrata/rowstrata/row/VarTable" "LARGE" "Lcom/example/rowstrata/rowstrata/row/VarTable;" (.ref w_LARGE) ∧
  Exa Z h w_LARGE "com/example/rowstrata/rowstrata/row/VarTable" ∧
  Fld Z h w_LARGE "com/example/rowstrata/rowstrata/row/VarTable" "countBytes" "I" (.int (2 : Int32)) ∧
  Fld Z h w_LARGE "java/lang/Enum" "ordinal" "I" (.int (3 : Int32)) ∧
  Fld Z h w_LARGE "com/example/rowstrata/rowstrata/row/VarTable" "offsetBytes" "I" (.int (4 : Int32))
theorem own_W.ext {Z : State} {h h' : Heap} {w_TINY w_NONE w_MEDIUM w_LARGE : Addr} (E : Ext h h') (H : own_W Z h w_TINY w_NONE w_MEDIUM w_LARGE) : own_W Z h' w_TINY w_NONE w_MEDIUM w_LARGE := by
  obtain ⟨S_TINY, E_TINY, F_TINY_countBytes, F_TINY_ordinal, F_TINY_offsetBytes, S_NONE, E_NONE, F_NONE_ordinal, F_NONE_countBytes, F_NONE_offsetBytes, S_MEDIUM, E_MEDIUM, F_MEDIUM_countBytes, F_MEDIUM_ordinal, F_MEDIUM_offsetBytes, S_LARGE, E_LARGE, F_LARGE_countBytes, F_LARGE_ordinal, F_LARGE_offsetBytes⟩ := H
  exact ⟨S_TINY.ext E, E_TINY.ext E, F_TINY_countBytes.ext E, F_TINY_ordinal.ext E, F_TINY_offsetBytes.ext E, S_NONE.ext E, E_NONE.ext E, F_NONE_ordinal.ext E, F_NONE_countBytes.ext E, F_NONE_offsetBytes.ext E, S_MEDIUM.ext E, E_MEDIUM.ext E, F_MEDIUM_countBytes.ext E, F_MEDIUM_ordinal.ext E, F_MEDIUM_offsetBytes.ext E, S_LARGE.ext E, E_LARGE.ext E, F_LARGE_countBytes.ext E, F_LARGE_ordinal.ext E, F_LARGE_offsetBytes.ext E⟩
theorem own_v1 (x : Int32) : -2147483649 ≤ ((x.toInt64) - (1 : Int64)).toInt ∧ ((x.toInt64) - (1 : Int64)).toInt ≤ 2147483646 := by
  have h1 := c_i2l x
  have h2 := rng32 x
  have h3 := c_lsub x.toInt64 (1 : Int64)
  have h4 : (1 : Int64).toInt = 1 := by decide
  have h5 := rng64 (x.toInt64 - (1 : Int64))
  omega
theorem own_mx {x : Int64} (h : x.toInt ≤ 2147483646) : 0 ≤ (if (lcmpW (0 : Int64) x) < (0 : Int32) then x else (0 : Int64)).toInt ∧ (if (lcmpW (0 : Int64) x) < (0 : Int32) then x else (0 : Int64)).toInt ≤ 2147483646 := by
  have h4 : (0 : Int64).toInt = 0 := by decide
  split
  · rename_i q; have := own_lt_lc q; omega
  · omega
theorem own_mx2 {x : Int64} (h : x.toInt ≤ 4294967303) : 0 ≤ (if (lcmpW (0 : Int64) x) < (0 : Int32) then x else (0 : Int64)).toInt ∧ (if (lcmpW (0 : Int64) x) < (0 : Int32) then x else (0 : Int64)).toInt ≤ 4611686018427387904 := by
  have h4 : (0 : Int64).toInt = 0 := by decide
  split
  · rename_i q; have := own_lt_lc q; omega
  · omega
theorem own_ush (x : Int64) : 0 ≤ ((x.toUInt64 >>> ((2 : Int32) &&& 0x3f).toInt64.toUInt64).toInt64).toInt ∧ ((x.toUInt64 >>> ((2 : Int32) &&& 0x3f).toInt64.toUInt64).toInt64).toInt ≤ 4611686018427387904 := by
  have h := c_lushr x (2 : Int32) 2 (by decide) (by decide)
  have h2 := rng64 x
  omega
theorem own_tb103 {n : Int64} (h1 : 0 ≤ n.toInt) (h2 : n.toInt ≤ 2147483646) : 0 ≤ ((1 : Int64) + n).toInt ∧ ((1 : Int64) + n).toInt ≤ 8589934590 := by
  have h3 := c_ladd (1 : Int64) n
  have h4 : (1 : Int64).toInt = 1 := by decide
  have h5 := rng64 ((1 : Int64) + n)
  omega
theorem own_tb122 {n : Int64} (h1 : 0 ≤ n.toInt) (h2 : n.toInt ≤ 2147483646) : 0 ≤ ((2 : Int64) + ((2 : Int64) * n)).toInt ∧ ((2 : Int64) + ((2 : Int64) * n)).toInt ≤ 8589934590 := by
  have h6 : (((2 : Int64) * n).toInt - (2 * n.toInt)) % 18446744073709551616 = 0 := c_lmul (2 : Int64) n
  have h7 := rng64 ((2 : Int64) * n)
  have h3 := c_ladd (2 : Int64) ((2 : Int64) * n)
  have h4 : (2 : Int64).toInt = 2 := by decide
  have h5 := rng64 ((2 : Int64) + ((2 : Int64) * n))
  omega
theorem own_tb135 {n : Int64} (h1 : 0 ≤ n.toInt) (h2 : n.toInt ≤ 2147483646) : 0 ≤ ((2 : Int64) + ((4 : Int64) * n)).toInt ∧ ((2 : Int64) + ((4 : Int64) * n)).toInt ≤ 8589934590 := by
  have h6 : (((4 : Int64) * n).toInt - (4 * n.toInt)) % 18446744073709551616 = 0 := c_lmul (4 : Int64) n
  have h7 := rng64 ((4 : Int64) * n)
  have h3 := c_ladd (2 : Int64) ((4 : Int64) * n)
  have h4 : (2 : Int64).toInt = 2 := by decide
  have h5 := rng64 ((2 : Int64) + ((4 : Int64) * n))
  omega
theorem own_xx {b t : Int64} {d : Int32} (hb : 0 ≤ b.toInt ∧ b.toInt ≤ 4294967295) (h1 : 0 ≤ t.toInt) (h2 : t.toInt ≤ 8589934590) : ((b - t) + ((d % (8 : Int32)).toInt64)).toInt ≤ 4294967303 := by
  have h3 := c_lsub b t
  have h4 := rng64 (b - t)
  have h5 := c_i2l (d % (8 : Int32))
  have h6 := c_irem d (8 : Int32) 8 (by decide)
  have h7 := c_ladd (b - t) ((d % (8 : Int32)).toInt64)
  have h8 := rng64 ((b - t) + ((d % (8 : Int32)).toInt64))
  have h9 := rng32 d
  omega
theorem d1_0 : decode jdk_29_method_66_code 0 = .ok (.lload_n 0, 1) := by decide +kernel
theorem d1_1 : decode jdk_29_method_66_code 1 = .ok (.lload_n 2, 1) := by decide +kernel
theorem d1_2 : decode jdk_29_method_66_code 2 = .ok (.lcmp, 1) := by decide +kernel
theorem d1_3 : decode jdk_29_method_66_code 3 = .ok (.ifCond .lt 7, 3) := by decide +kernel
theorem d1_10 : decode jdk_29_method_66_code 10 = .ok (.lload_n 2, 1) := by decide +kernel
theorem d1_11 : decode jdk_29_method_66_code 11 = .ok (.lreturn, 1) := by decide +kernel
theorem d1_6 : decode jdk_29_method_66_code 6 = .ok (.lload_n 0, 1) := by decide +kernel
theorem d1_7 : decode jdk_29_method_66_code 7 = .ok (.goto 4, 3) := by decide +kernel
theorem ef_rm_max (m : MethodId) (x0 : Int64) (x1 : Int64) : entryFrame m #[(.long x0), (.long x1)] 4 = mkF m 0 #[.val (.long x0), .second, .val (.long x1), .second] [] := by first | (simp [entryFrame, mkF, argsToLocals, Value.category]; done) | rfl
set_option maxRecDepth 65536 in
set_option maxHeartbeats 40000000 in
theorem rm_max (l : Launch) (Z : State) (a0 : Array Value) (hw : ∀ d ∈ tables_1, d.before a0 Z = true) (ws : List Jvm.Cond) (a : Int64) (b : Int64) (h0 : Heap) (n0 : Nat) (Z0 : n0 ≤ h0.size) (r : Int64) (hres : (if (lcmpW a b) < (0 : Int32) then b else a) = r) :
    MetFree l (⟨"java/lang/Math", "max", "(JJ)J"⟩ : MethodName) (head1 (Jvm.Cond.code (⟨"java/lang/Math", "max", "(JJ)J"⟩ : MethodName) jdk_29_method_66_code 4 (some .long) :: ws) ({ frames := 0, cells := 0, slots := 0, locals := 0 } : Room)) (fun aQ UQ => aQ = #[(.long a), (.long b)] ∧ Z.Warmed39 UQ.vm ∧ UQ.heap = h0) (fun _ _ _ _ _ => True) (fun _ UQ oQ UR => ∃ vQ LQ, oQ = .returned vQ ∧ own_Pure (some (.long r)) h0 n0 vQ UR.heap LQ ∧ FrameEnd UQ oQ UR LQ ({ frames := 0, cells := 0, slots := 0, locals := 0 } : Room).cells ({ frames := 0, cells := 0, slots := 0, locals := 0 } : Room).slots) := by
  refine MetFree.of_bodySF (Jvm.Free.JP.mathPlain rfl (by decide +kernel)) hisR ?_
  intro p e s m args below meth c s₁ Bd hml0 hP hK
  obtain ⟨rfl, hZ, hh⟩ := hP
  have hx := Bd.exec
  have hby := Bd.bytes
  have hml : c.maxLocals = 4 := hml0
  have hown : s.vm.findClass "java/lang/Math" = some m.cls := findClass_of_methodNamed Bd.named
  have hnm := (name_of_methodNamed Bd.named Bd.method).1
  have X0 : Stand p l e ({ frames := 0, cells := 0, slots := 0, locals := 0 } : Room) s m #[(.long a), (.long b)] below meth c s₁ [] 0 0 := Stand.of_body Bd
  have e0 : s₁.heap = h0 := by rw [← hh, Bd.state]; rfl
  have N0 := Fr.nil n0
  have pre0 : ∀ t, Steps p.tables e below (s₁.setTop (mkF m 0 #[.val (.long a), .second, .val (.long b), .second] [])) t → Steps p.tables e below (s₁.setTop (entryFrame m #[(.long a), (.long b)] 4)) t := fun t kq => castTop (ef_rm_max m a b) kq
  by_cases hc3_41 : (lcmpW a b) < (0 : Int32)
  · -- pc 3: (lcmpW a b) < (0 : Int32)
    obtain ⟨fs, hr, hrun, hended, hW, hsame⟩ := X0.leave (v := some (.long b)) (fun h => by rw [Bd.returns] at h; cases h)
    refine ⟨_, _, pre0 _ ?_, hrun, hended, _, _, rfl, ?_, ⟨_, rfl⟩, hW, hsame.mono (by decide) (by decide)⟩
    · show Steps p.tables e below (s₁.setTop (mkF m 0 #[.val (.long a), .second, .val (.long b), .second] [])) _
      refine XS.lloadN X0.here hx rfl (hb hby d1_0) rfl ?_
      show Steps p.tables e below (s₁.setTop (mkF m 1 #[.val (.long a), .second, .val (.long b), .second] [(.long a)])) _
      refine XS.lloadN X0.here hx rfl (hb hby d1_1) rfl ?_
      show Steps p.tables e below (s₁.setTop (mkF m 2 #[.val (.long a), .second, .val (.long b), .second] [(.long b), (.long a)])) _
      refine XS.lcmp X0.here hx rfl (hb hby d1_2) rfl ?_
      show Steps p.tables e below (s₁.setTop (mkF m 3 #[.val (.long a), .second, .val (.long b), .second] [(.int (lcmpW a b))])) _
      refine XS.ifYes X0.here hx rfl (pc0 := 3) (pc' := 10) rfl (hb hby d1_3) rfl ((if0 _ _).trans (tlt hc3_41).1) (by decide) (by decide) ?_
      show Steps p.tables e below (s₁.setTop (mkF m 10 #[.val (.long a), .second, .val (.long b), .second] [])) _
      refine XS.lloadN X0.here hx rfl (hb hby d1_10) rfl ?_
      show Steps p.tables e below (s₁.setTop (mkF m 11 #[.val (.long a), .second, .val (.long b), .second] [(.long b)])) _
      exact retOut X0 hx Bd.returns rfl (Or.inr (Or.inl ⟨rfl, rfl, _, rfl⟩)) (hb hby d1_11) hr
    · show own_Pure (some (.long r)) h0 n0 _ s₁.heap _
      rw [e0]
      exact ⟨by rw [← hres]; simp only [if_pos hc3_41], N0, rfl⟩
  · -- pc 3: not (lcmpW a b) < (0 : Int32)
    obtain ⟨fs, hr, hrun, hended, hW, hsame⟩ := X0.leave (v := some (.long a)) (fun h => by rw [Bd.returns] at h; cases h)
    refine ⟨_, _, pre0 _ ?_, hrun, hended, _, _, rfl, ?_, ⟨_, rfl⟩, hW, hsame.mono (by decide) (by decide)⟩
    · show Steps p.tables e below (s₁.setTop (mkF m 0 #[.val (.long a), .second, .val (.long b), .second] [])) _
      refine XS.lloadN X0.here hx rfl (hb hby d1_0) rfl ?_
      show Steps p.tables e below (s₁.setTop (mkF m 1 #[.val (.long a), .second, .val (.long b), .second] [(.long a)])) _
      refine XS.lloadN X0.here hx rfl (hb hby d1_1) rfl ?_
      show Steps p.tables e below (s₁.setTop (mkF m 2 #[.val (.long a), .second, .val (.long b), .second] [(.long b), (.long a)])) _
      refine XS.lcmp X0.here hx rfl (hb hby d1_2) rfl ?_
      show Steps p.tables e below (s₁.setTop (mkF m 3 #[.val (.long a), .second, .val (.long b), .second] [(.int (lcmpW a b))])) _
      refine XS.ifNo X0.here hx rfl (hb hby d1_3) rfl ((if0 _ _).trans (flt hc3_41).1) ?_
      show Steps p.tables e below (s₁.setTop (mkF m 6 #[.val (.long a), .second, .val (.long b), .second] [])) _
      refine XS.lloadN X0.here hx rfl (hb hby d1_6) rfl ?_
      show Steps p.tables e below (s₁.setTop (mkF m 7 #[.val (.long a), .second, .val (.long b), .second] [(.long a)])) _
      refine XS.goto X0.here hx rfl (pc0 := 7) (pc' := 11) rfl (hb hby d1_7) (by decide) (by decide) ?_
      show Steps p.tables e below (s₁.setTop (mkF m 11 #[.val (.long a), .second, .val (.long b), .second] [(.long a)])) _
      exact retOut X0 hx Bd.returns rfl (Or.inr (Or.inl ⟨rfl, rfl, _, rfl⟩)) (hb hby d1_11) hr
    · show own_Pure (some (.long r)) h0 n0 _ s₁.heap _
      rw [e0]
      exact ⟨by rw [← hres]; simp only [if_neg hc3_41], N0, rfl⟩
theorem d3_0 : decode prog_15_method_12_code 0 = .ok (.lconst 1, 1) := by decide +kernel
theorem d3_1 : decode prog_15_method_12_code 1 = .ok (.bipush 8, 2) := by decide +kernel
theorem d3_3 : decode prog_15_method_12_code 3 = .ok (.iload_n 0, 1) := by decide +kernel
theorem d3_4 : decode prog_15_method_12_code 4 = .ok (.imul, 1) := by decide +kernel
theorem d3_5 : decode prog_15_method_12_code 5 = .ok (.lshl, 1) := by decide +kernel
theorem d3_6 : decode prog_15_method_12_code 6 = .ok (.lconst 1, 1) := by decide +kernel
theorem d3_7 : decode prog_15_method_12_code 7 = .ok (.lsub, 1) := by decide +kernel
theorem d3_8 : decode prog_15_method_12_code 8 = .ok (.lreturn, 1) := by decide +kernel
theorem pn_16 : plainName "com/example/rowstrata/rowstrata/row/VarTable" = true := by first | (simp [plainName, overriddenIn]; done) | decide +kernel
theorem ef_rm_vmax1 (m : MethodId)  : entryFrame m #[(.int (1 : Int32))] 1 = mkF m 0 #[.val (.int (1 : Int32))] [] := by first | (simp [entryFrame, mkF, argsToLocals, Value.category]; done) | rfl
set_option maxRecDepth 65536 in
set_option maxHeartbeats 40000000 in
theorem rm_vmax1 (l : Launch) (Z : State) (a0 : Array Value) (hw : ∀ d ∈ tables_1, d.before a0 Z = true) (ws : List Jvm.Cond)  (h0 : Heap) (n0 : Nat) (Z0 : n0 ≤ h0.size)  :
    MetFree l (⟨"com/example/rowstrata/rowstrata/row/VarTable", "max", "(I)J"⟩ : MethodName) (head1 (Jvm.Cond.code (⟨"com/example/rowstrata/rowstrata/row/VarTable", "max", "(I)J"⟩ : MethodName) prog_15_method_12_code 1 (some .long) :: ws) ({ frames := 0, cells := 0, slots := 0, locals := 0 } : Room)) (fun aQ UQ => aQ = #[(.int (1 : Int32))] ∧ Z.Warmed39 UQ.vm ∧ UQ.heap = h0) (fun _ _ _ _ _ => True) (fun _ UQ oQ UR => ∃ vQ LQ, oQ = .returned vQ ∧ own_Pure (some (.long (255 : Int64))) h0 n0 vQ UR.heap LQ ∧ FrameEnd UQ oQ UR LQ ({ frames := 0, cells := 0, slots := 0, locals := 0 } : Room).cells ({ frames := 0, cells := 0, slots := 0, locals := 0 } : Room).slots) := by
  refine MetFree.of_bodySF (plainFor_of_name pn_16) hisR ?_
  intro p e s m args below meth c s₁ Bd hml0 hP hK
  obtain ⟨rfl, hZ, hh⟩ := hP
  have hx := Bd.exec
  have hby := Bd.bytes
  have hml : c.maxLocals = 1 := hml0
  have hown : s.vm.findClass "com/example/rowstrata/rowstrata/row/VarTable" = some m.cls := findClass_of_methodNamed Bd.named
  have hnm := (name_of_methodNamed Bd.named Bd.method).1
  have X0 : Stand p l e ({ frames := 0, cells := 0, slots := 0, locals := 0 } : Room) s m #[(.int (1 : Int32))] below meth c s₁ [] 0 0 := Stand.of_body Bd
  have e0 : s₁.heap = h0 := by rw [← hh, Bd.state]; rfl
  have N0 := Fr.nil n0
  have pre0 : ∀ t, Steps p.tables e below (s₁.setTop (mkF m 0 #[.val (.int (1 : Int32))] [])) t → Steps p.tables e below (s₁.setTop (entryFrame m #[(.int (1 : Int32))] 1)) t := fun t kq => castTop (ef_rm_vmax1 m ) kq
  obtain ⟨fs, hr, hrun, hended, hW, hsame⟩ := X0.leave (v := some (.long (255 : Int64))) (fun h => by rw [Bd.returns] at h; cases h)
  refine ⟨_, _, pre0 _ ?_, hrun, hended, _, _, rfl, ?_, ⟨_, rfl⟩, hW, hsame.mono (by decide) (by decide)⟩
  · show Steps p.tables e below (s₁.setTop (mkF m 0 #[.val (.int (1 : Int32))] [])) _
    refine XS.lconst X0.here hx rfl (hb hby d3_0) ?_
    show Steps p.tables e below (s₁.setTop (mkF m 1 #[.val (.int (1 : Int32))] [(.long (1 : Int64))])) _
    refine XS.bipush X0.here hx rfl (hb hby d3_1) ?_
    show Steps p.tables e below (s₁.setTop (mkF m 3 #[.val (.int (1 : Int32))] [(.int (8 : Int32)), (.long (1 : Int64))])) _
    refine XS.iloadN X0.here hx rfl (hb hby d3_3) rfl ?_
    show Steps p.tables e below (s₁.setTop (mkF m 4 #[.val (.int (1 : Int32))] [(.int (1 : Int32)), (.int (8 : Int32)), (.long (1 : Int64))])) _
    refine XS.imul X0.here hx rfl (hb hby d3_4) rfl ?_
    show Steps p.tables e below (s₁.setTop (mkF m 5 #[.val (.int (1 : Int32))] [(.int (8 : Int32)), (.long (1 : Int64))])) _
    refine XS.lshl X0.here hx rfl (hb hby d3_5) rfl ?_
    show Steps p.tables e below (s₁.setTop (mkF m 6 #[.val (.int (1 : Int32))] [(.long ((1 : Int64) <<< ((8 : Int32) &&& 0x3f).toInt64))])) _
    rw [(by decide : ((1 : Int64) <<< ((8 : Int32) &&& 0x3f).toInt64) = (256 : Int64))]
    show Steps p.tables e below (s₁.setTop (mkF m 6 #[.val (.int (1 : Int32))] [(.long (256 : Int64))])) _
    refine XS.lconst X0.here hx rfl (hb hby d3_6) ?_
    show Steps p.tables e below (s₁.setTop (mkF m 7 #[.val (.int (1 : Int32))] [(.long (1 : Int64)), (.long (256 : Int64))])) _
    refine XS.lsub X0.here hx rfl (hb hby d3_7) rfl ?_
    show Steps p.tables e below (s₁.setTop (mkF m 8 #[.val (.int (1 : Int32))] [(.long (255 : Int64))])) _
    exact retOut X0 hx Bd.returns rfl (Or.inr (Or.inl ⟨rfl, rfl, _, rfl⟩)) (hb hby d3_8) hr
  · show own_Pure (some (.long (255 : Int64))) h0 n0 _ s₁.heap _
    rw [e0]
    exact ⟨rfl, N0, rfl⟩
theorem ef_rm_vmax2 (m : MethodId)  : entryFrame m #[(.int (2 : Int32))] 1 = mkF m 0 #[.val (.int (2 : Int32))] [] := by first | (simp [entryFrame, mkF, argsToLocals, Value.category]; done) | rfl
set_option maxRecDepth 65536 in
set_option maxHeartbeats 40000000 in
theorem rm_vmax2 (l : Launch) (Z : State) (a0 : Array Value) (hw : ∀ d ∈ tables_1, d.before a0 Z = true) (ws : List Jvm.Cond)  (h0 : Heap) (n0 : Nat) (Z0 : n0 ≤ h0.size)  :
    MetFree l (⟨"com/example/rowstrata/rowstrata/row/VarTable", "max", "(I)J"⟩ : MethodName) (head1 (Jvm.Cond.code (⟨"com/example/rowstrata/rowstrata/row/VarTable", "max", "(I)J"⟩ : MethodName) prog_15_method_12_code 1 (some .long) :: ws) ({ frames := 0, cells := 0, slots := 0, locals := 0 } : Room)) (fun aQ UQ => aQ = #[(.int (2 : Int32))] ∧ Z.Warmed39 UQ.vm ∧ UQ.heap = h0) (fun _ _ _ _ _ => True) (fun _ UQ oQ UR => ∃ vQ LQ, oQ = .returned vQ ∧ own_Pure (some (.long (65535 : Int64))) h0 n0 vQ UR.heap LQ ∧ FrameEnd UQ oQ UR LQ ({ frames := 0, cells := 0, slots := 0, locals := 0 } : Room).cells ({ frames := 0, cells := 0, slots := 0, locals := 0 } : Room).slots) := by
  refine MetFree.of_bodySF (plainFor_of_name pn_16) hisR ?_
  intro p e s m args below meth c s₁ Bd hml0 hP hK
  obtain ⟨rfl, hZ, hh⟩ := hP
  have hx := Bd.exec
  have hby := Bd.bytes
  have hml : c.maxLocals = 1 := hml0
  have hown : s.vm.findClass "com/example/rowstrata/rowstrata/row/VarTable" = some m.cls := findClass_of_methodNamed Bd.named
  have hnm := (name_of_methodNamed Bd.named Bd.method).1
  have X0 : Stand p l e ({ frames := 0, cells := 0, slots := 0, locals := 0 } : Room) s m #[(.int (2 : Int32))] below meth c s₁ [] 0 0 := Stand.of_body Bd
  have e0 : s₁.heap = h0 := by rw [← hh, Bd.state]; rfl
  have N0 := Fr.nil n0
  have pre0 : ∀ t, Steps p.tables e below (s₁.setTop (mkF m 0 #[.val (.int (2 : Int32))] [])) t → Steps p.tables e below (s₁.setTop (entryFrame m #[(.int (2 : Int32))] 1)) t := fun t kq => castTop (ef_rm_vmax2 m ) kq
  obtain ⟨fs, hr, hrun, hended, hW, hsame⟩ := X0.leave (v := some (.long (65535 : Int64))) (fun h => by rw [Bd.returns] at h; cases h)
  refine ⟨_, _, pre0 _ ?_, hrun, hended, _, _, rfl, ?_, ⟨_, rfl⟩, hW, hsame.mono (by decide) (by decide)⟩
  · show Steps p.tables e below (s₁.setTop (mkF m 0 #[.val (.int (2 : Int32))] [])) _
    refine XS.lconst X0.here hx rfl (hb hby d3_0) ?_
    show Steps p.tables e below (s₁.setTop (mkF m 1 #[.val (.int (2 : Int32))] [(.long (1 : Int64))])) _
    refine XS.bipush X0.here hx rfl (hb hby d3_1) ?_
    show Steps p.tables e below (s₁.setTop (mkF m 3 #[.val (.int (2 : Int32))] [(.int (8 : Int32)), (.long (1 : Int64))])) _
    refine XS.iloadN X0.here hx rfl (hb hby d3_3) rfl ?_
    show Steps p.tables e below (s₁.setTop (mkF m 4 #[.val (.int (2 : Int32))] [(.int (2 : Int32)), (.int (8 : Int32)), (.long (1 : Int64))])) _
    refine XS.imul X0.here hx rfl (hb hby d3_4) rfl ?_
    show Steps p.tables e below (s₁.setTop (mkF m 5 #[.val (.int (2 : Int32))] [(.int (16 : Int32)), (.long (1 : Int64))])) _
    refine XS.lshl X0.here hx rfl (hb hby d3_5) rfl ?_
    show Steps p.tables e below (s₁.setTop (mkF m 6 #[.val (.int (2 : Int32))] [(.long ((1 : Int64) <<< ((16 : Int32) &&& 0x3f).toInt64))])) _
    rw [(by decide : ((1 : Int64) <<< ((16 : Int32) &&& 0x3f).toInt64) = (65536 : Int64))]
    show Steps p.tables e below (s₁.setTop (mkF m 6 #[.val (.int (2 : Int32))] [(.long (65536 : Int64))])) _
    refine XS.lconst X0.here hx rfl (hb hby d3_6) ?_
    show Steps p.tables e below (s₁.setTop (mkF m 7 #[.val (.int (2 : Int32))] [(.long (1 : Int64)), (.long (65536 : Int64))])) _
    refine XS.lsub X0.here hx rfl (hb hby d3_7) rfl ?_
    show Steps p.tables e below (s₁.setTop (mkF m 8 #[.val (.int (2 : Int32))] [(.long (65535 : Int64))])) _
    exact retOut X0 hx Bd.returns rfl (Or.inr (Or.inl ⟨rfl, rfl, _, rfl⟩)) (hb hby d3_8) hr
  · show own_Pure (some (.long (65535 : Int64))) h0 n0 _ s₁.heap _
    rw [e0]
    exact ⟨rfl, N0, rfl⟩
theorem ef_rm_vmax4 (m : MethodId)  : entryFrame m #[(.int (4 : Int32))] 1 = mkF m 0 #[.val (.int (4 : Int32))] [] := by first | (simp [entryFrame, mkF, argsToLocals, Value.category]; done) | rfl
set_option maxRecDepth 65536 in
set_option maxHeartbeats 40000000 in
theorem rm_vmax4 (l : Launch) (Z : State) (a0 : Array Value) (hw : ∀ d ∈ tables_1, d.before a0 Z = true) (ws : List Jvm.Cond)  (h0 : Heap) (n0 : Nat) (Z0 : n0 ≤ h0.size)  :
    MetFree l (⟨"com/example/rowstrata/rowstrata/row/VarTable", "max", "(I)J"⟩ : MethodName) (head1 (Jvm.Cond.code (⟨"com/example/rowstrata/rowstrata/row/VarTable", "max", "(I)J"⟩ : MethodName) prog_15_method_12_code 1 (some .long) :: ws) ({ frames := 0, cells := 0, slots := 0, locals := 0 } : Room)) (fun aQ UQ => aQ = #[(.int (4 : Int32))] ∧ Z.Warmed39 UQ.vm ∧ UQ.heap = h0) (fun _ _ _ _ _ => True) (fun _ UQ oQ UR => ∃ vQ LQ, oQ = .returned vQ ∧ own_Pure (some (.long (4294967295 : Int64))) h0 n0 vQ UR.heap LQ ∧ FrameEnd UQ oQ UR LQ ({ frames := 0, cells := 0, slots := 0, locals := 0 } : Room).cells ({ frames := 0, cells := 0, slots := 0, locals := 0 } : Room).slots) := by
  refine MetFree.of_bodySF (plainFor_of_name pn_16) hisR ?_
  intro p e s m args below meth c s₁ Bd hml0 hP hK
  obtain ⟨rfl, hZ, hh⟩ := hP
  have hx := Bd.exec
  have hby := Bd.bytes
  have hml : c.maxLocals = 1 := hml0
  have hown : s.vm.findClass "com/example/rowstrata/rowstrata/row/VarTable" = some m.cls := findClass_of_methodNamed Bd.named
  have hnm := (name_of_methodNamed Bd.named Bd.method).1
  have X0 : Stand p l e ({ frames := 0, cells := 0, slots := 0, locals := 0 } : Room) s m #[(.int (4 : Int32))] below meth c s₁ [] 0 0 := Stand.of_body Bd
  have e0 : s₁.heap = h0 := by rw [← hh, Bd.state]; rfl
  have N0 := Fr.nil n0
  have pre0 : ∀ t, Steps p.tables e below (s₁.setTop (mkF m 0 #[.val (.int (4 : Int32))] [])) t → Steps p.tables e below (s₁.setTop (entryFrame m #[(.int (4 : Int32))] 1)) t := fun t kq => castTop (ef_rm_vmax4 m ) kq
  obtain ⟨fs, hr, hrun, hended, hW, hsame⟩ := X0.leave (v := some (.long (4294967295 : Int64))) (fun h => by rw [Bd.returns] at h; cases h)
  refine ⟨_, _, pre0 _ ?_, hrun, hended, _, _, rfl, ?_, ⟨_, rfl⟩, hW, hsame.mono (by decide) (by decide)⟩
  · show Steps p.tables e below (s₁.setTop (mkF m 0 #[.val (.int (4 : Int32))] [])) _
    refine XS.lconst X0.here hx rfl (hb hby d3_0) ?_
    show Steps p.tables e below (s₁.setTop (mkF m 1 #[.val (.int (4 : Int32))] [(.long (1 : Int64))])) _
    refine XS.bipush X0.here hx rfl (hb hby d3_1) ?_
    show Steps p.tables e below (s₁.setTop (mkF m 3 #[.val (.int (4 : Int32))] [(.int (8 : Int32)), (.long (1 : Int64))])) _
    refine XS.iloadN X0.here hx rfl (hb hby d3_3) rfl ?_
    show Steps p.tables e below (s₁.setTop (mkF m 4 #[.val (.int (4 : Int32))] [(.int (4 : Int32)), (.int (8 : Int32)), (.long (1 : Int64))])) _
    refine XS.imul X0.here hx rfl (hb hby d3_4) rfl ?_
    show Steps p.tables e below (s₁.setTop (mkF m 5 #[.val (.int (4 : Int32))] [(.int (32 : Int32)), (.long (1 : Int64))])) _
    refine XS.lshl X0.here hx rfl (hb hby d3_5) rfl ?_
    show Steps p.tables e below (s₁.setTop (mkF m 6 #[.val (.int (4 : Int32))] [(.long ((1 : Int64) <<< ((32 : Int32) &&& 0x3f).toInt64))])) _
    rw [(by decide : ((1 : Int64) <<< ((32 : Int32) &&& 0x3f).toInt64) = (4294967296 : Int64))]
    show Steps p.tables e below (s₁.setTop (mkF m 6 #[.val (.int (4 : Int32))] [(.long (4294967296 : Int64))])) _
    refine XS.lconst X0.here hx rfl (hb hby d3_6) ?_
    show Steps p.tables e below (s₁.setTop (mkF m 7 #[.val (.int (4 : Int32))] [(.long (1 : Int64)), (.long (4294967296 : Int64))])) _
    refine XS.lsub X0.here hx rfl (hb hby d3_7) rfl ?_
    show Steps p.tables e below (s₁.setTop (mkF m 8 #[.val (.int (4 : Int32))] [(.long (4294967295 : Int64))])) _
    exact retOut X0 hx Bd.returns rfl (Or.inr (Or.inl ⟨rfl, rfl, _, rfl⟩)) (hb hby d3_8) hr
  · show own_Pure (some (.long (4294967295 : Int64))) h0 n0 _ s₁.heap _
    rw [e0]
    exact ⟨rfl, N0, rfl⟩
theorem d4_0 : decode prog_15_method_7_code 0 = .ok (.aload_n 0, 1) := by decide +kernel
theorem d4_1 : decode prog_15_method_7_code 1 = .ok (.getstatic 3, 3) := by decide +kernel
theorem d4_4 : decode prog_15_method_7_code 4 = .ok (.if_acmp .ne 7, 3) := by decide +kernel
theorem d4_11 : decode prog_15_method_7_code 11 = .ok (.aload_n 0, 1) := by decide +kernel
theorem d4_12 : decode prog_15_method_7_code 12 = .ok (.getfield 35, 3) := by decide +kernel
theorem d4_15 : decode prog_15_method_7_code 15 = .ok (.iload_n 1, 1) := by decide +kernel
theorem d4_16 : decode prog_15_method_7_code 16 = .ok (.iconst 1, 1) := by decide +kernel
theorem d4_17 : decode prog_15_method_7_code 17 = .ok (.isub, 1) := by decide +kernel
theorem d4_18 : decode prog_15_method_7_code 18 = .ok (.aload_n 0, 1) := by decide +kernel
theorem d4_19 : decode prog_15_method_7_code 19 = .ok (.getfield 39, 3) := by decide +kernel
theorem d4_22 : decode prog_15_method_7_code 22 = .ok (.imul, 1) := by decide +kernel
theorem d4_23 : decode prog_15_method_7_code 23 = .ok (.iadd, 1) := by decide +kernel
theorem d4_24 : decode prog_15_method_7_code 24 = .ok (.ireturn, 1) := by decide +kernel
theorem ef_rm_size_TINY (m : MethodId) (x0 : Addr) (x1 : Int32) : entryFrame m #[(.ref x0), (.int x1)] 2 = mkF m 0 #[.val (.ref x0), .val (.int x1)] [] := by first | (simp [entryFrame, mkF, argsToLocals, Value.category]; done) | rfl
set_option maxRecDepth 65536 in
set_option maxHeartbeats 40000000 in
theorem rm_size_TINY (l : Launch) (Z : State) (a0 : Array Value) (hw : ∀ d ∈ tables_1, d.before a0 Z = true) (ws : List Jvm.Cond) (w_TINY : Addr) (n : Int32) (h0 : Heap) (n0 : Nat) (Z0 : n0 ≤ h0.size) (w_NONE w_MEDIUM w_LARGE : Addr) (hWd : own_W Z h0 w_TINY w_NONE w_MEDIUM w_LARGE) :
    MetFree l (⟨"com/example/rowstrata/rowstrata/row/VarTable", "size", "(I)I"⟩ : MethodName) (head1 (Jvm.Cond.code (⟨"com/example/rowstrata/rowstrata/row/VarTable", "size", "(I)I"⟩ : MethodName) prog_15_method_7_code 2 (some .int) :: ws) ({ frames := 0, cells := 0, slots := 0, locals := 0 } : Room)) (fun aQ UQ => aQ = #[(.ref w_TINY), (.int n)] ∧ Z.Warmed39 UQ.vm ∧ UQ.heap = h0) (fun _ _ _ _ _ => True) (fun _ UQ oQ UR => ∃ vQ LQ, oQ = .returned vQ ∧ own_Pure (some (.int ((1 : Int32) + ((n - (1 : Int32)) * (1 : Int32))))) h0 n0 vQ UR.heap LQ ∧ FrameEnd UQ oQ UR LQ ({ frames := 0, cells := 0, slots := 0, locals := 0 } : Room).cells ({ frames := 0, cells := 0, slots := 0, locals := 0 } : Room).slots) := by
  refine MetFree.of_bodySF (plainFor_of_name pn_16) hisR ?_
  intro p e s m args below meth c s₁ Bd hml0 hP hK
  obtain ⟨rfl, hZ, hh⟩ := hP
  have hx := Bd.exec
  have hby := Bd.bytes
  have hml : c.maxLocals = 2 := hml0
  have hown : s.vm.findClass "com/example/rowstrata/rowstrata/row/VarTable" = some m.cls := findClass_of_methodNamed Bd.named
  have hnm := (name_of_methodNamed Bd.named Bd.method).1
  have X0 : Stand p l e ({ frames := 0, cells := 0, slots := 0, locals := 0 } : Room) s m #[(.ref w_TINY), (.int n)] below meth c s₁ [] 0 0 := Stand.of_body Bd
  have e0 : s₁.heap = h0 := by rw [← hh, Bd.state]; rfl
  have N0 := Fr.nil n0
  have pre0 : ∀ t, Steps p.tables e below (s₁.setTop (mkF m 0 #[.val (.ref w_TINY), .val (.int n)] [])) t → Steps p.tables e below (s₁.setTop (entryFrame m #[(.ref w_TINY), (.int n)] 2)) t := fun t kq => castTop (ef_rm_size_TINY m w_TINY n) kq
  obtain ⟨S_TINY, E_TINY, F_TINY_countBytes, F_TINY_ordinal, F_TINY_offsetBytes, S_NONE, E_NONE, F_NONE_ordinal, F_NONE_countBytes, F_NONE_offsetBytes, S_MEDIUM, E_MEDIUM, F_MEDIUM_countBytes, F_MEDIUM_ordinal, F_MEDIUM_offsetBytes, S_LARGE, E_LARGE, F_LARGE_countBytes, F_LARGE_ordinal, F_LARGE_offsetBytes⟩ := hWd
  obtain ⟨T42, X42, e42, st42⟩ := getS2 X0 hx hZ hown (host := "") (Or.inl (hw _ (List.mem_of_getElem? (i := 21) rfl))) Via.refl e0 S_NONE (g := (mkF m 1 #[.val (.ref w_TINY), .val (.int n)] [(.ref w_TINY)])) rfl (hb hby d4_1)
  obtain ⟨T43, X43, e43, st43⟩ := getF X42 hx hZ hown (host := "") (Or.inl (hw _ (List.mem_of_getElem? (i := 11) rfl))) Via.refl e42 F_TINY_countBytes (g := (mkF m 12 #[.val (.ref w_TINY), .val (.int n)] [(.ref w_TINY)])) rfl rfl (hb hby d4_12)
  obtain ⟨T44, X44, e44, st44⟩ := getF X43 hx hZ hown (host := "") (Or.inl (hw _ (List.mem_of_getElem? (i := 23) rfl))) Via.refl e43 F_TINY_offsetBytes (g := (mkF m 19 #[.val (.ref w_TINY), .val (.int n)] [(.ref w_TINY), (.int (n - (1 : Int32))), (.int (1 : Int32))])) rfl rfl (hb hby d4_19)
  obtain ⟨fs, hr, hrun, hended, hW, hsame⟩ := X44.leave (v := some (.int ((1 : Int32) + ((n - (1 : Int32)) * (1 : Int32))))) (fun h => by rw [Bd.returns] at h; cases h)
  refine ⟨_, _, pre0 _ ?_, hrun, hended, _, _, rfl, ?_, ⟨_, rfl⟩, hW, hsame.mono (by decide) (by decide)⟩
  · show Steps p.tables e below (s₁.setTop (mkF m 0 #[.val (.ref w_TINY), .val (.int n)] [])) _
    refine XS.aloadN X0.here hx rfl (hb hby d4_0) rfl rfl ?_
    show Steps p.tables e below (s₁.setTop (mkF m 1 #[.val (.ref w_TINY), .val (.int n)] [(.ref w_TINY)])) _
    refine st42 _ ?_
    show Steps p.tables e below (T42.setTop (mkF m 4 #[.val (.ref w_TINY), .val (.int n)] [(.ref w_NONE), (.ref w_TINY)])) _
    refine Jvm.RoadKit.acmp (g := (mkF m 4 #[.val (.ref w_TINY), .val (.int n)] [(.ref w_NONE), (.ref w_TINY)])) X42 hx rfl rfl rfl (pc0 := 4) (pc' := 11) (same := false) rfl (hb hby d4_4) rfl (decide_eq_false fun q => (F_TINY_countBytes.ne F_NONE_countBytes (by decide)) (Value.ref.inj q)) (by decide) (by decide) ?_
    show Steps p.tables e below (T42.setTop (mkF m 11 #[.val (.ref w_TINY), .val (.int n)] [])) _
    refine XS.aloadN X42.here hx rfl (hb hby d4_11) rfl rfl ?_
    show Steps p.tables e below (T42.setTop (mkF m 12 #[.val (.ref w_TINY), .val (.int n)] [(.ref w_TINY)])) _
    refine st43 _ ?_
    show Steps p.tables e below (T43.setTop (mkF m 15 #[.val (.ref w_TINY), .val (.int n)] [(.int (1 : Int32))])) _
    refine XS.iloadN X43.here hx rfl (hb hby d4_15) rfl ?_
    show Steps p.tables e below (T43.setTop (mkF m 16 #[.val (.ref w_TINY), .val (.int n)] [(.int n), (.int (1 : Int32))])) _
    refine XS.iconst X43.here hx rfl (hb hby d4_16) ?_
    show Steps p.tables e below (T43.setTop (mkF m 17 #[.val (.ref w_TINY), .val (.int n)] [(.int (1 : Int32)), (.int n), (.int (1 : Int32))])) _
    refine XS.isub X43.here hx rfl (hb hby d4_17) rfl ?_
    show Steps p.tables e below (T43.setTop (mkF m 18 #[.val (.ref w_TINY), .val (.int n)] [(.int (n - (1 : Int32))), (.int (1 : Int32))])) _
    refine XS.aloadN X43.here hx rfl (hb hby d4_18) rfl rfl ?_
    show Steps p.tables e below (T43.setTop (mkF m 19 #[.val (.ref w_TINY), .val (.int n)] [(.ref w_TINY), (.int (n - (1 : Int32))), (.int (1 : Int32))])) _
    refine st44 _ ?_
    show Steps p.tables e below (T44.setTop (mkF m 22 #[.val (.ref w_TINY), .val (.int n)] [(.int (1 : Int32)), (.int (n - (1 : Int32))), (.int (1 : Int32))])) _
    refine XS.imul X44.here hx rfl (hb hby d4_22) rfl ?_
    show Steps p.tables e below (T44.setTop (mkF m 23 #[.val (.ref w_TINY), .val (.int n)] [(.int ((n - (1 : Int32)) * (1 : Int32))), (.int (1 : Int32))])) _
    refine XS.iadd X44.here hx rfl (hb hby d4_23) rfl ?_
    show Steps p.tables e below (T44.setTop (mkF m 24 #[.val (.ref w_TINY), .val (.int n)] [(.int ((1 : Int32) + ((n - (1 : Int32)) * (1 : Int32))))])) _
    exact retOut X44 hx Bd.returns rfl (Or.inl ⟨rfl, Or.inl rfl, _, rfl⟩) (hb hby d4_24) hr
  · show own_Pure (some (.int ((1 : Int32) + ((n - (1 : Int32)) * (1 : Int32))))) h0 n0 _ T44.heap _
    rw [e44]
    exact ⟨rfl, N0, rfl⟩
theorem ef_rm_size_MEDIUM (m : MethodId) (x0 : Addr) (x1 : Int32) : entryFrame m #[(.ref x0), (.int x1)] 2 = mkF m 0 #[.val (.ref x0), .val (.int x1)] [] := by first | (simp [entryFrame, mkF, argsToLocals, Value.category]; done) | rfl
set_option maxRecDepth 65536 in
set_option maxHeartbeats 40000000 in
theorem rm_size_MEDIUM (l : Launch) (Z : State) (a0 : Array Value) (hw : ∀ d ∈ tables_1, d.before a0 Z = true) (ws : List Jvm.Cond) (w_MEDIUM : Addr) (n : Int32) (h0 : Heap) (n0 : Nat) (Z0 : n0 ≤ h0.size) (w_TINY w_NONE w_LARGE : Addr) (hWd : own_W Z h0 w_TINY w_NONE w_MEDIUM w_LARGE) :
    MetFree l (⟨"com/example/rowstrata/rowstrata/row/VarTable", "size", "(I)I"⟩ : MethodName) (head1 (Jvm.Cond.code (⟨"com/example/rowstrata/rowstrata/row/VarTable", "size", "(I)I"⟩ : MethodName) prog_15_method_7_code 2 (some .int) :: ws) ({ frames := 0, cells := 0, slots := 0, locals := 0 } : Room)) (fun aQ UQ => aQ = #[(.ref w_MEDIUM), (.int n)] ∧ Z.Warmed39 UQ.vm ∧ UQ.heap = h0) (fun _ _ _ _ _ => True) (fun _ UQ oQ UR => ∃ vQ LQ, oQ = .returned vQ ∧ own_Pure (some (.int ((2 : Int32) + ((n - (1 : Int32)) * (2 : Int32))))) h0 n0 vQ UR.heap LQ ∧ FrameEnd UQ oQ UR LQ ({ frames := 0, cells := 0, slots := 0, locals := 0 } : Room).cells ({ frames := 0, cells := 0, slots := 0, locals := 0 } : Room).slots) := by
  refine MetFree.of_bodySF (plainFor_of_name pn_16) hisR ?_
  intro p e s m args below meth c s₁ Bd hml0 hP hK
  obtain ⟨rfl, hZ, hh⟩ := hP
  have hx := Bd.exec
  have hby := Bd.bytes
  have hml : c.maxLocals = 2 := hml0
  have hown : s.vm.findClass "com/example/rowstrata/rowstrata/row/VarTable" = some m.cls := findClass_of_methodNamed Bd.named
  have hnm := (name_of_methodNamed Bd.named Bd.method).1
  have X0 : Stand p l e ({ frames := 0, cells := 0, slots := 0, locals := 0 } : Room) s m #[(.ref w_MEDIUM), (.int n)] below meth c s₁ [] 0 0 := Stand.of_body Bd
  have e0 : s₁.heap = h0 := by rw [← hh, Bd.state]; rfl
  have N0 := Fr.nil n0
  have pre0 : ∀ t, Steps p.tables e below (s₁.setTop (mkF m 0 #[.val (.ref w_MEDIUM), .val (.int n)] [])) t → Steps p.tables e below (s₁.setTop (entryFrame m #[(.ref w_MEDIUM), (.int n)] 2)) t := fun t kq => castTop (ef_rm_size_MEDIUM m w_MEDIUM n) kq
  obtain ⟨S_TINY, E_TINY, F_TINY_countBytes, F_TINY_ordinal, F_TINY_offsetBytes, S_NONE, E_NONE, F_NONE_ordinal, F_NONE_countBytes, F_NONE_offsetBytes, S_MEDIUM, E_MEDIUM, F_MEDIUM_countBytes, F_MEDIUM_ordinal, F_MEDIUM_offsetBytes, S_LARGE, E_LARGE, F_LARGE_countBytes, F_LARGE_ordinal, F_LARGE_offsetBytes⟩ := hWd
  obtain ⟨T45, X45, e45, st45⟩ := getS2 X0 hx hZ hown (host := "") (Or.inl (hw _ (List.mem_of_getElem? (i := 21) rfl))) Via.refl e0 S_NONE (g := (mkF m 1 #[.val (.ref w_MEDIUM), .val (.int n)] [(.ref w_MEDIUM)])) rfl (hb hby d4_1)
  obtain ⟨T46, X46, e46, st46⟩ := getF X45 hx hZ hown (host := "") (Or.inl (hw _ (List.mem_of_getElem? (i := 11) rfl))) Via.refl e45 F_MEDIUM_countBytes (g := (mkF m 12 #[.val (.ref w_MEDIUM), .val (.int n)] [(.ref w_MEDIUM)])) rfl rfl (hb hby d4_12)
  obtain ⟨T47, X47, e47, st47⟩ := getF X46 hx hZ hown (host := "") (Or.inl (hw _ (List.mem_of_getElem? (i := 23) rfl))) Via.refl e46 F_MEDIUM_offsetBytes (g := (mkF m 19 #[.val (.ref w_MEDIUM), .val (.int n)] [(.ref w_MEDIUM), (.int (n - (1 : Int32))), (.int (2 : Int32))])) rfl rfl (hb hby d4_19)
  obtain ⟨fs, hr, hrun, hended, hW, hsame⟩ := X47.leave (v := some (.int ((2 : Int32) + ((n - (1 : Int32)) * (2 : Int32))))) (fun h => by rw [Bd.returns] at h; cases h)
  refine ⟨_, _, pre0 _ ?_, hrun, hended, _, _, rfl, ?_, ⟨_, rfl⟩, hW, hsame.mono (by decide) (by decide)⟩
  · show Steps p.tables e below (s₁.setTop (mkF m 0 #[.val (.ref w_MEDIUM), .val (.int n)] [])) _
    refine XS.aloadN X0.here hx rfl (hb hby d4_0) rfl rfl ?_
    show Steps p.tables e below (s₁.setTop (mkF m 1 #[.val (.ref w_MEDIUM), .val (.int n)] [(.ref w_MEDIUM)])) _
    refine st45 _ ?_
    show Steps p.tables e below (T45.setTop (mkF m 4 #[.val (.ref w_MEDIUM), .val (.int n)] [(.ref w_NONE), (.ref w_MEDIUM)])) _
    refine Jvm.RoadKit.acmp (g := (mkF m 4 #[.val (.ref w_MEDIUM), .val (.int n)] [(.ref w_NONE), (.ref w_MEDIUM)])) X45 hx rfl rfl rfl (pc0 := 4) (pc' := 11) (same := false) rfl (hb hby d4_4) rfl (decide_eq_false fun q => (F_MEDIUM_countBytes.ne F_NONE_countBytes (by decide)) (Value.ref.inj q)) (by decide) (by decide) ?_
    show Steps p.tables e below (T45.setTop (mkF m 11 #[.val (.ref w_MEDIUM), .val (.int n)] [])) _
    refine XS.aloadN X45.here hx rfl (hb hby d4_11) rfl rfl ?_
    show Steps p.tables e below (T45.setTop (mkF m 12 #[.val (.ref w_MEDIUM), .val (.int n)] [(.ref w_MEDIUM)])) _
    refine st46 _ ?_
    show Steps p.tables e below (T46.setTop (mkF m 15 #[.val (.ref w_MEDIUM), .val (.int n)] [(.int (2 : Int32))])) _
    refine XS.iloadN X46.here hx rfl (hb hby d4_15) rfl ?_
    show Steps p.tables e below (T46.setTop (mkF m 16 #[.val (.ref w_MEDIUM), .val (.int n)] [(.int n), (.int (2 : Int32))])) _
    refine XS.iconst X46.here hx rfl (hb hby d4_16) ?_
    show Steps p.tables e below (T46.setTop (mkF m 17 #[.val (.ref w_MEDIUM), .val (.int n)] [(.int (1 : Int32)), (.int n), (.int (2 : Int32))])) _
    refine XS.isub X46.here hx rfl (hb hby d4_17) rfl ?_
    show Steps p.tables e below (T46.setTop (mkF m 18 #[.val (.ref w_MEDIUM), .val (.int n)] [(.int (n - (1 : Int32))), (.int (2 : Int32))])) _
    refine XS.aloadN X46.here hx rfl (hb hby d4_18) rfl rfl ?_
    show Steps p.tables e below (T46.setTop (mkF m 19 #[.val (.ref w_MEDIUM), .val (.int n)] [(.ref w_MEDIUM), (.int (n - (1 : Int32))), (.int (2 : Int32))])) _
    refine st47 _ ?_
    show Steps p.tables e below (T47.setTop (mkF m 22 #[.val (.ref w_MEDIUM), .val (.int n)] [(.int (2 : Int32)), (.int (n - (1 : Int32))), (.int (2 : Int32))])) _
    refine XS.imul X47.here hx rfl (hb hby d4_22) rfl ?_
    show Steps p.tables e below (T47.setTop (mkF m 23 #[.val (.ref w_MEDIUM), .val (.int n)] [(.int ((n - (1 : Int32)) * (2 : Int32))), (.int (2 : Int32))])) _
    refine XS.iadd X47.here hx rfl (hb hby d4_23) rfl ?_
    show Steps p.tables e below (T47.setTop (mkF m 24 #[.val (.ref w_MEDIUM), .val (.int n)] [(.int ((2 : Int32) + ((n - (1 : Int32)) * (2 : Int32))))])) _
    exact retOut X47 hx Bd.returns rfl (Or.inl ⟨rfl, Or.inl rfl, _, rfl⟩) (hb hby d4_24) hr
  · show own_Pure (some (.int ((2 : Int32) + ((n - (1 : Int32)) * (2 : Int32))))) h0 n0 _ T47.heap _
    rw [e47]
    exact ⟨rfl, N0, rfl⟩
theorem ef_rm_size_LARGE (m : MethodId) (x0 : Addr) (x1 : Int32) : entryFrame m #[(.ref x0), (.int x1)] 2 = mkF m 0 #[.val (.ref x0), .val (.int x1)] [] := by first | (simp [entryFrame, mkF, argsToLocals, Value.category]; done) | rfl
set_option maxRecDepth 65536 in
set_option maxHeartbeats 40000000 in
theorem rm_size_LARGE (l : Launch) (Z : State) (a0 : Array Value) (hw : ∀ d ∈ tables_1, d.before a0 Z = true) (ws : List Jvm.Cond) (w_LARGE : Addr) (n : Int32) (h0 : Heap) (n0 : Nat) (Z0 : n0 ≤ h0.size) (w_TINY w_NONE w_MEDIUM : Addr) (hWd : own_W Z h0 w_TINY w_NONE w_MEDIUM w_LARGE) :
    MetFree l (⟨"com/example/rowstrata/rowstrata/row/VarTable", "size", "(I)I"⟩ : MethodName) (head1 (Jvm.Cond.code (⟨"com/example/rowstrata/rowstrata/row/VarTable", "size", "(I)I"⟩ : MethodName) prog_15_method_7_code 2 (some .int) :: ws) ({ frames := 0, cells := 0, slots := 0, locals := 0 } : Room)) (fun aQ UQ => aQ = #[(.ref w_LARGE), (.int n)] ∧ Z.Warmed39 UQ.vm ∧ UQ.heap = h0) (fun _ _ _ _ _ => True) (fun _ UQ oQ UR => ∃ vQ LQ, oQ = .returned vQ ∧ own_Pure (some (.int ((2 : Int32) + ((n - (1 : Int32)) * (4 : Int32))))) h0 n0 vQ UR.heap LQ ∧ FrameEnd UQ oQ UR LQ ({ frames := 0, cells := 0, slots := 0, locals := 0 } : Room).cells ({ frames := 0, cells := 0, slots := 0, locals := 0 } : Room).slots) := by
  refine MetFree.of_bodySF (plainFor_of_name pn_16) hisR ?_
  intro p e s m args below meth c s₁ Bd hml0 hP hK
  obtain ⟨rfl, hZ, hh⟩ := hP
  have hx := Bd.exec
  have hby := Bd.bytes
  have hml : c.maxLocals = 2 := hml0
  have hown : s.vm.findClass "com/example/rowstrata/rowstrata/row/VarTable" = some m.cls := findClass_of_methodNamed Bd.named
  have hnm := (name_of_methodNamed Bd.named Bd.method).1
  have X0 : Stand p l e ({ frames := 0, cells := 0, slots := 0, locals := 0 } : Room) s m #[(.ref w_LARGE), (.int n)] below meth c s₁ [] 0 0 := Stand.of_body Bd
  have e0 : s₁.heap = h0 := by rw [← hh, Bd.state]; rfl
  have N0 := Fr.nil n0
  have pre0 : ∀ t, Steps p.tables e below (s₁.setTop (mkF m 0 #[.val (.ref w_LARGE), .val (.int n)] [])) t → Steps p.tables e below (s₁.setTop (entryFrame m #[(.ref w_LARGE), (.int n)] 2)) t := fun t kq => castTop (ef_rm_size_LARGE m w_LARGE n) kq
  obtain ⟨S_TINY, E_TINY, F_TINY_countBytes, F_TINY_ordinal, F_TINY_offsetBytes, S_NONE, E_NONE, F_NONE_ordinal, F_NONE_countBytes, F_NONE_offsetBytes, S_MEDIUM, E_MEDIUM, F_MEDIUM_countBytes, F_MEDIUM_ordinal, F_MEDIUM_offsetBytes, S_LARGE, E_LARGE, F_LARGE_countBytes, F_LARGE_ordinal, F_LARGE_offsetBytes⟩ := hWd
  obtain ⟨T48, X48, e48, st48⟩ := getS2 X0 hx hZ hown (host := "") (Or.inl (hw _ (List.mem_of_getElem? (i := 21) rfl))) Via.refl e0 S_NONE (g := (mkF m 1 #[.val (.ref w_LARGE), .val (.int n)] [(.ref w_LARGE)])) rfl (hb hby d4_1)
  obtain ⟨T49, X49, e49, st49⟩ := getF X48 hx hZ hown (host := "") (Or.inl (hw _ (List.mem_of_getElem? (i := 11) rfl))) Via.refl e48 F_LARGE_countBytes (g := (mkF m 12 #[.val (.ref w_LARGE), .val (.int n)] [(.ref w_LARGE)])) rfl rfl (hb hby d4_12)
  obtain ⟨T50, X50, e50, st50⟩ := getF X49 hx hZ hown (host := "") (Or.inl (hw _ (List.mem_of_getElem? (i := 23) rfl))) Via.refl e49 F_LARGE_offsetBytes (g := (mkF m 19 #[.val (.ref w_LARGE), .val (.int n)] [(.ref w_LARGE), (.int (n - (1 : Int32))), (.int (2 : Int32))])) rfl rfl (hb hby d4_19)
  obtain ⟨fs, hr, hrun, hended, hW, hsame⟩ := X50.leave (v := some (.int ((2 : Int32) + ((n - (1 : Int32)) * (4 : Int32))))) (fun h => by rw [Bd.returns] at h; cases h)
  refine ⟨_, _, pre0 _ ?_, hrun, hended, _, _, rfl, ?_, ⟨_, rfl⟩, hW, hsame.mono (by decide) (by decide)⟩
  · show Steps p.tables e below (s₁.setTop (mkF m 0 #[.val (.ref w_LARGE), .val (.int n)] [])) _
    refine XS.aloadN X0.here hx rfl (hb hby d4_0) rfl rfl ?_
    show Steps p.tables e below (s₁.setTop (mkF m 1 #[.val (.ref w_LARGE), .val (.int n)] [(.ref w_LARGE)])) _
    refine st48 _ ?_
    show Steps p.tables e below (T48.setTop (mkF m 4 #[.val (.ref w_LARGE), .val (.int n)] [(.ref w_NONE), (.ref w_LARGE)])) _
    refine Jvm.RoadKit.acmp (g := (mkF m 4 #[.val (.ref w_LARGE), .val (.int n)] [(.ref w_NONE), (.ref w_LARGE)])) X48 hx rfl rfl rfl (pc0 := 4) (pc' := 11) (same := false) rfl (hb hby d4_4) rfl (decide_eq_false fun q => (F_LARGE_countBytes.ne F_NONE_countBytes (by decide)) (Value.ref.inj q)) (by decide) (by decide) ?_
    show Steps p.tables e below (T48.setTop (mkF m 11 #[.val (.ref w_LARGE), .val (.int n)] [])) _
    refine XS.aloadN X48.here hx rfl (hb hby d4_11) rfl rfl ?_
    show Steps p.tables e below (T48.setTop (mkF m 12 #[.val (.ref w_LARGE), .val (.int n)] [(.ref w_LARGE)])) _
    refine st49 _ ?_
    show Steps p.tables e below (T49.setTop (mkF m 15 #[.val (.ref w_LARGE), .val (.int n)] [(.int (2 : Int32))])) _
    refine XS.iloadN X49.here hx rfl (hb hby d4_15) rfl ?_
    show Steps p.tables e below (T49.setTop (mkF m 16 #[.val (.ref w_LARGE), .val (.int n)] [(.int n), (.int (2 : Int32))])) _
    refine XS.iconst X49.here hx rfl (hb hby d4_16) ?_
    show Steps p.tables e below (T49.setTop (mkF m 17 #[.val (.ref w_LARGE), .val (.int n)] [(.int (1 : Int32)), (.int n), (.int (2 : Int32))])) _
    refine XS.isub X49.here hx rfl (hb hby d4_17) rfl ?_
    show Steps p.tables e below (T49.setTop (mkF m 18 #[.val (.ref w_LARGE), .val (.int n)] [(.int (n - (1 : Int32))), (.int (2 : Int32))])) _
    refine XS.aloadN X49.here hx rfl (hb hby d4_18) rfl rfl ?_
    show Steps p.tables e below (T49.setTop (mkF m 19 #[.val (.ref w_LARGE), .val (.int n)] [(.ref w_LARGE), (.int (n - (1 : Int32))), (.int (2 : Int32))])) _
    refine st50 _ ?_
    show Steps p.tables e below (T50.setTop (mkF m 22 #[.val (.ref w_LARGE), .val (.int n)] [(.int (4 : Int32)), (.int (n - (1 : Int32))), (.int (2 : Int32))])) _
    refine XS.imul X50.here hx rfl (hb hby d4_22) rfl ?_
    show Steps p.tables e below (T50.setTop (mkF m 23 #[.val (.ref w_LARGE), .val (.int n)] [(.int ((n - (1 : Int32)) * (4 : Int32))), (.int (2 : Int32))])) _
    refine XS.iadd X50.here hx rfl (hb hby d4_23) rfl ?_
    show Steps p.tables e below (T50.setTop (mkF m 24 #[.val (.ref w_LARGE), .val (.int n)] [(.int ((2 : Int32) + ((n - (1 : Int32)) * (4 : Int32))))])) _
    exact retOut X50 hx Bd.returns rfl (Or.inl ⟨rfl, Or.inl rfl, _, rfl⟩) (hb hby d4_24) hr
  · show own_Pure (some (.int ((2 : Int32) + ((n - (1 : Int32)) * (4 : Int32))))) h0 n0 _ T50.heap _
    rw [e50]
    exact ⟨rfl, N0, rfl⟩
theorem d2_0 : decode prog_15_method_5_code 0 = .ok (.iload_n 0, 1) := by decide +kernel
theorem d2_1 : decode prog_15_method_5_code 1 = .ok (.iconst 2, 1) := by decide +kernel
theorem d2_2 : decode prog_15_method_5_code 2 = .ok (.if_icmp .ge 7, 3) := by decide +kernel
theorem d2_5 : decode prog_15_method_5_code 5 = .ok (.getstatic 3, 3) := by decide +kernel
theorem d2_8 : decode prog_15_method_5_code 8 = .ok (.areturn, 1) := by decide +kernel
theorem d2_9 : decode prog_15_method_5_code 9 = .ok (.getstatic 45, 3) := by decide +kernel
theorem d2_12 : decode prog_15_method_5_code 12 = .ok (.astore_n 3, 1) := by decide +kernel
theorem d2_13 : decode prog_15_method_5_code 13 = .ok (.aload_n 3, 1) := by decide +kernel
theorem d2_14 : decode prog_15_method_5_code 14 = .ok (.arraylength, 1) := by decide +kernel
theorem d2_15 : decode prog_15_method_5_code 15 = .ok (.istore 4, 2) := by decide +kernel
theorem d2_17 : decode prog_15_method_5_code 17 = .ok (.iconst 0, 1) := by decide +kernel
theorem d2_18 : decode prog_15_method_5_code 18 = .ok (.istore 5, 2) := by decide +kernel
theorem d2_20 : decode prog_15_method_5_code 20 = .ok (.iload 5, 2) := by decide +kernel
theorem d2_22 : decode prog_15_method_5_code 22 = .ok (.iload 4, 2) := by decide +kernel
theorem d2_24 : decode prog_15_method_5_code 24 = .ok (.if_icmp .ge 55, 3) := by decide +kernel
theorem d2_27 : decode prog_15_method_5_code 27 = .ok (.aload_n 3, 1) := by decide +kernel
theorem d2_28 : decode prog_15_method_5_code 28 = .ok (.iload 5, 2) := by decide +kernel
theorem d2_30 : decode prog_15_method_5_code 30 = .ok (.aaload, 1) := by decide +kernel
theorem d2_31 : decode prog_15_method_5_code 31 = .ok (.astore 6, 2) := by decide +kernel
theorem d2_33 : decode prog_15_method_5_code 33 = .ok (.iload_n 0, 1) := by decide +kernel
theorem d2_34 : decode prog_15_method_5_code 34 = .ok (.iconst 1, 1) := by decide +kernel
theorem d2_35 : decode prog_15_method_5_code 35 = .ok (.isub, 1) := by decide +kernel
theorem d2_36 : decode prog_15_method_5_code 36 = .ok (.i2l, 1) := by decide +kernel
theorem d2_37 : decode prog_15_method_5_code 37 = .ok (.aload 6, 2) := by decide +kernel
theorem d2_39 : decode prog_15_method_5_code 39 = .ok (.getfield 35, 3) := by decide +kernel
theorem pd_55 : parseMethodDescriptor "(I)J" = some ⟨[.int], some .long⟩ := by decide +kernel
theorem d2_42 : decode prog_15_method_5_code 42 = .ok (.invokestatic 48, 3) := by decide +kernel
theorem d2_45 : decode prog_15_method_5_code 45 = .ok (.lcmp, 1) := by decide +kernel
theorem d2_46 : decode prog_15_method_5_code 46 = .ok (.ifCond .gt 27, 3) := by decide +kernel
theorem d2_73 : decode prog_15_method_5_code 73 = .ok (.iinc 5 1, 3) := by decide +kernel
theorem d2_76 : decode prog_15_method_5_code 76 = .ok (.goto (-56), 3) := by decide +kernel
theorem d2_79 : decode prog_15_method_5_code 79 = .ok (.aconst_null, 1) := by decide +kernel
theorem d2_80 : decode prog_15_method_5_code 80 = .ok (.areturn, 1) := by decide +kernel
theorem d2_49 : decode prog_15_method_5_code 49 = .ok (.lload_n 1, 1) := by decide +kernel
theorem d2_50 : decode prog_15_method_5_code 50 = .ok (.aload 6, 2) := by decide +kernel
theorem d2_52 : decode prog_15_method_5_code 52 = .ok (.iload_n 0, 1) := by decide +kernel
theorem pd_66 : parseMethodDescriptor "(I)I" = some ⟨[.int], some .int⟩ := by decide +kernel
theorem d2_53 : decode prog_15_method_5_code 53 = .ok (.invokevirtual 52, 3) := by decide +kernel
theorem d2_56 : decode prog_15_method_5_code 56 = .ok (.i2l, 1) := by decide +kernel
theorem d2_57 : decode prog_15_method_5_code 57 = .ok (.ladd, 1) := by decide +kernel
theorem d2_58 : decode prog_15_method_5_code 58 = .ok (.aload 6, 2) := by decide +kernel
theorem d2_60 : decode prog_15_method_5_code 60 = .ok (.getfield 39, 3) := by decide +kernel
theorem d2_63 : decode prog_15_method_5_code 63 = .ok (.invokestatic 48, 3) := by decide +kernel
theorem d2_66 : decode prog_15_method_5_code 66 = .ok (.lcmp, 1) := by decide +kernel
theorem d2_67 : decode prog_15_method_5_code 67 = .ok (.ifCond .gt 6, 3) := by decide +kernel
theorem d2_70 : decode prog_15_method_5_code 70 = .ok (.aload 6, 2) := by decide +kernel
theorem d2_72 : decode prog_15_method_5_code 72 = .ok (.areturn, 1) := by decide +kernel
theorem ef_rm_sm (m : MethodId) (x0 : Int32) (x1 : Int64) : entryFrame m #[(.int x0), (.long x1)] 7 = mkF m 0 #[.val (.int x0), .val (.long x1), .second, .unset, .unset, .unset, .unset] [] := by first | (simp [entryFrame, mkF, argsToLocals, Value.category]; done) | rfl
set_option maxRecDepth 65536 in
set_option maxHeartbeats 40000000 in
theorem rm_sm (l : Launch) (Z : State) (a0 : Array Value) (hw : ∀ d ∈ tables_1, d.before a0 Z = true) (ws : List Jvm.Cond) (v : Int32) (ls : Int64) (h0 : Heap) (n0 : Nat) (Z0 : n0 ≤ h0.size) (w_TINY w_NONE w_MEDIUM w_LARGE : Addr) (hWd : own_W Z h0 w_TINY w_NONE w_MEDIUM w_LARGE) (w_WT : Addr) (kWT : ClassId) (S_WT : Sta Z h0 "com/example/rowstrata/rowstrata/row/VarTable" "WITH_TABLE" "[Lcom/example/rowstrata/rowstrata/row/VarTable;" (.ref w_WT)) (A_WT : Arv Z h0 w_WT kWT (.object "com/example/rowstrata/rowstrata/row/VarTable") (3 : Int32) [(.ref w_TINY), (.ref w_MEDIUM), (.ref w_LARGE)] .null) (hb1 : 0 ≤ ls.toInt) (hb2 : ls.toInt ≤ 4611686018427387904) :
    MetFree l (⟨"com/example/rowstrata/rowstrata/row/VarTable", "smallest", "(IJ)Lcom/example/rowstrata/rowstrata/row/VarTable;"⟩ : MethodName) (head1 (Jvm.Cond.code (⟨"com/example/rowstrata/rowstrata/row/VarTable", "smallest", "(IJ)Lcom/example/rowstrata/rowstrata/row/VarTable;"⟩ : MethodName) prog_15_method_5_code 7 (some (.object "com/example/rowstrata/rowstrata/row/VarTable")) :: ws) ({ frames := 1, cells := 0, slots := 0, locals := 15 } : Room)) (fun aQ UQ => aQ = #[(.int v), (.long ls)] ∧ Z.Warmed39 UQ.vm ∧ UQ.heap = h0) (fun _ _ _ _ _ => True) (fun _ UQ oQ UR => ∃ vQ LQ, oQ = .returned vQ ∧ own_Pure (some (own_spec v.toInt ls.toInt w_NONE w_TINY w_MEDIUM w_LARGE)) h0 n0 vQ UR.heap LQ ∧ FrameEnd UQ oQ UR LQ ({ frames := 1, cells := 0, slots := 0, locals := 15 } : Room).cells ({ frames := 1, cells := 0, slots := 0, locals := 15 } : Room).slots) := by
  refine MetFree.of_bodySF (plainFor_of_name pn_16) hisR ?_
  intro p e s m args below meth c s₁ Bd hml0 hP hK
  obtain ⟨rfl, hZ, hh⟩ := hP
  have hx := Bd.exec
  have hby := Bd.bytes
  have hml : c.maxLocals = 7 := hml0
  have hown : s.vm.findClass "com/example/rowstrata/rowstrata/row/VarTable" = some m.cls := findClass_of_methodNamed Bd.named
  have hnm := (name_of_methodNamed Bd.named Bd.method).1
  have X0 : Stand p l e ({ frames := 1, cells := 0, slots := 0, locals := 15 } : Room) s m #[(.int v), (.long ls)] below meth c s₁ [] 0 0 := Stand.of_body Bd
  have e0 : s₁.heap = h0 := by rw [← hh, Bd.state]; rfl
  have N0 := Fr.nil n0
  have pre0 : ∀ t, Steps p.tables e below (s₁.setTop (mkF m 0 #[.val (.int v), .val (.long ls), .second, .unset, .unset, .unset, .unset] [])) t → Steps p.tables e below (s₁.setTop (entryFrame m #[(.int v), (.long ls)] 7)) t := fun t kq => castTop (ef_rm_sm m v ls) kq
  have hWd' := hWd
  obtain ⟨S_TINY, E_TINY, F_TINY_countBytes, F_TINY_ordinal, F_TINY_offsetBytes, S_NONE, E_NONE, F_NONE_ordinal, F_NONE_countBytes, F_NONE_offsetBytes, S_MEDIUM, E_MEDIUM, F_MEDIUM_countBytes, F_MEDIUM_ordinal, F_MEDIUM_offsetBytes, S_LARGE, E_LARGE, F_LARGE_countBytes, F_LARGE_ordinal, F_LARGE_offsetBytes⟩ := hWd'
  by_cases hc2_51 : v < (2 : Int32)
  · -- pc 2: v < (2 : Int32)
    obtain ⟨T52, X52, e52, st52⟩ := getS2 X0 hx hZ hown (host := "") (Or.inl (hw _ (List.mem_of_getElem? (i := 21) rfl))) Via.refl e0 S_NONE (g := (mkF m 5 #[.val (.int v), .val (.long ls), .second, .unset, .unset, .unset, .unset] [])) rfl (hb hby d2_5)
    have ff1 := rng32 v
    have ff2 : (2 : Int32).toInt = 2 := by decide
    have d_hc2_51 := hc2_51; rw [Int32.lt_iff_toInt_lt] at d_hc2_51
    obtain ⟨fs, hr, hrun, hended, hW, hsame⟩ := X52.leave (v := some (.ref w_NONE)) (fun h => by rw [Bd.returns] at h; cases h)
    refine ⟨_, _, pre0 _ ?_, hrun, hended, _, _, rfl, ?_, ⟨_, rfl⟩, hW, hsame.mono (by decide) (by decide)⟩
    · show Steps p.tables e below (s₁.setTop (mkF m 0 #[.val (.int v), .val (.long ls), .second, .unset, .unset, .unset, .unset] [])) _
      refine XS.iloadN X0.here hx rfl (hb hby d2_0) rfl ?_
      show Steps p.tables e below (s₁.setTop (mkF m 1 #[.val (.int v), .val (.long ls), .second, .unset, .unset, .unset, .unset] [(.int v)])) _
      refine XS.iconst X0.here hx rfl (hb hby d2_1) ?_
      show Steps p.tables e below (s₁.setTop (mkF m 2 #[.val (.int v), .val (.long ls), .second, .unset, .unset, .unset, .unset] [(.int (2 : Int32)), (.int v)])) _
      refine XS.icmpNo X0.here hx rfl (hb hby d2_2) rfl (tlt hc2_51).2.1 ?_
      show Steps p.tables e below (s₁.setTop (mkF m 5 #[.val (.int v), .val (.long ls), .second, .unset, .unset, .unset, .unset] [])) _
      refine st52 _ ?_
      show Steps p.tables e below (T52.setTop (mkF m 8 #[.val (.int v), .val (.long ls), .second, .unset, .unset, .unset, .unset] [(.ref w_NONE)])) _
      exact retOut X52 hx Bd.returns rfl (Or.inr (Or.inr (Or.inr (Or.inr ⟨rfl, rfl, rfl⟩)))) (hb hby d2_8) hr
    · show own_Pure (some (own_spec v.toInt ls.toInt w_NONE w_TINY w_MEDIUM w_LARGE)) h0 n0 _ T52.heap _
      rw [e52]
      exact ⟨congrArg some (own_spec_N (by omega)).symm, N0, rfl⟩
  · -- pc 2: not v < (2 : Int32)
    obtain ⟨T53, X53, e53, st53⟩ := getS2 X0 hx hZ hown (host := "") (Or.inl (hw _ (List.mem_of_getElem? (i := 8) rfl))) Via.refl e0 S_WT (g := (mkF m 9 #[.val (.int v), .val (.long ls), .second, .unset, .unset, .unset, .unset] [])) rfl (hb hby d2_9)
    have Vc54 := A_WT
    obtain ⟨cl54, Ar54, q54, S54, N54_, H54_, G54⟩ := Vc54
    have Vc55 := A_WT
    obtain ⟨cl55, Ar55, q55, S55, N55_, H55_, G55⟩ := Vc55
    have hin55 : ¬ ((0 : Int32) < 0 ∨ cl55.slots.size ≤ ((0 : Int32)).toNatClampNeg) := inb_of S55 ⟨by decide, by decide⟩
    have hat55 : cl55.slots[((0 : Int32)).toNatClampNeg]? = some (.ref w_TINY) := Has.at H55_ hin55 rfl
    obtain ⟨T56, X56, e56, st56⟩ := getF X53 hx hZ hown (host := "") (Or.inl (hw _ (List.mem_of_getElem? (i := 11) rfl))) Via.refl e53 F_TINY_countBytes (g := (mkF m 39 #[.val (.int v), .val (.long ls), .second, .val (.ref w_WT), .val (.int (3 : Int32)), .val (.int (0 : Int32)), .val (.ref w_TINY)] [(.ref w_TINY), (.long ((v - (1 : Int32)).toInt64))])) rfl rfl (hb hby d2_39)
    obtain ⟨_, _, ⟨T57, L57, k57, n57⟩, -, X57, ⟨Lc57, hQ57, l57, y57, z57⟩, st57⟩ := Jvm.LawKit.callS X56 hx (y := (⟨"com/example/rowstrata/rowstrata/row/VarTable", "max", "(I)J"⟩ : MethodName)) hown (mvT hZ (hw _ (List.mem_of_getElem? (i := 13) rfl))) (mvT hZ (hw _ (List.mem_of_getElem? (i := 14) rfl))) (mvT hZ (hw _ (List.mem_of_getElem? (i := 6) rfl))) (mvT hZ (hw _ (List.mem_of_getElem? (i := 15) rfl))) (by decide) (backOf (W := 2) (rm_vmax1 l Z a0 hw [] h0 n0 Z0) hZ (hw _ (List.mem_of_getElem? (i := 15) rfl)) (hw _ (List.mem_of_getElem? (i := 6) rfl)) (by decide) (by decide)) (g := (mkF m 42 #[.val (.int v), .val (.long ls), .second, .val (.ref w_WT), .val (.int (3 : Int32)), .val (.int (0 : Int32)), .val (.ref w_TINY)] [(.int (1 : Int32)), (.long ((v - (1 : Int32)).toInt64))])) rfl (by rw [hml]; rfl) (argsL := [(.int (1 : Int32))]) (rest := [(.long ((v - (1 : Int32)).toInt64))]) (lenOf pd_55 rfl) rfl (by show 2 * 0 + _ ≤ _; exact Nat.le_of_eq rfl) (hb hby d2_42) (fun _ _ => ⟨rfl, e56, (by decide : 0 + 0 ≤ _), (by decide : 0 + 0 ≤ _)⟩)
    dsimp only [Pt.U, Pt.locs, Pt.cells, Pt.slots] at X57 l57 y57 z57 st57 hQ57
    subst l57 y57 z57
    obtain ⟨rfl, N57q, e57⟩ := hQ57
    have N57 := Fr.app N0 N57q
    have ck59 : ∀ t, Steps p.tables e below (T57.setTop (mkF m 46 #[.val (.int v), .val (.long ls), .second, .val (.ref w_WT), .val (.int (3 : Int32)), .val (.int (0 : Int32)), .val (.ref w_TINY)] [(.int (lcmpW ((v - (1 : Int32)).toInt64) (255 : Int64)))])) t → Steps p.tables e below (s₁.setTop (entryFrame m #[(.int v), (.long ls)] 7)) t := by
      intro t kt
      refine pre0 _ ?_
      show Steps p.tables e below (s₁.setTop (mkF m 0 #[.val (.int v), .val (.long ls), .second, .unset, .unset, .unset, .unset] [])) _
      refine XS.iloadN X0.here hx rfl (hb hby d2_0) rfl ?_
      show Steps p.tables e below (s₁.setTop (mkF m 1 #[.val (.int v), .val (.long ls), .second, .unset, .unset, .unset, .unset] [(.int v)])) _
      refine XS.iconst X0.here hx rfl (hb hby d2_1) ?_
      show Steps p.tables e below (s₁.setTop (mkF m 2 #[.val (.int v), .val (.long ls), .second, .unset, .unset, .unset, .unset] [(.int (2 : Int32)), (.int v)])) _
      refine XS.icmpYes X0.here hx rfl (pc0 := 2) (pc' := 9) rfl (hb hby d2_2) rfl (flt hc2_51).2.1 (by decide) (by decide) ?_
      show Steps p.tables e below (s₁.setTop (mkF m 9 #[.val (.int v), .val (.long ls), .second, .unset, .unset, .unset, .unset] [])) _
      refine st53 _ ?_
      show Steps p.tables e below (T53.setTop (mkF m 12 #[.val (.int v), .val (.long ls), .second, .unset, .unset, .unset, .unset] [(.ref w_WT)])) _
      refine XS.astoreN X53.here hx rfl (hb hby d2_12) rfl rfl (l' := #[.val (.int v), .val (.long ls), .second, .val (.ref w_WT), .unset, .unset, .unset]) rfl ?_
      show Steps p.tables e below (T53.setTop (mkF m 13 #[.val (.int v), .val (.long ls), .second, .val (.ref w_WT), .unset, .unset, .unset] [])) _
      refine XS.aloadN X53.here hx rfl (hb hby d2_13) rfl rfl ?_
      show Steps p.tables e below (T53.setTop (mkF m 14 #[.val (.int v), .val (.long ls), .second, .val (.ref w_WT), .unset, .unset, .unset] [(.ref w_WT)])) _
      refine X53.arraylength hx (by rw [e53]; exact Ar54.1) (State.isArrayOf_alike hZ.alike Ar54.2.1) (g := (mkF m 14 #[.val (.int v), .val (.long ls), .second, .val (.ref w_WT), .unset, .unset, .unset] [(.ref w_WT)])) rfl rfl (hb hby d2_14) _ ?_
      rw [len_of S54 N54_]
      show Steps p.tables e below (T53.setTop (mkF m 15 #[.val (.int v), .val (.long ls), .second, .val (.ref w_WT), .unset, .unset, .unset] [(.int (3 : Int32))])) _
      refine XS.istore X53.here hx rfl (hb hby d2_15) rfl (l' := #[.val (.int v), .val (.long ls), .second, .val (.ref w_WT), .val (.int (3 : Int32)), .unset, .unset]) rfl ?_
      show Steps p.tables e below (T53.setTop (mkF m 17 #[.val (.int v), .val (.long ls), .second, .val (.ref w_WT), .val (.int (3 : Int32)), .unset, .unset] [])) _
      refine XS.iconst X53.here hx rfl (hb hby d2_17) ?_
      show Steps p.tables e below (T53.setTop (mkF m 18 #[.val (.int v), .val (.long ls), .second, .val (.ref w_WT), .val (.int (3 : Int32)), .unset, .unset] [(.int (0 : Int32))])) _
      refine XS.istore X53.here hx rfl (hb hby d2_18) rfl (l' := #[.val (.int v), .val (.long ls), .second, .val (.ref w_WT), .val (.int (3 : Int32)), .val (.int (0 : Int32)), .unset]) rfl ?_
      show Steps p.tables e below (T53.setTop (mkF m 20 #[.val (.int v), .val (.long ls), .second, .val (.ref w_WT), .val (.int (3 : Int32)), .val (.int (0 : Int32)), .unset] [])) _
      refine XS.iload X53.here hx rfl (hb hby d2_20) rfl ?_
      show Steps p.tables e below (T53.setTop (mkF m 22 #[.val (.int v), .val (.long ls), .second, .val (.ref w_WT), .val (.int (3 : Int32)), .val (.int (0 : Int32)), .unset] [(.int (0 : Int32))])) _
      refine XS.iload X53.here hx rfl (hb hby d2_22) rfl ?_
      show Steps p.tables e below (T53.setTop (mkF m 24 #[.val (.int v), .val (.long ls), .second, .val (.ref w_WT), .val (.int (3 : Int32)), .val (.int (0 : Int32)), .unset] [(.int (3 : Int32)), (.int (0 : Int32))])) _
      refine XS.icmpNo X53.here hx rfl (hb hby d2_24) rfl (tlt (by decide : (0 : Int32) < (3 : Int32))).2.1 ?_
      show Steps p.tables e below (T53.setTop (mkF m 27 #[.val (.int v), .val (.long ls), .second, .val (.ref w_WT), .val (.int (3 : Int32)), .val (.int (0 : Int32)), .unset] [])) _
      refine XS.aloadN X53.here hx rfl (hb hby d2_27) rfl rfl ?_
      show Steps p.tables e below (T53.setTop (mkF m 28 #[.val (.int v), .val (.long ls), .second, .val (.ref w_WT), .val (.int (3 : Int32)), .val (.int (0 : Int32)), .unset] [(.ref w_WT)])) _
      refine XS.iload X53.here hx rfl (hb hby d2_28) rfl ?_
      show Steps p.tables e below (T53.setTop (mkF m 30 #[.val (.int v), .val (.long ls), .second, .val (.ref w_WT), .val (.int (3 : Int32)), .val (.int (0 : Int32)), .unset] [(.int (0 : Int32)), (.ref w_WT)])) _
      refine X53.aaload hx (j := (0 : Int32)) (v := (.ref w_TINY)) (by rw [e53]; exact Ar55.1) (State.isArrayOf_alike hZ.alike Ar55.2.1) rfl Ar55.2.2 hin55 hat55 (g := (mkF m 30 #[.val (.int v), .val (.long ls), .second, .val (.ref w_WT), .val (.int (3 : Int32)), .val (.int (0 : Int32)), .unset] [(.int (0 : Int32)), (.ref w_WT)])) rfl rfl (hb hby d2_30) _ ?_
      show Steps p.tables e below (T53.setTop (mkF m 31 #[.val (.int v), .val (.long ls), .second, .val (.ref w_WT), .val (.int (3 : Int32)), .val (.int (0 : Int32)), .unset] [(.ref w_TINY)])) _
      refine XS.astore X53.here hx rfl (hb hby d2_31) rfl rfl (l' := #[.val (.int v), .val (.long ls), .second, .val (.ref w_WT), .val (.int (3 : Int32)), .val (.int (0 : Int32)), .val (.ref w_TINY)]) rfl ?_
      show Steps p.tables e below (T53.setTop (mkF m 33 #[.val (.int v), .val (.long ls), .second, .val (.ref w_WT), .val (.int (3 : Int32)), .val (.int (0 : Int32)), .val (.ref w_TINY)] [])) _
      refine XS.iloadN X53.here hx rfl (hb hby d2_33) rfl ?_
      show Steps p.tables e below (T53.setTop (mkF m 34 #[.val (.int v), .val (.long ls), .second, .val (.ref w_WT), .val (.int (3 : Int32)), .val (.int (0 : Int32)), .val (.ref w_TINY)] [(.int v)])) _
      refine XS.iconst X53.here hx rfl (hb hby d2_34) ?_
      show Steps p.tables e below (T53.setTop (mkF m 35 #[.val (.int v), .val (.long ls), .second, .val (.ref w_WT), .val (.int (3 : Int32)), .val (.int (0 : Int32)), .val (.ref w_TINY)] [(.int (1 : Int32)), (.int v)])) _
      refine XS.isub X53.here hx rfl (hb hby d2_35) rfl ?_
      show Steps p.tables e below (T53.setTop (mkF m 36 #[.val (.int v), .val (.long ls), .second, .val (.ref w_WT), .val (.int (3 : Int32)), .val (.int (0 : Int32)), .val (.ref w_TINY)] [(.int (v - (1 : Int32)))])) _
      refine XS.i2l X53.here hx rfl (hb hby d2_36) rfl ?_
      show Steps p.tables e below (T53.setTop (mkF m 37 #[.val (.int v), .val (.long ls), .second, .val (.ref w_WT), .val (.int (3 : Int32)), .val (.int (0 : Int32)), .val (.ref w_TINY)] [(.long ((v - (1 : Int32)).toInt64))])) _
      refine XS.aload X53.here hx rfl (hb hby d2_37) rfl rfl ?_
      show Steps p.tables e below (T53.setTop (mkF m 39 #[.val (.int v), .val (.long ls), .second, .val (.ref w_WT), .val (.int (3 : Int32)), .val (.int (0 : Int32)), .val (.ref w_TINY)] [(.ref w_TINY), (.long ((v - (1 : Int32)).toInt64))])) _
      refine st56 _ ?_
      show Steps p.tables e below (T56.setTop (mkF m 42 #[.val (.int v), .val (.long ls), .second, .val (.ref w_WT), .val (.int (3 : Int32)), .val (.int (0 : Int32)), .val (.ref w_TINY)] [(.int (1 : Int32)), (.long ((v - (1 : Int32)).toInt64))])) _
      refine st57 _ ?_
      show Steps p.tables e below (T57.setTop (mkF m 45 #[.val (.int v), .val (.long ls), .second, .val (.ref w_WT), .val (.int (3 : Int32)), .val (.int (0 : Int32)), .val (.ref w_TINY)] [(.long (255 : Int64)), (.long ((v - (1 : Int32)).toInt64))])) _
      refine XS.lcmp X57.here hx rfl (hb hby d2_45) rfl ?_
      exact kt
    (try clear N57q); (try clear st57); (try clear Lc57); (try clear n57); (try clear k57); (try clear L57); (try clear st56); (try clear e56); (try clear X56); (try clear T56); (try clear hat55); (try clear hin55); (try clear G55); (try clear H55_); (try clear N55_); (try clear S55); (try clear q55); (try clear Ar55); (try clear cl55); (try clear G54); (try clear H54_); (try clear N54_); (try clear S54); (try clear q54); (try clear Ar54); (try clear cl54); (try clear st53); (try clear e53); (try clear X53); (try clear T53)
    by_cases hc46_58 : (0 : Int32) < (lcmpW ((v - (1 : Int32)).toInt64) (255 : Int64))
    · -- pc 46: (0 : Int32) < (lcmpW ((v - (1 : Int32)).toInt64) (255 : Int64))
      have Vc60 := A_WT
      obtain ⟨cl60, Ar60, q60, S60, N60_, H60_, G60⟩ := Vc60
      have hin60 : ¬ ((1 : Int32) < 0 ∨ cl60.slots.size ≤ ((1 : Int32)).toNatClampNeg) := inb_of S60 ⟨by decide, by decide⟩
      have hat60 : cl60.slots[((1 : Int32)).toNatClampNeg]? = some (.ref w_MEDIUM) := Has.at H60_ hin60 rfl
      obtain ⟨T61, X61, e61, st61⟩ := getF X57 hx hZ hown (host := "") (Or.inl (hw _ (List.mem_of_getElem? (i := 11) rfl))) Via.refl e57 F_MEDIUM_countBytes (g := (mkF m 39 #[.val (.int v), .val (.long ls), .second, .val (.ref w_WT), .val (.int (3 : Int32)), .val (.int (1 : Int32)), .val (.ref w_MEDIUM)] [(.ref w_MEDIUM), (.long ((v - (1 : Int32)).toInt64))])) rfl rfl (hb hby d2_39)
      obtain ⟨_, _, ⟨T62, L62, k62, n62⟩, -, X62, ⟨Lc62, hQ62, l62, y62, z62⟩, st62⟩ := Jvm.LawKit.callS X61 hx (y := (⟨"com/example/rowstrata/rowstrata/row/VarTable", "max", "(I)J"⟩ : MethodName)) hown (mvT hZ (hw _ (List.mem_of_getElem? (i := 13) rfl))) (mvT hZ (hw _ (List.mem_of_getElem? (i := 14) rfl))) (mvT hZ (hw _ (List.mem_of_getElem? (i := 6) rfl))) (mvT hZ (hw _ (List.mem_of_getElem? (i := 15) rfl))) (by decide) (backOf (W := 2) (rm_vmax2 l Z a0 hw [] h0 n0 Z0) hZ (hw _ (List.mem_of_getElem? (i := 15) rfl)) (hw _ (List.mem_of_getElem? (i := 6) rfl)) (by decide) (by decide)) (g := (mkF m 42 #[.val (.int v), .val (.long ls), .second, .val (.ref w_WT), .val (.int (3 : Int32)), .val (.int (1 : Int32)), .val (.ref w_MEDIUM)] [(.int (2 : Int32)), (.long ((v - (1 : Int32)).toInt64))])) rfl (by rw [hml]; rfl) (argsL := [(.int (2 : Int32))]) (rest := [(.long ((v - (1 : Int32)).toInt64))]) (lenOf pd_55 rfl) rfl (by show 2 * 0 + _ ≤ _; exact Nat.le_of_eq rfl) (hb hby d2_42) (fun _ _ => ⟨rfl, e61, (by decide : 0 + 0 ≤ _), (by decide : 0 + 0 ≤ _)⟩)
      dsimp only [Pt.U, Pt.locs, Pt.cells, Pt.slots] at X62 l62 y62 z62 st62 hQ62
      subst l62 y62 z62
      obtain ⟨rfl, N62q, e62⟩ := hQ62
      have N62 := Fr.app N57 N62q
      have ck64 : ∀ t, Steps p.tables e below (T62.setTop (mkF m 46 #[.val (.int v), .val (.long ls), .second, .val (.ref w_WT), .val (.int (3 : Int32)), .val (.int (1 : Int32)), .val (.ref w_MEDIUM)] [(.int (lcmpW ((v - (1 : Int32)).toInt64) (65535 : Int64)))])) t → Steps p.tables e below (s₁.setTop (entryFrame m #[(.int v), (.long ls)] 7)) t := by
        intro t kt
        refine ck59 _ ?_
        show Steps p.tables e below (T57.setTop (mkF m 46 #[.val (.int v), .val (.long ls), .second, .val (.ref w_WT), .val (.int (3 : Int32)), .val (.int (0 : Int32)), .val (.ref w_TINY)] [(.int (lcmpW ((v - (1 : Int32)).toInt64) (255 : Int64)))])) _
        refine XS.ifYes X57.here hx rfl (pc0 := 46) (pc' := 73) rfl (hb hby d2_46) rfl ((if0 _ _).trans (tlt hc46_58).2.2.1) (by decide) (by decide) ?_
        show Steps p.tables e below (T57.setTop (mkF m 73 #[.val (.int v), .val (.long ls), .second, .val (.ref w_WT), .val (.int (3 : Int32)), .val (.int (0 : Int32)), .val (.ref w_TINY)] [])) _
        refine XS.iinc X57.here hx rfl (hb hby d2_73) rfl (l' := #[.val (.int v), .val (.long ls), .second, .val (.ref w_WT), .val (.int (3 : Int32)), .val (.int (1 : Int32)), .val (.ref w_TINY)]) rfl ?_
        show Steps p.tables e below (T57.setTop (mkF m 76 #[.val (.int v), .val (.long ls), .second, .val (.ref w_WT), .val (.int (3 : Int32)), .val (.int (1 : Int32)), .val (.ref w_TINY)] [])) _
        refine XS.goto X57.here hx rfl (pc0 := 76) (pc' := 20) rfl (hb hby d2_76) (by decide) (by decide) ?_
        show Steps p.tables e below (T57.setTop (mkF m 20 #[.val (.int v), .val (.long ls), .second, .val (.ref w_WT), .val (.int (3 : Int32)), .val (.int (1 : Int32)), .val (.ref w_TINY)] [])) _
        refine XS.iload X57.here hx rfl (hb hby d2_20) rfl ?_
        show Steps p.tables e below (T57.setTop (mkF m 22 #[.val (.int v), .val (.long ls), .second, .val (.ref w_WT), .val (.int (3 : Int32)), .val (.int (1 : Int32)), .val (.ref w_TINY)] [(.int (1 : Int32))])) _
        refine XS.iload X57.here hx rfl (hb hby d2_22) rfl ?_
        show Steps p.tables e below (T57.setTop (mkF m 24 #[.val (.int v), .val (.long ls), .second, .val (.ref w_WT), .val (.int (3 : Int32)), .val (.int (1 : Int32)), .val (.ref w_TINY)] [(.int (3 : Int32)), (.int (1 : Int32))])) _
        refine XS.icmpNo X57.here hx rfl (hb hby d2_24) rfl (tlt (by decide : (1 : Int32) < (3 : Int32))).2.1 ?_
        show Steps p.tables e below (T57.setTop (mkF m 27 #[.val (.int v), .val (.long ls), .second, .val (.ref w_WT), .val (.int (3 : Int32)), .val (.int (1 : Int32)), .val (.ref w_TINY)] [])) _
        refine XS.aloadN X57.here hx rfl (hb hby d2_27) rfl rfl ?_
        show Steps p.tables e below (T57.setTop (mkF m 28 #[.val (.int v), .val (.long ls), .second, .val (.ref w_WT), .val (.int (3 : Int32)), .val (.int (1 : Int32)), .val (.ref w_TINY)] [(.ref w_WT)])) _
        refine XS.iload X57.here hx rfl (hb hby d2_28) rfl ?_
        show Steps p.tables e below (T57.setTop (mkF m 30 #[.val (.int v), .val (.long ls), .second, .val (.ref w_WT), .val (.int (3 : Int32)), .val (.int (1 : Int32)), .val (.ref w_TINY)] [(.int (1 : Int32)), (.ref w_WT)])) _
        refine X57.aaload hx (j := (1 : Int32)) (v := (.ref w_MEDIUM)) (by rw [e57]; exact Ar60.1) (State.isArrayOf_alike hZ.alike Ar60.2.1) rfl Ar60.2.2 hin60 hat60 (g := (mkF m 30 #[.val (.int v), .val (.long ls), .second, .val (.ref w_WT), .val (.int (3 : Int32)), .val (.int (1 : Int32)), .val (.ref w_TINY)] [(.int (1 : Int32)), (.ref w_WT)])) rfl rfl (hb hby d2_30) _ ?_
        show Steps p.tables e below (T57.setTop (mkF m 31 #[.val (.int v), .val (.long ls), .second, .val (.ref w_WT), .val (.int (3 : Int32)), .val (.int (1 : Int32)), .val (.ref w_TINY)] [(.ref w_MEDIUM)])) _
        refine XS.astore X57.here hx rfl (hb hby d2_31) rfl rfl (l' := #[.val (.int v), .val (.long ls), .second, .val (.ref w_WT), .val (.int (3 : Int32)), .val (.int (1 : Int32)), .val (.ref w_MEDIUM)]) rfl ?_
        show Steps p.tables e below (T57.setTop (mkF m 33 #[.val (.int v), .val (.long ls), .second, .val (.ref w_WT), .val (.int (3 : Int32)), .val (.int (1 : Int32)), .val (.ref w_MEDIUM)] [])) _
        refine XS.iloadN X57.here hx rfl (hb hby d2_33) rfl ?_
        show Steps p.tables e below (T57.setTop (mkF m 34 #[.val (.int v), .val (.long ls), .second, .val (.ref w_WT), .val (.int (3 : Int32)), .val (.int (1 : Int32)), .val (.ref w_MEDIUM)] [(.int v)])) _
        refine XS.iconst X57.here hx rfl (hb hby d2_34) ?_
        show Steps p.tables e below (T57.setTop (mkF m 35 #[.val (.int v), .val (.long ls), .second, .val (.ref w_WT), .val (.int (3 : Int32)), .val (.int (1 : Int32)), .val (.ref w_MEDIUM)] [(.int (1 : Int32)), (.int v)])) _
        refine XS.isub X57.here hx rfl (hb hby d2_35) rfl ?_
        show Steps p.tables e below (T57.setTop (mkF m 36 #[.val (.int v), .val (.long ls), .second, .val (.ref w_WT), .val (.int (3 : Int32)), .val (.int (1 : Int32)), .val (.ref w_MEDIUM)] [(.int (v - (1 : Int32)))])) _
        refine XS.i2l X57.here hx rfl (hb hby d2_36) rfl ?_
        show Steps p.tables e below (T57.setTop (mkF m 37 #[.val (.int v), .val (.long ls), .second, .val (.ref w_WT), .val (.int (3 : Int32)), .val (.int (1 : Int32)), .val (.ref w_MEDIUM)] [(.long ((v - (1 : Int32)).toInt64))])) _
        refine XS.aload X57.here hx rfl (hb hby d2_37) rfl rfl ?_
        show Steps p.tables e below (T57.setTop (mkF m 39 #[.val (.int v), .val (.long ls), .second, .val (.ref w_WT), .val (.int (3 : Int32)), .val (.int (1 : Int32)), .val (.ref w_MEDIUM)] [(.ref w_MEDIUM), (.long ((v - (1 : Int32)).toInt64))])) _
        refine st61 _ ?_
        show Steps p.tables e below (T61.setTop (mkF m 42 #[.val (.int v), .val (.long ls), .second, .val (.ref w_WT), .val (.int (3 : Int32)), .val (.int (1 : Int32)), .val (.ref w_MEDIUM)] [(.int (2 : Int32)), (.long ((v - (1 : Int32)).toInt64))])) _
        refine st62 _ ?_
        show Steps p.tables e below (T62.setTop (mkF m 45 #[.val (.int v), .val (.long ls), .second, .val (.ref w_WT), .val (.int (3 : Int32)), .val (.int (1 : Int32)), .val (.ref w_MEDIUM)] [(.long (65535 : Int64)), (.long ((v - (1 : Int32)).toInt64))])) _
        refine XS.lcmp X62.here hx rfl (hb hby d2_45) rfl ?_
        exact kt
      (try clear N62q); (try clear st62); (try clear Lc62); (try clear n62); (try clear k62); (try clear L62); (try clear st61); (try clear e61); (try clear X61); (try clear T61); (try clear hat60); (try clear hin60); (try clear G60); (try clear H60_); (try clear N60_); (try clear S60); (try clear q60); (try clear Ar60); (try clear cl60)
      by_cases hc46_63 : (0 : Int32) < (lcmpW ((v - (1 : Int32)).toInt64) (65535 : Int64))
      · -- pc 46: (0 : Int32) < (lcmpW ((v - (1 : Int32)).toInt64) (65535 : Int64))
        have Vc65 := A_WT
        obtain ⟨cl65, Ar65, q65, S65, N65_, H65_, G65⟩ := Vc65
        have hin65 : ¬ ((2 : Int32) < 0 ∨ cl65.slots.size ≤ ((2 : Int32)).toNatClampNeg) := inb_of S65 ⟨by decide, by decide⟩
        have hat65 : cl65.slots[((2 : Int32)).toNatClampNeg]? = some (.ref w_LARGE) := Has.at H65_ hin65 rfl
        obtain ⟨T66, X66, e66, st66⟩ := getF X62 hx hZ hown (host := "") (Or.inl (hw _ (List.mem_of_getElem? (i := 11) rfl))) Via.refl e62 F_LARGE_countBytes (g := (mkF m 39 #[.val (.int v), .val (.long ls), .second, .val (.ref w_WT), .val (.int (3 : Int32)), .val (.int (2 : Int32)), .val (.ref w_LARGE)] [(.ref w_LARGE), (.long ((v - (1 : Int32)).toInt64))])) rfl rfl (hb hby d2_39)
        obtain ⟨_, _, ⟨T67, L67, k67, n67⟩, -, X67, ⟨Lc67, hQ67, l67, y67, z67⟩, st67⟩ := Jvm.LawKit.callS X66 hx (y := (⟨"com/example/rowstrata/rowstrata/row/VarTable", "max", "(I)J"⟩ : MethodName)) hown (mvT hZ (hw _ (List.mem_of_getElem? (i := 13) rfl))) (mvT hZ (hw _ (List.mem_of_getElem? (i := 14) rfl))) (mvT hZ (hw _ (List.mem_of_getElem? (i := 6) rfl))) (mvT hZ (hw _ (List.mem_of_getElem? (i := 15) rfl))) (by decide) (backOf (W := 2) (rm_vmax2 l Z a0 hw [] h0 n0 Z0) hZ (hw _ (List.mem_of_getElem? (i := 15) rfl)) (hw _ (List.mem_of_getElem? (i := 6) rfl)) (by decide) (by decide)) (g := (mkF m 42 #[.val (.int v), .val (.long ls), .second, .val (.ref w_WT), .val (.int (3 : Int32)), .val (.int (2 : Int32)), .val (.ref w_LARGE)] [(.int (2 : Int32)), (.long ((v - (1 : Int32)).toInt64))])) rfl (by rw [hml]; rfl) (argsL := [(.int (2 : Int32))]) (rest := [(.long ((v - (1 : Int32)).toInt64))]) (lenOf pd_55 rfl) rfl (by show 2 * 0 + _ ≤ _; exact Nat.le_of_eq rfl) (hb hby d2_42) (fun _ _ => ⟨rfl, e66, (by decide : 0 + 0 ≤ _), (by decide : 0 + 0 ≤ _)⟩)
        dsimp only [Pt.U, Pt.locs, Pt.cells, Pt.slots] at X67 l67 y67 z67 st67 hQ67
        subst l67 y67 z67
        obtain ⟨rfl, N67q, e67⟩ := hQ67
        have N67 := Fr.app N62 N67q
        have ff1 := rng32 v
        have ff2 : (2 : Int32).toInt = 2 := by decide
        have d_hc2_51 := hc2_51; rw [Int32.lt_iff_toInt_lt] at d_hc2_51
        have ff3 : (1 : Int32).toInt = 1 := by decide
        have ff4 : (v - (1 : Int32)).toInt = v.toInt - 1 := by have c_ : ((v - (1 : Int32)).toInt - (v.toInt - 1)) % 4294967296 = 0 := c_isub v (1 : Int32); have r_ := rng32 (v - (1 : Int32)); omega
        have ff5 := c_i2l (v - (1 : Int32))
        have ff6 := rng64 ((v - (1 : Int32)).toInt64)
        have ff7 : (255 : Int64).toInt = 255 := by decide
        have d_hc46_58 := own_gt_lc hc46_58
        have ff8 : (65535 : Int64).toInt = 65535 := by decide
        have d_hc46_63 := own_gt_lc hc46_63
        obtain ⟨fs, hr, hrun, hended, hW, hsame⟩ := X67.leave (v := some .null) (fun h => by rw [Bd.returns] at h; cases h)
        refine ⟨_, _, ck64 _ ?_, hrun, hended, _, _, rfl, ?_, ⟨_, rfl⟩, hW, hsame.mono (by decide) (by decide)⟩
        · show Steps p.tables e below (T62.setTop (mkF m 46 #[.val (.int v), .val (.long ls), .second, .val (.ref w_WT), .val (.int (3 : Int32)), .val (.int (1 : Int32)), .val (.ref w_MEDIUM)] [(.int (lcmpW ((v - (1 : Int32)).toInt64) (65535 : Int64)))])) _
          refine XS.ifYes X62.here hx rfl (pc0 := 46) (pc' := 73) rfl (hb hby d2_46) rfl ((if0 _ _).trans (tlt hc46_63).2.2.1) (by decide) (by decide) ?_
          show Steps p.tables e below (T62.setTop (mkF m 73 #[.val (.int v), .val (.long ls), .second, .val (.ref w_WT), .val (.int (3 : Int32)), .val (.int (1 : Int32)), .val (.ref w_MEDIUM)] [])) _
          refine XS.iinc X62.here hx rfl (hb hby d2_73) rfl (l' := #[.val (.int v), .val (.long ls), .second, .val (.ref w_WT), .val (.int (3 : Int32)), .val (.int (2 : Int32)), .val (.ref w_MEDIUM)]) rfl ?_
          show Steps p.tables e below (T62.setTop (mkF m 76 #[.val (.int v), .val (.long ls), .second, .val (.ref w_WT), .val (.int (3 : Int32)), .val (.int (2 : Int32)), .val (.ref w_MEDIUM)] [])) _
          refine XS.goto X62.here hx rfl (pc0 := 76) (pc' := 20) rfl (hb hby d2_76) (by decide) (by decide) ?_
          show Steps p.tables e below (T62.setTop (mkF m 20 #[.val (.int v), .val (.long ls), .second, .val (.ref w_WT), .val (.int (3 : Int32)), .val (.int (2 : Int32)), .val (.ref w_MEDIUM)] [])) _
          refine XS.iload X62.here hx rfl (hb hby d2_20) rfl ?_
          show Steps p.tables e below (T62.setTop (mkF m 22 #[.val (.int v), .val (.long ls), .second, .val (.ref w_WT), .val (.int (3 : Int32)), .val (.int (2 : Int32)), .val (.ref w_MEDIUM)] [(.int (2 : Int32))])) _
          refine XS.iload X62.here hx rfl (hb hby d2_22) rfl ?_
          show Steps p.tables e below (T62.setTop (mkF m 24 #[.val (.int v), .val (.long ls), .second, .val (.ref w_WT), .val (.int (3 : Int32)), .val (.int (2 : Int32)), .val (.ref w_MEDIUM)] [(.int (3 : Int32)), (.int (2 : Int32))])) _
          refine XS.icmpNo X62.here hx rfl (hb hby d2_24) rfl (tlt (by decide : (2 : Int32) < (3 : Int32))).2.1 ?_
          show Steps p.tables e below (T62.setTop (mkF m 27 #[.val (.int v), .val (.long ls), .second, .val (.ref w_WT), .val (.int (3 : Int32)), .val (.int (2 : Int32)), .val (.ref w_MEDIUM)] [])) _
          refine XS.aloadN X62.here hx rfl (hb hby d2_27) rfl rfl ?_
          show Steps p.tables e below (T62.setTop (mkF m 28 #[.val (.int v), .val (.long ls), .second, .val (.ref w_WT), .val (.int (3 : Int32)), .val (.int (2 : Int32)), .val (.ref w_MEDIUM)] [(.ref w_WT)])) _
          refine XS.iload X62.here hx rfl (hb hby d2_28) rfl ?_
          show Steps p.tables e below (T62.setTop (mkF m 30 #[.val (.int v), .val (.long ls), .second, .val (.ref w_WT), .val (.int (3 : Int32)), .val (.int (2 : Int32)), .val (.ref w_MEDIUM)] [(.int (2 : Int32)), (.ref w_WT)])) _
          refine X62.aaload hx (j := (2 : Int32)) (v := (.ref w_LARGE)) (by rw [e62]; exact Ar65.1) (State.isArrayOf_alike hZ.alike Ar65.2.1) rfl Ar65.2.2 hin65 hat65 (g := (mkF m 30 #[.val (.int v), .val (.long ls), .second, .val (.ref w_WT), .val (.int (3 : Int32)), .val (.int (2 : Int32)), .val (.ref w_MEDIUM)] [(.int (2 : Int32)), (.ref w_WT)])) rfl rfl (hb hby d2_30) _ ?_
          show Steps p.tables e below (T62.setTop (mkF m 31 #[.val (.int v), .val (.long ls), .second, .val (.ref w_WT), .val (.int (3 : Int32)), .val (.int (2 : Int32)), .val (.ref w_MEDIUM)] [(.ref w_LARGE)])) _
          refine XS.astore X62.here hx rfl (hb hby d2_31) rfl rfl (l' := #[.val (.int v), .val (.long ls), .second, .val (.ref w_WT), .val (.int (3 : Int32)), .val (.int (2 : Int32)), .val (.ref w_LARGE)]) rfl ?_
          show Steps p.tables e below (T62.setTop (mkF m 33 #[.val (.int v), .val (.long ls), .second, .val (.ref w_WT), .val (.int (3 : Int32)), .val (.int (2 : Int32)), .val (.ref w_LARGE)] [])) _
          refine XS.iloadN X62.here hx rfl (hb hby d2_33) rfl ?_
          show Steps p.tables e below (T62.setTop (mkF m 34 #[.val (.int v), .val (.long ls), .second, .val (.ref w_WT), .val (.int (3 : Int32)), .val (.int (2 : Int32)), .val (.ref w_LARGE)] [(.int v)])) _
          refine XS.iconst X62.here hx rfl (hb hby d2_34) ?_
          show Steps p.tables e below (T62.setTop (mkF m 35 #[.val (.int v), .val (.long ls), .second, .val (.ref w_WT), .val (.int (3 : Int32)), .val (.int (2 : Int32)), .val (.ref w_LARGE)] [(.int (1 : Int32)), (.int v)])) _
          refine XS.isub X62.here hx rfl (hb hby d2_35) rfl ?_
          show Steps p.tables e below (T62.setTop (mkF m 36 #[.val (.int v), .val (.long ls), .second, .val (.ref w_WT), .val (.int (3 : Int32)), .val (.int (2 : Int32)), .val (.ref w_LARGE)] [(.int (v - (1 : Int32)))])) _
          refine XS.i2l X62.here hx rfl (hb hby d2_36) rfl ?_
          show Steps p.tables e below (T62.setTop (mkF m 37 #[.val (.int v), .val (.long ls), .second, .val (.ref w_WT), .val (.int (3 : Int32)), .val (.int (2 : Int32)), .val (.ref w_LARGE)] [(.long ((v - (1 : Int32)).toInt64))])) _
          refine XS.aload X62.here hx rfl (hb hby d2_37) rfl rfl ?_
          show Steps p.tables e below (T62.setTop (mkF m 39 #[.val (.int v), .val (.long ls), .second, .val (.ref w_WT), .val (.int (3 : Int32)), .val (.int (2 : Int32)), .val (.ref w_LARGE)] [(.ref w_LARGE), (.long ((v - (1 : Int32)).toInt64))])) _
          refine st66 _ ?_
          show Steps p.tables e below (T66.setTop (mkF m 42 #[.val (.int v), .val (.long ls), .second, .val (.ref w_WT), .val (.int (3 : Int32)), .val (.int (2 : Int32)), .val (.ref w_LARGE)] [(.int (2 : Int32)), (.long ((v - (1 : Int32)).toInt64))])) _
          refine st67 _ ?_
          show Steps p.tables e below (T67.setTop (mkF m 45 #[.val (.int v), .val (.long ls), .second, .val (.ref w_WT), .val (.int (3 : Int32)), .val (.int (2 : Int32)), .val (.ref w_LARGE)] [(.long (65535 : Int64)), (.long ((v - (1 : Int32)).toInt64))])) _
          refine XS.lcmp X67.here hx rfl (hb hby d2_45) rfl ?_
          show Steps p.tables e below (T67.setTop (mkF m 46 #[.val (.int v), .val (.long ls), .second, .val (.ref w_WT), .val (.int (3 : Int32)), .val (.int (2 : Int32)), .val (.ref w_LARGE)] [(.int (lcmpW ((v - (1 : Int32)).toInt64) (65535 : Int64)))])) _
          refine XS.ifYes X67.here hx rfl (pc0 := 46) (pc' := 73) rfl (hb hby d2_46) rfl ((if0 _ _).trans (tlt hc46_63).2.2.1) (by decide) (by decide) ?_
          show Steps p.tables e below (T67.setTop (mkF m 73 #[.val (.int v), .val (.long ls), .second, .val (.ref w_WT), .val (.int (3 : Int32)), .val (.int (2 : Int32)), .val (.ref w_LARGE)] [])) _
          refine XS.iinc X67.here hx rfl (hb hby d2_73) rfl (l' := #[.val (.int v), .val (.long ls), .second, .val (.ref w_WT), .val (.int (3 : Int32)), .val (.int (3 : Int32)), .val (.ref w_LARGE)]) rfl ?_
          show Steps p.tables e below (T67.setTop (mkF m 76 #[.val (.int v), .val (.long ls), .second, .val (.ref w_WT), .val (.int (3 : Int32)), .val (.int (3 : Int32)), .val (.ref w_LARGE)] [])) _
          refine XS.goto X67.here hx rfl (pc0 := 76) (pc' := 20) rfl (hb hby d2_76) (by decide) (by decide) ?_
          show Steps p.tables e below (T67.setTop (mkF m 20 #[.val (.int v), .val (.long ls), .second, .val (.ref w_WT), .val (.int (3 : Int32)), .val (.int (3 : Int32)), .val (.ref w_LARGE)] [])) _
          refine XS.iload X67.here hx rfl (hb hby d2_20) rfl ?_
          show Steps p.tables e below (T67.setTop (mkF m 22 #[.val (.int v), .val (.long ls), .second, .val (.ref w_WT), .val (.int (3 : Int32)), .val (.int (3 : Int32)), .val (.ref w_LARGE)] [(.int (3 : Int32))])) _
          refine XS.iload X67.here hx rfl (hb hby d2_22) rfl ?_
          show Steps p.tables e below (T67.setTop (mkF m 24 #[.val (.int v), .val (.long ls), .second, .val (.ref w_WT), .val (.int (3 : Int32)), .val (.int (3 : Int32)), .val (.ref w_LARGE)] [(.int (3 : Int32)), (.int (3 : Int32))])) _
          refine XS.icmpYes X67.here hx rfl (pc0 := 24) (pc' := 79) rfl (hb hby d2_24) rfl (flt (by decide : ¬ ((3 : Int32) < (3 : Int32)))).2.1 (by decide) (by decide) ?_
          show Steps p.tables e below (T67.setTop (mkF m 79 #[.val (.int v), .val (.long ls), .second, .val (.ref w_WT), .val (.int (3 : Int32)), .val (.int (3 : Int32)), .val (.ref w_LARGE)] [])) _
          refine XS.aconstNull X67.here hx rfl (hb hby d2_79) ?_
          show Steps p.tables e below (T67.setTop (mkF m 80 #[.val (.int v), .val (.long ls), .second, .val (.ref w_WT), .val (.int (3 : Int32)), .val (.int (3 : Int32)), .val (.ref w_LARGE)] [.null])) _
          exact retOut X67 hx Bd.returns rfl (Or.inr (Or.inr (Or.inr (Or.inr ⟨rfl, rfl, rfl⟩)))) (hb hby d2_80) hr
        · show own_Pure (some (own_spec v.toInt ls.toInt w_NONE w_TINY w_MEDIUM w_LARGE)) h0 n0 _ T67.heap _
          rw [e67]
          exact ⟨congrArg some (own_spec_0 (by omega) (by omega) (by omega) (by omega)).symm, N67, rfl⟩
      · -- pc 46: not (0 : Int32) < (lcmpW ((v - (1 : Int32)).toInt64) (65535 : Int64))
        obtain ⟨cq68, kq68, q68a, q68b, q68c⟩ := isOf hZ e62 (E_MEDIUM)
        obtain ⟨_, _, ⟨T68, L68, k68, n68⟩, -, X68, ⟨Lc68, hQ68, l68, y68, z68⟩, st68⟩ := X62.virtualBack hx (y := (⟨"com/example/rowstrata/rowstrata/row/VarTable", "size", "(I)I"⟩ : MethodName)) (z := (⟨"com/example/rowstrata/rowstrata/row/VarTable", "size", "(I)I"⟩ : MethodName)) hown (mvT hZ (hw _ (List.mem_of_getElem? (i := 16) rfl))) (mvT hZ (hw _ (List.mem_of_getElem? (i := 17) rfl))) (notFace_of_selects (args := #[]) (mvT hZ (hw _ (List.mem_of_getElem? (i := 19) rfl)))) (mvT hZ (hw _ (List.mem_of_getElem? (i := 19) rfl))) (mvT hZ (hw _ (List.mem_of_getElem? (i := 18) rfl))) (by decide) (backOf (W := 2) (rm_size_MEDIUM l Z a0 hw [] w_MEDIUM v h0 n0 Z0 w_TINY w_NONE w_LARGE hWd) hZ (hw _ (List.mem_of_getElem? (i := 20) rfl)) (hw _ (List.mem_of_getElem? (i := 6) rfl)) (by decide) (by decide)) q68a q68c (g := (mkF m 53 #[.val (.int v), .val (.long ls), .second, .val (.ref w_WT), .val (.int (3 : Int32)), .val (.int (1 : Int32)), .val (.ref w_MEDIUM)] [(.int v), (.ref w_MEDIUM), (.long ls)])) rfl (by rw [hml]; rfl) (Steps.refl _) (argsL := [(.int v)]) (rest := [(.long ls)]) (lenOf pd_66 rfl) rfl (by show 2 * 0 + _ ≤ _; exact Nat.le_of_eq rfl) (hb hby d2_53) (fun _ _ => ⟨rfl, e62, (by decide : 0 + 0 ≤ _), (by decide : 0 + 0 ≤ _)⟩)
        dsimp only [Pt.U, Pt.locs, Pt.cells, Pt.slots] at X68 l68 y68 z68 st68 hQ68
        subst l68 y68 z68
        obtain ⟨rfl, N68q, e68⟩ := hQ68
        have N68 := Fr.app N62 N68q
        obtain ⟨T69, X69, e69, st69⟩ := getF X68 hx hZ hown (host := "") (Or.inl (hw _ (List.mem_of_getElem? (i := 23) rfl))) Via.refl e68 F_MEDIUM_offsetBytes (g := (mkF m 60 #[.val (.int v), .val (.long ls), .second, .val (.ref w_WT), .val (.int (3 : Int32)), .val (.int (1 : Int32)), .val (.ref w_MEDIUM)] [(.ref w_MEDIUM), (.long (ls + (((2 : Int32) + ((v - (1 : Int32)) * (2 : Int32))).toInt64)))])) rfl rfl (hb hby d2_60)
        obtain ⟨_, _, ⟨T70, L70, k70, n70⟩, -, X70, ⟨Lc70, hQ70, l70, y70, z70⟩, st70⟩ := Jvm.LawKit.callS X69 hx (y := (⟨"com/example/rowstrata/rowstrata/row/VarTable", "max", "(I)J"⟩ : MethodName)) hown (mvT hZ (hw _ (List.mem_of_getElem? (i := 13) rfl))) (mvT hZ (hw _ (List.mem_of_getElem? (i := 14) rfl))) (mvT hZ (hw _ (List.mem_of_getElem? (i := 6) rfl))) (mvT hZ (hw _ (List.mem_of_getElem? (i := 15) rfl))) (by decide) (backOf (W := 2) (rm_vmax2 l Z a0 hw [] h0 n0 Z0) hZ (hw _ (List.mem_of_getElem? (i := 15) rfl)) (hw _ (List.mem_of_getElem? (i := 6) rfl)) (by decide) (by decide)) (g := (mkF m 63 #[.val (.int v), .val (.long ls), .second, .val (.ref w_WT), .val (.int (3 : Int32)), .val (.int (1 : Int32)), .val (.ref w_MEDIUM)] [(.int (2 : Int32)), (.long (ls + (((2 : Int32) + ((v - (1 : Int32)) * (2 : Int32))).toInt64)))])) rfl (by rw [hml]; rfl) (argsL := [(.int (2 : Int32))]) (rest := [(.long (ls + (((2 : Int32) + ((v - (1 : Int32)) * (2 : Int32))).toInt64)))]) (lenOf pd_55 rfl) rfl (by show 2 * 0 + _ ≤ _; exact Nat.le_of_eq rfl) (hb hby d2_63) (fun _ _ => ⟨rfl, e69, (by decide : 0 + 0 ≤ _), (by decide : 0 + 0 ≤ _)⟩)
        dsimp only [Pt.U, Pt.locs, Pt.cells, Pt.slots] at X70 l70 y70 z70 st70 hQ70
        subst l70 y70 z70
        obtain ⟨rfl, N70q, e70⟩ := hQ70
        have N70 := Fr.app N68 N70q
        have ck72 : ∀ t, Steps p.tables e below (T70.setTop (mkF m 67 #[.val (.int v), .val (.long ls), .second, .val (.ref w_WT), .val (.int (3 : Int32)), .val (.int (1 : Int32)), .val (.ref w_MEDIUM)] [(.int (lcmpW (ls + (((2 : Int32) + ((v - (1 : Int32)) * (2 : Int32))).toInt64)) (65535 : Int64)))])) t → Steps p.tables e below (s₁.setTop (entryFrame m #[(.int v), (.long ls)] 7)) t := by
          intro t kt
          refine ck64 _ ?_
          show Steps p.tables e below (T62.setTop (mkF m 46 #[.val (.int v), .val (.long ls), .second, .val (.ref w_WT), .val (.int (3 : Int32)), .val (.int (1 : Int32)), .val (.ref w_MEDIUM)] [(.int (lcmpW ((v - (1 : Int32)).toInt64) (65535 : Int64)))])) _
          refine XS.ifNo X62.here hx rfl (hb hby d2_46) rfl ((if0 _ _).trans (flt hc46_63).2.2.1) ?_
          show Steps p.tables e below (T62.setTop (mkF m 49 #[.val (.int v), .val (.long ls), .second, .val (.ref w_WT), .val (.int (3 : Int32)), .val (.int (1 : Int32)), .val (.ref w_MEDIUM)] [])) _
          refine XS.lloadN X62.here hx rfl (hb hby d2_49) rfl ?_
          show Steps p.tables e below (T62.setTop (mkF m 50 #[.val (.int v), .val (.long ls), .second, .val (.ref w_WT), .val (.int (3 : Int32)), .val (.int (1 : Int32)), .val (.ref w_MEDIUM)] [(.long ls)])) _
          refine XS.aload X62.here hx rfl (hb hby d2_50) rfl rfl ?_
          show Steps p.tables e below (T62.setTop (mkF m 52 #[.val (.int v), .val (.long ls), .second, .val (.ref w_WT), .val (.int (3 : Int32)), .val (.int (1 : Int32)), .val (.ref w_MEDIUM)] [(.ref w_MEDIUM), (.long ls)])) _
          refine XS.iloadN X62.here hx rfl (hb hby d2_52) rfl ?_
          show Steps p.tables e below (T62.setTop (mkF m 53 #[.val (.int v), .val (.long ls), .second, .val (.ref w_WT), .val (.int (3 : Int32)), .val (.int (1 : Int32)), .val (.ref w_MEDIUM)] [(.int v), (.ref w_MEDIUM), (.long ls)])) _
          refine st68.trans ?_
          show Steps p.tables e below (T68.setTop (mkF m 56 #[.val (.int v), .val (.long ls), .second, .val (.ref w_WT), .val (.int (3 : Int32)), .val (.int (1 : Int32)), .val (.ref w_MEDIUM)] [(.int ((2 : Int32) + ((v - (1 : Int32)) * (2 : Int32)))), (.long ls)])) _
          refine XS.i2l X68.here hx rfl (hb hby d2_56) rfl ?_
          show Steps p.tables e below (T68.setTop (mkF m 57 #[.val (.int v), .val (.long ls), .second, .val (.ref w_WT), .val (.int (3 : Int32)), .val (.int (1 : Int32)), .val (.ref w_MEDIUM)] [(.long (((2 : Int32) + ((v - (1 : Int32)) * (2 : Int32))).toInt64)), (.long ls)])) _
          refine XS.ladd X68.here hx rfl (hb hby d2_57) rfl ?_
          show Steps p.tables e below (T68.setTop (mkF m 58 #[.val (.int v), .val (.long ls), .second, .val (.ref w_WT), .val (.int (3 : Int32)), .val (.int (1 : Int32)), .val (.ref w_MEDIUM)] [(.long (ls + (((2 : Int32) + ((v - (1 : Int32)) * (2 : Int32))).toInt64)))])) _
          refine XS.aload X68.here hx rfl (hb hby d2_58) rfl rfl ?_
          show Steps p.tables e below (T68.setTop (mkF m 60 #[.val (.int v), .val (.long ls), .second, .val (.ref w_WT), .val (.int (3 : Int32)), .val (.int (1 : Int32)), .val (.ref w_MEDIUM)] [(.ref w_MEDIUM), (.long (ls + (((2 : Int32) + ((v - (1 : Int32)) * (2 : Int32))).toInt64)))])) _
          refine st69 _ ?_
          show Steps p.tables e below (T69.setTop (mkF m 63 #[.val (.int v), .val (.long ls), .second, .val (.ref w_WT), .val (.int (3 : Int32)), .val (.int (1 : Int32)), .val (.ref w_MEDIUM)] [(.int (2 : Int32)), (.long (ls + (((2 : Int32) + ((v - (1 : Int32)) * (2 : Int32))).toInt64)))])) _
          refine st70 _ ?_
          show Steps p.tables e below (T70.setTop (mkF m 66 #[.val (.int v), .val (.long ls), .second, .val (.ref w_WT), .val (.int (3 : Int32)), .val (.int (1 : Int32)), .val (.ref w_MEDIUM)] [(.long (65535 : Int64)), (.long (ls + (((2 : Int32) + ((v - (1 : Int32)) * (2 : Int32))).toInt64)))])) _
          refine XS.lcmp X70.here hx rfl (hb hby d2_66) rfl ?_
          exact kt
        (try clear N70q); (try clear st70); (try clear Lc70); (try clear n70); (try clear k70); (try clear L70); (try clear st69); (try clear e69); (try clear X69); (try clear T69); (try clear N68); (try clear e68); (try clear N68q); (try clear st68); (try clear Lc68); (try clear X68); (try clear n68); (try clear k68); (try clear L68); (try clear T68); (try clear q68c); (try clear q68b); (try clear q68a); (try clear kq68); (try clear cq68)
        by_cases hc67_71 : (0 : Int32) < (lcmpW (ls + (((2 : Int32) + ((v - (1 : Int32)) * (2 : Int32))).toInt64)) (65535 : Int64))
        · -- pc 67: (0 : Int32) < (lcmpW (ls + (((2 : Int32) + ((v - (1 : Int32)) * (2 : Int32))).toInt64)) (65535 : Int64))
          have Vc73 := A_WT
          obtain ⟨cl73, Ar73, q73, S73, N73_, H73_, G73⟩ := Vc73
          have hin73 : ¬ ((2 : Int32) < 0 ∨ cl73.slots.size ≤ ((2 : Int32)).toNatClampNeg) := inb_of S73 ⟨by decide, by decide⟩
          have hat73 : cl73.slots[((2 : Int32)).toNatClampNeg]? = some (.ref w_LARGE) := Has.at H73_ hin73 rfl
          obtain ⟨T74, X74, e74, st74⟩ := getF X70 hx hZ hown (host := "") (Or.inl (hw _ (List.mem_of_getElem? (i := 11) rfl))) Via.refl e70 F_LARGE_countBytes (g := (mkF m 39 #[.val (.int v), .val (.long ls), .second, .val (.ref w_WT), .val (.int (3 : Int32)), .val (.int (2 : Int32)), .val (.ref w_LARGE)] [(.ref w_LARGE), (.long ((v - (1 : Int32)).toInt64))])) rfl rfl (hb hby d2_39)
          obtain ⟨_, _, ⟨T75, L75, k75, n75⟩, -, X75, ⟨Lc75, hQ75, l75, y75, z75⟩, st75⟩ := Jvm.LawKit.callS X74 hx (y := (⟨"com/example/rowstrata/rowstrata/row/VarTable", "max", "(I)J"⟩ : MethodName)) hown (mvT hZ (hw _ (List.mem_of_getElem? (i := 13) rfl))) (mvT hZ (hw _ (List.mem_of_getElem? (i := 14) rfl))) (mvT hZ (hw _ (List.mem_of_getElem? (i := 6) rfl))) (mvT hZ (hw _ (List.mem_of_getElem? (i := 15) rfl))) (by decide) (backOf (W := 2) (rm_vmax2 l Z a0 hw [] h0 n0 Z0) hZ (hw _ (List.mem_of_getElem? (i := 15) rfl)) (hw _ (List.mem_of_getElem? (i := 6) rfl)) (by decide) (by decide)) (g := (mkF m 42 #[.val (.int v), .val (.long ls), .second, .val (.ref w_WT), .val (.int (3 : Int32)), .val (.int (2 : Int32)), .val (.ref w_LARGE)] [(.int (2 : Int32)), (.long ((v - (1 : Int32)).toInt64))])) rfl (by rw [hml]; rfl) (argsL := [(.int (2 : Int32))]) (rest := [(.long ((v - (1 : Int32)).toInt64))]) (lenOf pd_55 rfl) rfl (by show 2 * 0 + _ ≤ _; exact Nat.le_of_eq rfl) (hb hby d2_42) (fun _ _ => ⟨rfl, e74, (by decide : 0 + 0 ≤ _), (by decide : 0 + 0 ≤ _)⟩)
          dsimp only [Pt.U, Pt.locs, Pt.cells, Pt.slots] at X75 l75 y75 z75 st75 hQ75
          subst l75 y75 z75
          obtain ⟨rfl, N75q, e75⟩ := hQ75
          have N75 := Fr.app N70 N75q
          obtain ⟨cq76, kq76, q76a, q76b, q76c⟩ := isOf hZ e75 (E_LARGE)
          obtain ⟨_, _, ⟨T76, L76, k76, n76⟩, -, X76, ⟨Lc76, hQ76, l76, y76, z76⟩, st76⟩ := X75.virtualBack hx (y := (⟨"com/example/rowstrata/rowstrata/row/VarTable", "size", "(I)I"⟩ : MethodName)) (z := (⟨"com/example/rowstrata/rowstrata/row/VarTable", "size", "(I)I"⟩ : MethodName)) hown (mvT hZ (hw _ (List.mem_of_getElem? (i := 16) rfl))) (mvT hZ (hw _ (List.mem_of_getElem? (i := 17) rfl))) (notFace_of_selects (args := #[]) (mvT hZ (hw _ (List.mem_of_getElem? (i := 19) rfl)))) (mvT hZ (hw _ (List.mem_of_getElem? (i := 19) rfl))) (mvT hZ (hw _ (List.mem_of_getElem? (i := 18) rfl))) (by decide) (backOf (W := 2) (rm_size_LARGE l Z a0 hw [] w_LARGE v h0 n0 Z0 w_TINY w_NONE w_MEDIUM hWd) hZ (hw _ (List.mem_of_getElem? (i := 20) rfl)) (hw _ (List.mem_of_getElem? (i := 6) rfl)) (by decide) (by decide)) q76a q76c (g := (mkF m 53 #[.val (.int v), .val (.long ls), .second, .val (.ref w_WT), .val (.int (3 : Int32)), .val (.int (2 : Int32)), .val (.ref w_LARGE)] [(.int v), (.ref w_LARGE), (.long ls)])) rfl (by rw [hml]; rfl) (Steps.refl _) (argsL := [(.int v)]) (rest := [(.long ls)]) (lenOf pd_66 rfl) rfl (by show 2 * 0 + _ ≤ _; exact Nat.le_of_eq rfl) (hb hby d2_53) (fun _ _ => ⟨rfl, e75, (by decide : 0 + 0 ≤ _), (by decide : 0 + 0 ≤ _)⟩)
          dsimp only [Pt.U, Pt.locs, Pt.cells, Pt.slots] at X76 l76 y76 z76 st76 hQ76
          subst l76 y76 z76
          obtain ⟨rfl, N76q, e76⟩ := hQ76
          have N76 := Fr.app N75 N76q
          obtain ⟨T77, X77, e77, st77⟩ := getF X76 hx hZ hown (host := "") (Or.inl (hw _ (List.mem_of_getElem? (i := 23) rfl))) Via.refl e76 F_LARGE_offsetBytes (g := (mkF m 60 #[.val (.int v), .val (.long ls), .second, .val (.ref w_WT), .val (.int (3 : Int32)), .val (.int (2 : Int32)), .val (.ref w_LARGE)] [(.ref w_LARGE), (.long (ls + (((2 : Int32) + ((v - (1 : Int32)) * (4 : Int32))).toInt64)))])) rfl rfl (hb hby d2_60)
          obtain ⟨_, _, ⟨T78, L78, k78, n78⟩, -, X78, ⟨Lc78, hQ78, l78, y78, z78⟩, st78⟩ := Jvm.LawKit.callS X77 hx (y := (⟨"com/example/rowstrata/rowstrata/row/VarTable", "max", "(I)J"⟩ : MethodName)) hown (mvT hZ (hw _ (List.mem_of_getElem? (i := 13) rfl))) (mvT hZ (hw _ (List.mem_of_getElem? (i := 14) rfl))) (mvT hZ (hw _ (List.mem_of_getElem? (i := 6) rfl))) (mvT hZ (hw _ (List.mem_of_getElem? (i := 15) rfl))) (by decide) (backOf (W := 2) (rm_vmax4 l Z a0 hw [] h0 n0 Z0) hZ (hw _ (List.mem_of_getElem? (i := 15) rfl)) (hw _ (List.mem_of_getElem? (i := 6) rfl)) (by decide) (by decide)) (g := (mkF m 63 #[.val (.int v), .val (.long ls), .second, .val (.ref w_WT), .val (.int (3 : Int32)), .val (.int (2 : Int32)), .val (.ref w_LARGE)] [(.int (4 : Int32)), (.long (ls + (((2 : Int32) + ((v - (1 : Int32)) * (4 : Int32))).toInt64)))])) rfl (by rw [hml]; rfl) (argsL := [(.int (4 : Int32))]) (rest := [(.long (ls + (((2 : Int32) + ((v - (1 : Int32)) * (4 : Int32))).toInt64)))]) (lenOf pd_55 rfl) rfl (by show 2 * 0 + _ ≤ _; exact Nat.le_of_eq rfl) (hb hby d2_63) (fun _ _ => ⟨rfl, e77, (by decide : 0 + 0 ≤ _), (by decide : 0 + 0 ≤ _)⟩)
          dsimp only [Pt.U, Pt.locs, Pt.cells, Pt.slots] at X78 l78 y78 z78 st78 hQ78
          subst l78 y78 z78
          obtain ⟨rfl, N78q, e78⟩ := hQ78
          have N78 := Fr.app N76 N78q
          have ck80 : ∀ t, Steps p.tables e below (T78.setTop (mkF m 67 #[.val (.int v), .val (.long ls), .second, .val (.ref w_WT), .val (.int (3 : Int32)), .val (.int (2 : Int32)), .val (.ref w_LARGE)] [(.int (lcmpW (ls + (((2 : Int32) + ((v - (1 : Int32)) * (4 : Int32))).toInt64)) (4294967295 : Int64)))])) t → Steps p.tables e below (s₁.setTop (entryFrame m #[(.int v), (.long ls)] 7)) t := by
            intro t kt
            refine ck72 _ ?_
            show Steps p.tables e below (T70.setTop (mkF m 67 #[.val (.int v), .val (.long ls), .second, .val (.ref w_WT), .val (.int (3 : Int32)), .val (.int (1 : Int32)), .val (.ref w_MEDIUM)] [(.int (lcmpW (ls + (((2 : Int32) + ((v - (1 : Int32)) * (2 : Int32))).toInt64)) (65535 : Int64)))])) _
            refine XS.ifYes X70.here hx rfl (pc0 := 67) (pc' := 73) rfl (hb hby d2_67) rfl ((if0 _ _).trans (tlt hc67_71).2.2.1) (by decide) (by decide) ?_
            show Steps p.tables e below (T70.setTop (mkF m 73 #[.val (.int v), .val (.long ls), .second, .val (.ref w_WT), .val (.int (3 : Int32)), .val (.int (1 : Int32)), .val (.ref w_MEDIUM)] [])) _
            refine XS.iinc X70.here hx rfl (hb hby d2_73) rfl (l' := #[.val (.int v), .val (.long ls), .second, .val (.ref w_WT), .val (.int (3 : Int32)), .val (.int (2 : Int32)), .val (.ref w_MEDIUM)]) rfl ?_
            show Steps p.tables e below (T70.setTop (mkF m 76 #[.val (.int v), .val (.long ls), .second, .val (.ref w_WT), .val (.int (3 : Int32)), .val (.int (2 : Int32)), .val (.ref w_MEDIUM)] [])) _
            refine XS.goto X70.here hx rfl (pc0 := 76) (pc' := 20) rfl (hb hby d2_76) (by decide) (by decide) ?_
            show Steps p.tables e below (T70.setTop (mkF m 20 #[.val (.int v), .val (.long ls), .second, .val (.ref w_WT), .val (.int (3 : Int32)), .val (.int (2 : Int32)), .val (.ref w_MEDIUM)] [])) _
            refine XS.iload X70.here hx rfl (hb hby d2_20) rfl ?_
            show Steps p.tables e below (T70.setTop (mkF m 22 #[.val (.int v), .val (.long ls), .second, .val (.ref w_WT), .val (.int (3 : Int32)), .val (.int (2 : Int32)), .val (.ref w_MEDIUM)] [(.int (2 : Int32))])) _
            refine XS.iload X70.here hx rfl (hb hby d2_22) rfl ?_
            show Steps p.tables e below (T70.setTop (mkF m 24 #[.val (.int v), .val (.long ls), .second, .val (.ref w_WT), .val (.int (3 : Int32)), .val (.int (2 : Int32)), .val (.ref w_MEDIUM)] [(.int (3 : Int32)), (.int (2 : Int32))])) _
            refine XS.icmpNo X70.here hx rfl (hb hby d2_24) rfl (tlt (by decide : (2 : Int32) < (3 : Int32))).2.1 ?_
            show Steps p.tables e below (T70.setTop (mkF m 27 #[.val (.int v), .val (.long ls), .second, .val (.ref w_WT), .val (.int (3 : Int32)), .val (.int (2 : Int32)), .val (.ref w_MEDIUM)] [])) _
            refine XS.aloadN X70.here hx rfl (hb hby d2_27) rfl rfl ?_
            show Steps p.tables e below (T70.setTop (mkF m 28 #[.val (.int v), .val (.long ls), .second, .val (.ref w_WT), .val (.int (3 : Int32)), .val (.int (2 : Int32)), .val (.ref w_MEDIUM)] [(.ref w_WT)])) _
            refine XS.iload X70.here hx rfl (hb hby d2_28) rfl ?_
            show Steps p.tables e below (T70.setTop (mkF m 30 #[.val (.int v), .val (.long ls), .second, .val (.ref w_WT), .val (.int (3 : Int32)), .val (.int (2 : Int32)), .val (.ref w_MEDIUM)] [(.int (2 : Int32)), (.ref w_WT)])) _
            refine X70.aaload hx (j := (2 : Int32)) (v := (.ref w_LARGE)) (by rw [e70]; exact Ar73.1) (State.isArrayOf_alike hZ.alike Ar73.2.1) rfl Ar73.2.2 hin73 hat73 (g := (mkF m 30 #[.val (.int v), .val (.long ls), .second, .val (.ref w_WT), .val (.int (3 : Int32)), .val (.int (2 : Int32)), .val (.ref w_MEDIUM)] [(.int (2 : Int32)), (.ref w_WT)])) rfl rfl (hb hby d2_30) _ ?_
            show Steps p.tables e below (T70.setTop (mkF m 31 #[.val (.int v), .val (.long ls), .second, .val (.ref w_WT), .val (.int (3 : Int32)), .val (.int (2 : Int32)), .val (.ref w_MEDIUM)] [(.ref w_LARGE)])) _
            refine XS.astore X70.here hx rfl (hb hby d2_31) rfl rfl (l' := #[.val (.int v), .val (.long ls), .second, .val (.ref w_WT), .val (.int (3 : Int32)), .val (.int (2 : Int32)), .val (.ref w_LARGE)]) rfl ?_
            show Steps p.tables e below (T70.setTop (mkF m 33 #[.val (.int v), .val (.long ls), .second, .val (.ref w_WT), .val (.int (3 : Int32)), .val (.int (2 : Int32)), .val (.ref w_LARGE)] [])) _
            refine XS.iloadN X70.here hx rfl (hb hby d2_33) rfl ?_
            show Steps p.tables e below (T70.setTop (mkF m 34 #[.val (.int v), .val (.long ls), .second, .val (.ref w_WT), .val (.int (3 : Int32)), .val (.int (2 : Int32)), .val (.ref w_LARGE)] [(.int v)])) _
            refine XS.iconst X70.here hx rfl (hb hby d2_34) ?_
            show Steps p.tables e below (T70.setTop (mkF m 35 #[.val (.int v), .val (.long ls), .second, .val (.ref w_WT), .val (.int (3 : Int32)), .val (.int (2 : Int32)), .val (.ref w_LARGE)] [(.int (1 : Int32)), (.int v)])) _
            refine XS.isub X70.here hx rfl (hb hby d2_35) rfl ?_
            show Steps p.tables e below (T70.setTop (mkF m 36 #[.val (.int v), .val (.long ls), .second, .val (.ref w_WT), .val (.int (3 : Int32)), .val (.int (2 : Int32)), .val (.ref w_LARGE)] [(.int (v - (1 : Int32)))])) _
            refine XS.i2l X70.here hx rfl (hb hby d2_36) rfl ?_
            show Steps p.tables e below (T70.setTop (mkF m 37 #[.val (.int v), .val (.long ls), .second, .val (.ref w_WT), .val (.int (3 : Int32)), .val (.int (2 : Int32)), .val (.ref w_LARGE)] [(.long ((v - (1 : Int32)).toInt64))])) _
            refine XS.aload X70.here hx rfl (hb hby d2_37) rfl rfl ?_
            show Steps p.tables e below (T70.setTop (mkF m 39 #[.val (.int v), .val (.long ls), .second, .val (.ref w_WT), .val (.int (3 : Int32)), .val (.int (2 : Int32)), .val (.ref w_LARGE)] [(.ref w_LARGE), (.long ((v - (1 : Int32)).toInt64))])) _
            refine st74 _ ?_
            show Steps p.tables e below (T74.setTop (mkF m 42 #[.val (.int v), .val (.long ls), .second, .val (.ref w_WT), .val (.int (3 : Int32)), .val (.int (2 : Int32)), .val (.ref w_LARGE)] [(.int (2 : Int32)), (.long ((v - (1 : Int32)).toInt64))])) _
            refine st75 _ ?_
            show Steps p.tables e below (T75.setTop (mkF m 45 #[.val (.int v), .val (.long ls), .second, .val (.ref w_WT), .val (.int (3 : Int32)), .val (.int (2 : Int32)), .val (.ref w_LARGE)] [(.long (65535 : Int64)), (.long ((v - (1 : Int32)).toInt64))])) _
            refine XS.lcmp X75.here hx rfl (hb hby d2_45) rfl ?_
            show Steps p.tables e below (T75.setTop (mkF m 46 #[.val (.int v), .val (.long ls), .second, .val (.ref w_WT), .val (.int (3 : Int32)), .val (.int (2 : Int32)), .val (.ref w_LARGE)] [(.int (lcmpW ((v - (1 : Int32)).toInt64) (65535 : Int64)))])) _
            refine XS.ifNo X75.here hx rfl (hb hby d2_46) rfl ((if0 _ _).trans (flt hc46_63).2.2.1) ?_
            show Steps p.tables e below (T75.setTop (mkF m 49 #[.val (.int v), .val (.long ls), .second, .val (.ref w_WT), .val (.int (3 : Int32)), .val (.int (2 : Int32)), .val (.ref w_LARGE)] [])) _
            refine XS.lloadN X75.here hx rfl (hb hby d2_49) rfl ?_
            show Steps p.tables e below (T75.setTop (mkF m 50 #[.val (.int v), .val (.long ls), .second, .val (.ref w_WT), .val (.int (3 : Int32)), .val (.int (2 : Int32)), .val (.ref w_LARGE)] [(.long ls)])) _
            refine XS.aload X75.here hx rfl (hb hby d2_50) rfl rfl ?_
            show Steps p.tables e below (T75.setTop (mkF m 52 #[.val (.int v), .val (.long ls), .second, .val (.ref w_WT), .val (.int (3 : Int32)), .val (.int (2 : Int32)), .val (.ref w_LARGE)] [(.ref w_LARGE), (.long ls)])) _
            refine XS.iloadN X75.here hx rfl (hb hby d2_52) rfl ?_
            show Steps p.tables e below (T75.setTop (mkF m 53 #[.val (.int v), .val (.long ls), .second, .val (.ref w_WT), .val (.int (3 : Int32)), .val (.int (2 : Int32)), .val (.ref w_LARGE)] [(.int v), (.ref w_LARGE), (.long ls)])) _
            refine st76.trans ?_
            show Steps p.tables e below (T76.setTop (mkF m 56 #[.val (.int v), .val (.long ls), .second, .val (.ref w_WT), .val (.int (3 : Int32)), .val (.int (2 : Int32)), .val (.ref w_LARGE)] [(.int ((2 : Int32) + ((v - (1 : Int32)) * (4 : Int32)))), (.long ls)])) _
            refine XS.i2l X76.here hx rfl (hb hby d2_56) rfl ?_
            show Steps p.tables e below (T76.setTop (mkF m 57 #[.val (.int v), .val (.long ls), .second, .val (.ref w_WT), .val (.int (3 : Int32)), .val (.int (2 : Int32)), .val (.ref w_LARGE)] [(.long (((2 : Int32) + ((v - (1 : Int32)) * (4 : Int32))).toInt64)), (.long ls)])) _
            refine XS.ladd X76.here hx rfl (hb hby d2_57) rfl ?_
            show Steps p.tables e below (T76.setTop (mkF m 58 #[.val (.int v), .val (.long ls), .second, .val (.ref w_WT), .val (.int (3 : Int32)), .val (.int (2 : Int32)), .val (.ref w_LARGE)] [(.long (ls + (((2 : Int32) + ((v - (1 : Int32)) * (4 : Int32))).toInt64)))])) _
            refine XS.aload X76.here hx rfl (hb hby d2_58) rfl rfl ?_
            show Steps p.tables e below (T76.setTop (mkF m 60 #[.val (.int v), .val (.long ls), .second, .val (.ref w_WT), .val (.int (3 : Int32)), .val (.int (2 : Int32)), .val (.ref w_LARGE)] [(.ref w_LARGE), (.long (ls + (((2 : Int32) + ((v - (1 : Int32)) * (4 : Int32))).toInt64)))])) _
            refine st77 _ ?_
            show Steps p.tables e below (T77.setTop (mkF m 63 #[.val (.int v), .val (.long ls), .second, .val (.ref w_WT), .val (.int (3 : Int32)), .val (.int (2 : Int32)), .val (.ref w_LARGE)] [(.int (4 : Int32)), (.long (ls + (((2 : Int32) + ((v - (1 : Int32)) * (4 : Int32))).toInt64)))])) _
            refine st78 _ ?_
            show Steps p.tables e below (T78.setTop (mkF m 66 #[.val (.int v), .val (.long ls), .second, .val (.ref w_WT), .val (.int (3 : Int32)), .val (.int (2 : Int32)), .val (.ref w_LARGE)] [(.long (4294967295 : Int64)), (.long (ls + (((2 : Int32) + ((v - (1 : Int32)) * (4 : Int32))).toInt64)))])) _
            refine XS.lcmp X78.here hx rfl (hb hby d2_66) rfl ?_
            exact kt
          (try clear N78q); (try clear st78); (try clear Lc78); (try clear n78); (try clear k78); (try clear L78); (try clear st77); (try clear e77); (try clear X77); (try clear T77); (try clear N76); (try clear e76); (try clear N76q); (try clear st76); (try clear Lc76); (try clear X76); (try clear n76); (try clear k76); (try clear L76); (try clear T76); (try clear q76c); (try clear q76b); (try clear q76a); (try clear kq76); (try clear cq76); (try clear N75); (try clear e75); (try clear N75q); (try clear st75); (try clear Lc75); (try clear X75); (try clear n75); (try clear k75); (try clear L75); (try clear T75); (try clear st74); (try clear e74); (try clear X74); (try clear T74); (try clear hat73); (try clear hin73); (try clear G73); (try clear H73_); (try clear N73_); (try clear S73); (try clear q73); (try clear Ar73); (try clear cl73)
          by_cases hc67_79 : (0 : Int32) < (lcmpW (ls + (((2 : Int32) + ((v - (1 : Int32)) * (4 : Int32))).toInt64)) (4294967295 : Int64))
          · -- pc 67: (0 : Int32) < (lcmpW (ls + (((2 : Int32) + ((v - (1 : Int32)) * (4 : Int32))).toInt64)) (4294967295 : Int64))
            have ff1 := rng32 v
            have ff2 : (2 : Int32).toInt = 2 := by decide
            have d_hc2_51 := hc2_51; rw [Int32.lt_iff_toInt_lt] at d_hc2_51
            have ff3 : (1 : Int32).toInt = 1 := by decide
            have ff4 : (v - (1 : Int32)).toInt = v.toInt - 1 := by have c_ : ((v - (1 : Int32)).toInt - (v.toInt - 1)) % 4294967296 = 0 := c_isub v (1 : Int32); have r_ := rng32 (v - (1 : Int32)); omega
            have ff5 := c_i2l (v - (1 : Int32))
            have ff6 := rng64 ((v - (1 : Int32)).toInt64)
            have ff7 : (255 : Int64).toInt = 255 := by decide
            have d_hc46_58 := own_gt_lc hc46_58
            have ff8 : (65535 : Int64).toInt = 65535 := by decide
            have d_hc46_63 := own_le_lc hc46_63
            have ff9 := rng64 ls
            have ff10 : ((v - (1 : Int32)) * (2 : Int32)).toInt = (v - (1 : Int32)).toInt * 2 := by have c_ : (((v - (1 : Int32)) * (2 : Int32)).toInt - ((v - (1 : Int32)).toInt * 2)) % 4294967296 = 0 := c_imul (v - (1 : Int32)) (2 : Int32); have r_ := rng32 ((v - (1 : Int32)) * (2 : Int32)); omega
            have ff11 : ((2 : Int32) + ((v - (1 : Int32)) * (2 : Int32))).toInt = 2 + ((v - (1 : Int32)) * (2 : Int32)).toInt := by have c_ : (((2 : Int32) + ((v - (1 : Int32)) * (2 : Int32))).toInt - (2 + ((v - (1 : Int32)) * (2 : Int32)).toInt)) % 4294967296 = 0 := c_iadd (2 : Int32) ((v - (1 : Int32)) * (2 : Int32)); have r_ := rng32 ((2 : Int32) + ((v - (1 : Int32)) * (2 : Int32))); omega
            have ff12 := c_i2l ((2 : Int32) + ((v - (1 : Int32)) * (2 : Int32)))
            have ff13 := rng64 (((2 : Int32) + ((v - (1 : Int32)) * (2 : Int32))).toInt64)
            have ff14 : (ls + (((2 : Int32) + ((v - (1 : Int32)) * (2 : Int32))).toInt64)).toInt = ls.toInt + (((2 : Int32) + ((v - (1 : Int32)) * (2 : Int32))).toInt64).toInt := by have c_ : ((ls + (((2 : Int32) + ((v - (1 : Int32)) * (2 : Int32))).toInt64)).toInt - (ls.toInt + (((2 : Int32) + ((v - (1 : Int32)) * (2 : Int32))).toInt64).toInt)) % 18446744073709551616 = 0 := c_ladd ls (((2 : Int32) + ((v - (1 : Int32)) * (2 : Int32))).toInt64); have r_ := rng64 (ls + (((2 : Int32) + ((v - (1 : Int32)) * (2 : Int32))).toInt64)); omega
            have d_hc67_71 := own_gt_lc hc67_71
            have ff15 : (4 : Int32).toInt = 4 := by decide
            have ff16 : ((v - (1 : Int32)) * (4 : Int32)).toInt = (v - (1 : Int32)).toInt * 4 := by have c_ : (((v - (1 : Int32)) * (4 : Int32)).toInt - ((v - (1 : Int32)).toInt * 4)) % 4294967296 = 0 := c_imul (v - (1 : Int32)) (4 : Int32); have r_ := rng32 ((v - (1 : Int32)) * (4 : Int32)); omega
            have ff17 : ((2 : Int32) + ((v - (1 : Int32)) * (4 : Int32))).toInt = 2 + ((v - (1 : Int32)) * (4 : Int32)).toInt := by have c_ : (((2 : Int32) + ((v - (1 : Int32)) * (4 : Int32))).toInt - (2 + ((v - (1 : Int32)) * (4 : Int32)).toInt)) % 4294967296 = 0 := c_iadd (2 : Int32) ((v - (1 : Int32)) * (4 : Int32)); have r_ := rng32 ((2 : Int32) + ((v - (1 : Int32)) * (4 : Int32))); omega
            have ff18 := c_i2l ((2 : Int32) + ((v - (1 : Int32)) * (4 : Int32)))
            have ff19 := rng64 (((2 : Int32) + ((v - (1 : Int32)) * (4 : Int32))).toInt64)
            have ff20 : (ls + (((2 : Int32) + ((v - (1 : Int32)) * (4 : Int32))).toInt64)).toInt = ls.toInt + (((2 : Int32) + ((v - (1 : Int32)) * (4 : Int32))).toInt64).toInt := by have c_ : ((ls + (((2 : Int32) + ((v - (1 : Int32)) * (4 : Int32))).toInt64)).toInt - (ls.toInt + (((2 : Int32) + ((v - (1 : Int32)) * (4 : Int32))).toInt64).toInt)) % 18446744073709551616 = 0 := c_ladd ls (((2 : Int32) + ((v - (1 : Int32)) * (4 : Int32))).toInt64); have r_ := rng64 (ls + (((2 : Int32) + ((v - (1 : Int32)) * (4 : Int32))).toInt64)); omega
            have ff21 : (4294967295 : Int64).toInt = 4294967295 := by decide
            have d_hc67_79 := own_gt_lc hc67_79
            obtain ⟨fs, hr, hrun, hended, hW, hsame⟩ := X78.leave (v := some .null) (fun h => by rw [Bd.returns] at h; cases h)
            refine ⟨_, _, ck80 _ ?_, hrun, hended, _, _, rfl, ?_, ⟨_, rfl⟩, hW, hsame.mono (by decide) (by decide)⟩
            · show Steps p.tables e below (T78.setTop (mkF m 67 #[.val (.int v), .val (.long ls), .second, .val (.ref w_WT), .val (.int (3 : Int32)), .val (.int (2 : Int32)), .val (.ref w_LARGE)] [(.int (lcmpW (ls + (((2 : Int32) + ((v - (1 : Int32)) * (4 : Int32))).toInt64)) (4294967295 : Int64)))])) _
              refine XS.ifYes X78.here hx rfl (pc0 := 67) (pc' := 73) rfl (hb hby d2_67) rfl ((if0 _ _).trans (tlt hc67_79).2.2.1) (by decide) (by decide) ?_
              show Steps p.tables e below (T78.setTop (mkF m 73 #[.val (.int v), .val (.long ls), .second, .val (.ref w_WT), .val (.int (3 : Int32)), .val (.int (2 : Int32)), .val (.ref w_LARGE)] [])) _
              refine XS.iinc X78.here hx rfl (hb hby d2_73) rfl (l' := #[.val (.int v), .val (.long ls), .second, .val (.ref w_WT), .val (.int (3 : Int32)), .val (.int (3 : Int32)), .val (.ref w_LARGE)]) rfl ?_
              show Steps p.tables e below (T78.setTop (mkF m 76 #[.val (.int v), .val (.long ls), .second, .val (.ref w_WT), .val (.int (3 : Int32)), .val (.int (3 : Int32)), .val (.ref w_LARGE)] [])) _
              refine XS.goto X78.here hx rfl (pc0 := 76) (pc' := 20) rfl (hb hby d2_76) (by decide) (by decide) ?_
              show Steps p.tables e below (T78.setTop (mkF m 20 #[.val (.int v), .val (.long ls), .second, .val (.ref w_WT), .val (.int (3 : Int32)), .val (.int (3 : Int32)), .val (.ref w_LARGE)] [])) _
              refine XS.iload X78.here hx rfl (hb hby d2_20) rfl ?_
              show Steps p.tables e below (T78.setTop (mkF m 22 #[.val (.int v), .val (.long ls), .second, .val (.ref w_WT), .val (.int (3 : Int32)), .val (.int (3 : Int32)), .val (.ref w_LARGE)] [(.int (3 : Int32))])) _
              refine XS.iload X78.here hx rfl (hb hby d2_22) rfl ?_
              show Steps p.tables e below (T78.setTop (mkF m 24 #[.val (.int v), .val (.long ls), .second, .val (.ref w_WT), .val (.int (3 : Int32)), .val (.int (3 : Int32)), .val (.ref w_LARGE)] [(.int (3 : Int32)), (.int (3 : Int32))])) _
              refine XS.icmpYes X78.here hx rfl (pc0 := 24) (pc' := 79) rfl (hb hby d2_24) rfl (flt (by decide : ¬ ((3 : Int32) < (3 : Int32)))).2.1 (by decide) (by decide) ?_
              show Steps p.tables e below (T78.setTop (mkF m 79 #[.val (.int v), .val (.long ls), .second, .val (.ref w_WT), .val (.int (3 : Int32)), .val (.int (3 : Int32)), .val (.ref w_LARGE)] [])) _
              refine XS.aconstNull X78.here hx rfl (hb hby d2_79) ?_
              show Steps p.tables e below (T78.setTop (mkF m 80 #[.val (.int v), .val (.long ls), .second, .val (.ref w_WT), .val (.int (3 : Int32)), .val (.int (3 : Int32)), .val (.ref w_LARGE)] [.null])) _
              exact retOut X78 hx Bd.returns rfl (Or.inr (Or.inr (Or.inr (Or.inr ⟨rfl, rfl, rfl⟩)))) (hb hby d2_80) hr
            · show own_Pure (some (own_spec v.toInt ls.toInt w_NONE w_TINY w_MEDIUM w_LARGE)) h0 n0 _ T78.heap _
              rw [e78]
              exact ⟨congrArg some (own_spec_0 (by omega) (by omega) (by omega) (by omega)).symm, N78, rfl⟩
          · -- pc 67: not (0 : Int32) < (lcmpW (ls + (((2 : Int32) + ((v - (1 : Int32)) * (4 : Int32))).toInt64)) (4294967295 : Int64))
            have ff1 := rng32 v
            have ff2 : (2 : Int32).toInt = 2 := by decide
            have d_hc2_51 := hc2_51; rw [Int32.lt_iff_toInt_lt] at d_hc2_51
            have ff3 : (1 : Int32).toInt = 1 := by decide
            have ff4 : (v - (1 : Int32)).toInt = v.toInt - 1 := by have c_ : ((v - (1 : Int32)).toInt - (v.toInt - 1)) % 4294967296 = 0 := c_isub v (1 : Int32); have r_ := rng32 (v - (1 : Int32)); omega
            have ff5 := c_i2l (v - (1 : Int32))
            have ff6 := rng64 ((v - (1 : Int32)).toInt64)
            have ff7 : (255 : Int64).toInt = 255 := by decide
            have d_hc46_58 := own_gt_lc hc46_58
            have ff8 : (65535 : Int64).toInt = 65535 := by decide
            have d_hc46_63 := own_le_lc hc46_63
            have ff9 := rng64 ls
            have ff10 : ((v - (1 : Int32)) * (2 : Int32)).toInt = (v - (1 : Int32)).toInt * 2 := by have c_ : (((v - (1 : Int32)) * (2 : Int32)).toInt - ((v - (1 : Int32)).toInt * 2)) % 4294967296 = 0 := c_imul (v - (1 : Int32)) (2 : Int32); have r_ := rng32 ((v - (1 : Int32)) * (2 : Int32)); omega
            have ff11 : ((2 : Int32) + ((v - (1 : Int32)) * (2 : Int32))).toInt = 2 + ((v - (1 : Int32)) * (2 : Int32)).toInt := by have c_ : (((2 : Int32) + ((v - (1 : Int32)) * (2 : Int32))).toInt - (2 + ((v - (1 : Int32)) * (2 : Int32)).toInt)) % 4294967296 = 0 := c_iadd (2 : Int32) ((v - (1 : Int32)) * (2 : Int32)); have r_ := rng32 ((2 : Int32) + ((v - (1 : Int32)) * (2 : Int32))); omega
            have ff12 := c_i2l ((2 : Int32) + ((v - (1 : Int32)) * (2 : Int32)))
            have ff13 := rng64 (((2 : Int32) + ((v - (1 : Int32)) * (2 : Int32))).toInt64)
            have ff14 : (ls + (((2 : Int32) + ((v - (1 : Int32)) * (2 : Int32))).toInt64)).toInt = ls.toInt + (((2 : Int32) + ((v - (1 : Int32)) * (2 : Int32))).toInt64).toInt := by have c_ : ((ls + (((2 : Int32) + ((v - (1 : Int32)) * (2 : Int32))).toInt64)).toInt - (ls.toInt + (((2 : Int32) + ((v - (1 : Int32)) * (2 : Int32))).toInt64).toInt)) % 18446744073709551616 = 0 := c_ladd ls (((2 : Int32) + ((v - (1 : Int32)) * (2 : Int32))).toInt64); have r_ := rng64 (ls + (((2 : Int32) + ((v - (1 : Int32)) * (2 : Int32))).toInt64)); omega
            have d_hc67_71 := own_gt_lc hc67_71
            have ff15 : (4 : Int32).toInt = 4 := by decide
            have ff16 : ((v - (1 : Int32)) * (4 : Int32)).toInt = (v - (1 : Int32)).toInt * 4 := by have c_ : (((v - (1 : Int32)) * (4 : Int32)).toInt - ((v - (1 : Int32)).toInt * 4)) % 4294967296 = 0 := c_imul (v - (1 : Int32)) (4 : Int32); have r_ := rng32 ((v - (1 : Int32)) * (4 : Int32)); omega
            have ff17 : ((2 : Int32) + ((v - (1 : Int32)) * (4 : Int32))).toInt = 2 + ((v - (1 : Int32)) * (4 : Int32)).toInt := by have c_ : (((2 : Int32) + ((v - (1 : Int32)) * (4 : Int32))).toInt - (2 + ((v - (1 : Int32)) * (4 : Int32)).toInt)) % 4294967296 = 0 := c_iadd (2 : Int32) ((v - (1 : Int32)) * (4 : Int32)); have r_ := rng32 ((2 : Int32) + ((v - (1 : Int32)) * (4 : Int32))); omega
            have ff18 := c_i2l ((2 : Int32) + ((v - (1 : Int32)) * (4 : Int32)))
            have ff19 := rng64 (((2 : Int32) + ((v - (1 : Int32)) * (4 : Int32))).toInt64)
            have ff20 : (ls + (((2 : Int32) + ((v - (1 : Int32)) * (4 : Int32))).toInt64)).toInt = ls.toInt + (((2 : Int32) + ((v - (1 : Int32)) * (4 : Int32))).toInt64).toInt := by have c_ : ((ls + (((2 : Int32) + ((v - (1 : Int32)) * (4 : Int32))).toInt64)).toInt - (ls.toInt + (((2 : Int32) + ((v - (1 : Int32)) * (4 : Int32))).toInt64).toInt)) % 18446744073709551616 = 0 := c_ladd ls (((2 : Int32) + ((v - (1 : Int32)) * (4 : Int32))).toInt64); have r_ := rng64 (ls + (((2 : Int32) + ((v - (1 : Int32)) * (4 : Int32))).toInt64)); omega
            have ff21 : (4294967295 : Int64).toInt = 4294967295 := by decide
            have d_hc67_79 := own_le_lc hc67_79
            obtain ⟨fs, hr, hrun, hended, hW, hsame⟩ := X78.leave (v := some (.ref w_LARGE)) (fun h => by rw [Bd.returns] at h; cases h)
            refine ⟨_, _, ck80 _ ?_, hrun, hended, _, _, rfl, ?_, ⟨_, rfl⟩, hW, hsame.mono (by decide) (by decide)⟩
            · show Steps p.tables e below (T78.setTop (mkF m 67 #[.val (.int v), .val (.long ls), .second, .val (.ref w_WT), .val (.int (3 : Int32)), .val (.int (2 : Int32)), .val (.ref w_LARGE)] [(.int (lcmpW (ls + (((2 : Int32) + ((v - (1 : Int32)) * (4 : Int32))).toInt64)) (4294967295 : Int64)))])) _
              refine XS.ifNo X78.here hx rfl (hb hby d2_67) rfl ((if0 _ _).trans (flt hc67_79).2.2.1) ?_
              show Steps p.tables e below (T78.setTop (mkF m 70 #[.val (.int v), .val (.long ls), .second, .val (.ref w_WT), .val (.int (3 : Int32)), .val (.int (2 : Int32)), .val (.ref w_LARGE)] [])) _
              refine XS.aload X78.here hx rfl (hb hby d2_70) rfl rfl ?_
              show Steps p.tables e below (T78.setTop (mkF m 72 #[.val (.int v), .val (.long ls), .second, .val (.ref w_WT), .val (.int (3 : Int32)), .val (.int (2 : Int32)), .val (.ref w_LARGE)] [(.ref w_LARGE)])) _
              exact retOut X78 hx Bd.returns rfl (Or.inr (Or.inr (Or.inr (Or.inr ⟨rfl, rfl, rfl⟩)))) (hb hby d2_72) hr
            · show own_Pure (some (own_spec v.toInt ls.toInt w_NONE w_TINY w_MEDIUM w_LARGE)) h0 n0 _ T78.heap _
              rw [e78]
              exact ⟨congrArg some (own_spec_L (by omega) (by omega) (by omega) (by omega)).symm, N78, rfl⟩
        · -- pc 67: not (0 : Int32) < (lcmpW (ls + (((2 : Int32) + ((v - (1 : Int32)) * (2 : Int32))).toInt64)) (65535 : Int64))
          have ff1 := rng32 v
          have ff2 : (2 : Int32).toInt = 2 := by decide
          have d_hc2_51 := hc2_51; rw [Int32.lt_iff_toInt_lt] at d_hc2_51
          have ff3 : (1 : Int32).toInt = 1 := by decide
          have ff4 : (v - (1 : Int32)).toInt = v.toInt - 1 := by have c_ : ((v - (1 : Int32)).toInt - (v.toInt - 1)) % 4294967296 = 0 := c_isub v (1 : Int32); have r_ := rng32 (v - (1 : Int32)); omega
          have ff5 := c_i2l (v - (1 : Int32))
          have ff6 := rng64 ((v - (1 : Int32)).toInt64)
          have ff7 : (255 : Int64).toInt = 255 := by decide
          have d_hc46_58 := own_gt_lc hc46_58
          have ff8 : (65535 : Int64).toInt = 65535 := by decide
          have d_hc46_63 := own_le_lc hc46_63
          have ff9 := rng64 ls
          have ff10 : ((v - (1 : Int32)) * (2 : Int32)).toInt = (v - (1 : Int32)).toInt * 2 := by have c_ : (((v - (1 : Int32)) * (2 : Int32)).toInt - ((v - (1 : Int32)).toInt * 2)) % 4294967296 = 0 := c_imul (v - (1 : Int32)) (2 : Int32); have r_ := rng32 ((v - (1 : Int32)) * (2 : Int32)); omega
          have ff11 : ((2 : Int32) + ((v - (1 : Int32)) * (2 : Int32))).toInt = 2 + ((v - (1 : Int32)) * (2 : Int32)).toInt := by have c_ : (((2 : Int32) + ((v - (1 : Int32)) * (2 : Int32))).toInt - (2 + ((v - (1 : Int32)) * (2 : Int32)).toInt)) % 4294967296 = 0 := c_iadd (2 : Int32) ((v - (1 : Int32)) * (2 : Int32)); have r_ := rng32 ((2 : Int32) + ((v - (1 : Int32)) * (2 : Int32))); omega
          have ff12 := c_i2l ((2 : Int32) + ((v - (1 : Int32)) * (2 : Int32)))
          have ff13 := rng64 (((2 : Int32) + ((v - (1 : Int32)) * (2 : Int32))).toInt64)
          have ff14 : (ls + (((2 : Int32) + ((v - (1 : Int32)) * (2 : Int32))).toInt64)).toInt = ls.toInt + (((2 : Int32) + ((v - (1 : Int32)) * (2 : Int32))).toInt64).toInt := by have c_ : ((ls + (((2 : Int32) + ((v - (1 : Int32)) * (2 : Int32))).toInt64)).toInt - (ls.toInt + (((2 : Int32) + ((v - (1 : Int32)) * (2 : Int32))).toInt64).toInt)) % 18446744073709551616 = 0 := c_ladd ls (((2 : Int32) + ((v - (1 : Int32)) * (2 : Int32))).toInt64); have r_ := rng64 (ls + (((2 : Int32) + ((v - (1 : Int32)) * (2 : Int32))).toInt64)); omega
          have d_hc67_71 := own_le_lc hc67_71
          obtain ⟨fs, hr, hrun, hended, hW, hsame⟩ := X70.leave (v := some (.ref w_MEDIUM)) (fun h => by rw [Bd.returns] at h; cases h)
          refine ⟨_, _, ck72 _ ?_, hrun, hended, _, _, rfl, ?_, ⟨_, rfl⟩, hW, hsame.mono (by decide) (by decide)⟩
          · show Steps p.tables e below (T70.setTop (mkF m 67 #[.val (.int v), .val (.long ls), .second, .val (.ref w_WT), .val (.int (3 : Int32)), .val (.int (1 : Int32)), .val (.ref w_MEDIUM)] [(.int (lcmpW (ls + (((2 : Int32) + ((v - (1 : Int32)) * (2 : Int32))).toInt64)) (65535 : Int64)))])) _
            refine XS.ifNo X70.here hx rfl (hb hby d2_67) rfl ((if0 _ _).trans (flt hc67_71).2.2.1) ?_
            show Steps p.tables e below (T70.setTop (mkF m 70 #[.val (.int v), .val (.long ls), .second, .val (.ref w_WT), .val (.int (3 : Int32)), .val (.int (1 : Int32)), .val (.ref w_MEDIUM)] [])) _
            refine XS.aload X70.here hx rfl (hb hby d2_70) rfl rfl ?_
            show Steps p.tables e below (T70.setTop (mkF m 72 #[.val (.int v), .val (.long ls), .second, .val (.ref w_WT), .val (.int (3 : Int32)), .val (.int (1 : Int32)), .val (.ref w_MEDIUM)] [(.ref w_MEDIUM)])) _
            exact retOut X70 hx Bd.returns rfl (Or.inr (Or.inr (Or.inr (Or.inr ⟨rfl, rfl, rfl⟩)))) (hb hby d2_72) hr
          · show own_Pure (some (own_spec v.toInt ls.toInt w_NONE w_TINY w_MEDIUM w_LARGE)) h0 n0 _ T70.heap _
            rw [e70]
            exact ⟨congrArg some (own_spec_M (by omega) (by omega) (by omega)).symm, N70, rfl⟩
    · -- pc 46: not (0 : Int32) < (lcmpW ((v - (1 : Int32)).toInt64) (255 : Int64))
      obtain ⟨cq81, kq81, q81a, q81b, q81c⟩ := isOf hZ e57 (E_TINY)
      obtain ⟨_, _, ⟨T81, L81, k81, n81⟩, -, X81, ⟨Lc81, hQ81, l81, y81, z81⟩, st81⟩ := X57.virtualBack hx (y := (⟨"com/example/rowstrata/rowstrata/row/VarTable", "size", "(I)I"⟩ : MethodName)) (z := (⟨"com/example/rowstrata/rowstrata/row/VarTable", "size", "(I)I"⟩ : MethodName)) hown (mvT hZ (hw _ (List.mem_of_getElem? (i := 16) rfl))) (mvT hZ (hw _ (List.mem_of_getElem? (i := 17) rfl))) (notFace_of_selects (args := #[]) (mvT hZ (hw _ (List.mem_of_getElem? (i := 19) rfl)))) (mvT hZ (hw _ (List.mem_of_getElem? (i := 19) rfl))) (mvT hZ (hw _ (List.mem_of_getElem? (i := 18) rfl))) (by decide) (backOf (W := 2) (rm_size_TINY l Z a0 hw [] w_TINY v h0 n0 Z0 w_NONE w_MEDIUM w_LARGE hWd) hZ (hw _ (List.mem_of_getElem? (i := 20) rfl)) (hw _ (List.mem_of_getElem? (i := 6) rfl)) (by decide) (by decide)) q81a q81c (g := (mkF m 53 #[.val (.int v), .val (.long ls), .second, .val (.ref w_WT), .val (.int (3 : Int32)), .val (.int (0 : Int32)), .val (.ref w_TINY)] [(.int v), (.ref w_TINY), (.long ls)])) rfl (by rw [hml]; rfl) (Steps.refl _) (argsL := [(.int v)]) (rest := [(.long ls)]) (lenOf pd_66 rfl) rfl (by show 2 * 0 + _ ≤ _; exact Nat.le_of_eq rfl) (hb hby d2_53) (fun _ _ => ⟨rfl, e57, (by decide : 0 + 0 ≤ _), (by decide : 0 + 0 ≤ _)⟩)
      dsimp only [Pt.U, Pt.locs, Pt.cells, Pt.slots] at X81 l81 y81 z81 st81 hQ81
      subst l81 y81 z81
      obtain ⟨rfl, N81q, e81⟩ := hQ81
      have N81 := Fr.app N57 N81q
      obtain ⟨T82, X82, e82, st82⟩ := getF X81 hx hZ hown (host := "") (Or.inl (hw _ (List.mem_of_getElem? (i := 23) rfl))) Via.refl e81 F_TINY_offsetBytes (g := (mkF m 60 #[.val (.int v), .val (.long ls), .second, .val (.ref w_WT), .val (.int (3 : Int32)), .val (.int (0 : Int32)), .val (.ref w_TINY)] [(.ref w_TINY), (.long (ls + (((1 : Int32) + ((v - (1 : Int32)) * (1 : Int32))).toInt64)))])) rfl rfl (hb hby d2_60)
      obtain ⟨_, _, ⟨T83, L83, k83, n83⟩, -, X83, ⟨Lc83, hQ83, l83, y83, z83⟩, st83⟩ := Jvm.LawKit.callS X82 hx (y := (⟨"com/example/rowstrata/rowstrata/row/VarTable", "max", "(I)J"⟩ : MethodName)) hown (mvT hZ (hw _ (List.mem_of_getElem? (i := 13) rfl))) (mvT hZ (hw _ (List.mem_of_getElem? (i := 14) rfl))) (mvT hZ (hw _ (List.mem_of_getElem? (i := 6) rfl))) (mvT hZ (hw _ (List.mem_of_getElem? (i := 15) rfl))) (by decide) (backOf (W := 2) (rm_vmax1 l Z a0 hw [] h0 n0 Z0) hZ (hw _ (List.mem_of_getElem? (i := 15) rfl)) (hw _ (List.mem_of_getElem? (i := 6) rfl)) (by decide) (by decide)) (g := (mkF m 63 #[.val (.int v), .val (.long ls), .second, .val (.ref w_WT), .val (.int (3 : Int32)), .val (.int (0 : Int32)), .val (.ref w_TINY)] [(.int (1 : Int32)), (.long (ls + (((1 : Int32) + ((v - (1 : Int32)) * (1 : Int32))).toInt64)))])) rfl (by rw [hml]; rfl) (argsL := [(.int (1 : Int32))]) (rest := [(.long (ls + (((1 : Int32) + ((v - (1 : Int32)) * (1 : Int32))).toInt64)))]) (lenOf pd_55 rfl) rfl (by show 2 * 0 + _ ≤ _; exact Nat.le_of_eq rfl) (hb hby d2_63) (fun _ _ => ⟨rfl, e82, (by decide : 0 + 0 ≤ _), (by decide : 0 + 0 ≤ _)⟩)
      dsimp only [Pt.U, Pt.locs, Pt.cells, Pt.slots] at X83 l83 y83 z83 st83 hQ83
      subst l83 y83 z83
      obtain ⟨rfl, N83q, e83⟩ := hQ83
      have N83 := Fr.app N81 N83q
      have ck85 : ∀ t, Steps p.tables e below (T83.setTop (mkF m 67 #[.val (.int v), .val (.long ls), .second, .val (.ref w_WT), .val (.int (3 : Int32)), .val (.int (0 : Int32)), .val (.ref w_TINY)] [(.int (lcmpW (ls + (((1 : Int32) + ((v - (1 : Int32)) * (1 : Int32))).toInt64)) (255 : Int64)))])) t → Steps p.tables e below (s₁.setTop (entryFrame m #[(.int v), (.long ls)] 7)) t := by
        intro t kt
        refine ck59 _ ?_
        show Steps p.tables e below (T57.setTop (mkF m 46 #[.val (.int v), .val (.long ls), .second, .val (.ref w_WT), .val (.int (3 : Int32)), .val (.int (0 : Int32)), .val (.ref w_TINY)] [(.int (lcmpW ((v - (1 : Int32)).toInt64) (255 : Int64)))])) _
        refine XS.ifNo X57.here hx rfl (hb hby d2_46) rfl ((if0 _ _).trans (flt hc46_58).2.2.1) ?_
        show Steps p.tables e below (T57.setTop (mkF m 49 #[.val (.int v), .val (.long ls), .second, .val (.ref w_WT), .val (.int (3 : Int32)), .val (.int (0 : Int32)), .val (.ref w_TINY)] [])) _
        refine XS.lloadN X57.here hx rfl (hb hby d2_49) rfl ?_
        show Steps p.tables e below (T57.setTop (mkF m 50 #[.val (.int v), .val (.long ls), .second, .val (.ref w_WT), .val (.int (3 : Int32)), .val (.int (0 : Int32)), .val (.ref w_TINY)] [(.long ls)])) _
        refine XS.aload X57.here hx rfl (hb hby d2_50) rfl rfl ?_
        show Steps p.tables e below (T57.setTop (mkF m 52 #[.val (.int v), .val (.long ls), .second, .val (.ref w_WT), .val (.int (3 : Int32)), .val (.int (0 : Int32)), .val (.ref w_TINY)] [(.ref w_TINY), (.long ls)])) _
        refine XS.iloadN X57.here hx rfl (hb hby d2_52) rfl ?_
        show Steps p.tables e below (T57.setTop (mkF m 53 #[.val (.int v), .val (.long ls), .second, .val (.ref w_WT), .val (.int (3 : Int32)), .val (.int (0 : Int32)), .val (.ref w_TINY)] [(.int v), (.ref w_TINY), (.long ls)])) _
        refine st81.trans ?_
        show Steps p.tables e below (T81.setTop (mkF m 56 #[.val (.int v), .val (.long ls), .second, .val (.ref w_WT), .val (.int (3 : Int32)), .val (.int (0 : Int32)), .val (.ref w_TINY)] [(.int ((1 : Int32) + ((v - (1 : Int32)) * (1 : Int32)))), (.long ls)])) _
        refine XS.i2l X81.here hx rfl (hb hby d2_56) rfl ?_
        show Steps p.tables e below (T81.setTop (mkF m 57 #[.val (.int v), .val (.long ls), .second, .val (.ref w_WT), .val (.int (3 : Int32)), .val (.int (0 : Int32)), .val (.ref w_TINY)] [(.long (((1 : Int32) + ((v - (1 : Int32)) * (1 : Int32))).toInt64)), (.long ls)])) _
        refine XS.ladd X81.here hx rfl (hb hby d2_57) rfl ?_
        show Steps p.tables e below (T81.setTop (mkF m 58 #[.val (.int v), .val (.long ls), .second, .val (.ref w_WT), .val (.int (3 : Int32)), .val (.int (0 : Int32)), .val (.ref w_TINY)] [(.long (ls + (((1 : Int32) + ((v - (1 : Int32)) * (1 : Int32))).toInt64)))])) _
        refine XS.aload X81.here hx rfl (hb hby d2_58) rfl rfl ?_
        show Steps p.tables e below (T81.setTop (mkF m 60 #[.val (.int v), .val (.long ls), .second, .val (.ref w_WT), .val (.int (3 : Int32)), .val (.int (0 : Int32)), .val (.ref w_TINY)] [(.ref w_TINY), (.long (ls + (((1 : Int32) + ((v - (1 : Int32)) * (1 : Int32))).toInt64)))])) _
        refine st82 _ ?_
        show Steps p.tables e below (T82.setTop (mkF m 63 #[.val (.int v), .val (.long ls), .second, .val (.ref w_WT), .val (.int (3 : Int32)), .val (.int (0 : Int32)), .val (.ref w_TINY)] [(.int (1 : Int32)), (.long (ls + (((1 : Int32) + ((v - (1 : Int32)) * (1 : Int32))).toInt64)))])) _
        refine st83 _ ?_
        show Steps p.tables e below (T83.setTop (mkF m 66 #[.val (.int v), .val (.long ls), .second, .val (.ref w_WT), .val (.int (3 : Int32)), .val (.int (0 : Int32)), .val (.ref w_TINY)] [(.long (255 : Int64)), (.long (ls + (((1 : Int32) + ((v - (1 : Int32)) * (1 : Int32))).toInt64)))])) _
        refine XS.lcmp X83.here hx rfl (hb hby d2_66) rfl ?_
        exact kt
      (try clear N83q); (try clear st83); (try clear Lc83); (try clear n83); (try clear k83); (try clear L83); (try clear st82); (try clear e82); (try clear X82); (try clear T82); (try clear N81); (try clear e81); (try clear N81q); (try clear st81); (try clear Lc81); (try clear X81); (try clear n81); (try clear k81); (try clear L81); (try clear T81); (try clear q81c); (try clear q81b); (try clear q81a); (try clear kq81); (try clear cq81)
      by_cases hc67_84 : (0 : Int32) < (lcmpW (ls + (((1 : Int32) + ((v - (1 : Int32)) * (1 : Int32))).toInt64)) (255 : Int64))
      · -- pc 67: (0 : Int32) < (lcmpW (ls + (((1 : Int32) + ((v - (1 : Int32)) * (1 : Int32))).toInt64)) (255 : Int64))
        have Vc86 := A_WT
        obtain ⟨cl86, Ar86, q86, S86, N86_, H86_, G86⟩ := Vc86
        have hin86 : ¬ ((1 : Int32) < 0 ∨ cl86.slots.size ≤ ((1 : Int32)).toNatClampNeg) := inb_of S86 ⟨by decide, by decide⟩
        have hat86 : cl86.slots[((1 : Int32)).toNatClampNeg]? = some (.ref w_MEDIUM) := Has.at H86_ hin86 rfl
        obtain ⟨T87, X87, e87, st87⟩ := getF X83 hx hZ hown (host := "") (Or.inl (hw _ (List.mem_of_getElem? (i := 11) rfl))) Via.refl e83 F_MEDIUM_countBytes (g := (mkF m 39 #[.val (.int v), .val (.long ls), .second, .val (.ref w_WT), .val (.int (3 : Int32)), .val (.int (1 : Int32)), .val (.ref w_MEDIUM)] [(.ref w_MEDIUM), (.long ((v - (1 : Int32)).toInt64))])) rfl rfl (hb hby d2_39)
        obtain ⟨_, _, ⟨T88, L88, k88, n88⟩, -, X88, ⟨Lc88, hQ88, l88, y88, z88⟩, st88⟩ := Jvm.LawKit.callS X87 hx (y := (⟨"com/example/rowstrata/rowstrata/row/VarTable", "max", "(I)J"⟩ : MethodName)) hown (mvT hZ (hw _ (List.mem_of_getElem? (i := 13) rfl))) (mvT hZ (hw _ (List.mem_of_getElem? (i := 14) rfl))) (mvT hZ (hw _ (List.mem_of_getElem? (i := 6) rfl))) (mvT hZ (hw _ (List.mem_of_getElem? (i := 15) rfl))) (by decide) (backOf (W := 2) (rm_vmax2 l Z a0 hw [] h0 n0 Z0) hZ (hw _ (List.mem_of_getElem? (i := 15) rfl)) (hw _ (List.mem_of_getElem? (i := 6) rfl)) (by decide) (by decide)) (g := (mkF m 42 #[.val (.int v), .val (.long ls), .second, .val (.ref w_WT), .val (.int (3 : Int32)), .val (.int (1 : Int32)), .val (.ref w_MEDIUM)] [(.int (2 : Int32)), (.long ((v - (1 : Int32)).toInt64))])) rfl (by rw [hml]; rfl) (argsL := [(.int (2 : Int32))]) (rest := [(.long ((v - (1 : Int32)).toInt64))]) (lenOf pd_55 rfl) rfl (by show 2 * 0 + _ ≤ _; exact Nat.le_of_eq rfl) (hb hby d2_42) (fun _ _ => ⟨rfl, e87, (by decide : 0 + 0 ≤ _), (by decide : 0 + 0 ≤ _)⟩)
        dsimp only [Pt.U, Pt.locs, Pt.cells, Pt.slots] at X88 l88 y88 z88 st88 hQ88
        subst l88 y88 z88
        obtain ⟨rfl, N88q, e88⟩ := hQ88
        have N88 := Fr.app N83 N88q
        have ck90 : ∀ t, Steps p.tables e below (T88.setTop (mkF m 46 #[.val (.int v), .val (.long ls), .second, .val (.ref w_WT), .val (.int (3 : Int32)), .val (.int (1 : Int32)), .val (.ref w_MEDIUM)] [(.int (lcmpW ((v - (1 : Int32)).toInt64) (65535 : Int64)))])) t → Steps p.tables e below (s₁.setTop (entryFrame m #[(.int v), (.long ls)] 7)) t := by
          intro t kt
          refine ck85 _ ?_
          show Steps p.tables e below (T83.setTop (mkF m 67 #[.val (.int v), .val (.long ls), .second, .val (.ref w_WT), .val (.int (3 : Int32)), .val (.int (0 : Int32)), .val (.ref w_TINY)] [(.int (lcmpW (ls + (((1 : Int32) + ((v - (1 : Int32)) * (1 : Int32))).toInt64)) (255 : Int64)))])) _
          refine XS.ifYes X83.here hx rfl (pc0 := 67) (pc' := 73) rfl (hb hby d2_67) rfl ((if0 _ _).trans (tlt hc67_84).2.2.1) (by decide) (by decide) ?_
          show Steps p.tables e below (T83.setTop (mkF m 73 #[.val (.int v), .val (.long ls), .second, .val (.ref w_WT), .val (.int (3 : Int32)), .val (.int (0 : Int32)), .val (.ref w_TINY)] [])) _
          refine XS.iinc X83.here hx rfl (hb hby d2_73) rfl (l' := #[.val (.int v), .val (.long ls), .second, .val (.ref w_WT), .val (.int (3 : Int32)), .val (.int (1 : Int32)), .val (.ref w_TINY)]) rfl ?_
          show Steps p.tables e below (T83.setTop (mkF m 76 #[.val (.int v), .val (.long ls), .second, .val (.ref w_WT), .val (.int (3 : Int32)), .val (.int (1 : Int32)), .val (.ref w_TINY)] [])) _
          refine XS.goto X83.here hx rfl (pc0 := 76) (pc' := 20) rfl (hb hby d2_76) (by decide) (by decide) ?_
          show Steps p.tables e below (T83.setTop (mkF m 20 #[.val (.int v), .val (.long ls), .second, .val (.ref w_WT), .val (.int (3 : Int32)), .val (.int (1 : Int32)), .val (.ref w_TINY)] [])) _
          refine XS.iload X83.here hx rfl (hb hby d2_20) rfl ?_
          show Steps p.tables e below (T83.setTop (mkF m 22 #[.val (.int v), .val (.long ls), .second, .val (.ref w_WT), .val (.int (3 : Int32)), .val (.int (1 : Int32)), .val (.ref w_TINY)] [(.int (1 : Int32))])) _
          refine XS.iload X83.here hx rfl (hb hby d2_22) rfl ?_
          show Steps p.tables e below (T83.setTop (mkF m 24 #[.val (.int v), .val (.long ls), .second, .val (.ref w_WT), .val (.int (3 : Int32)), .val (.int (1 : Int32)), .val (.ref w_TINY)] [(.int (3 : Int32)), (.int (1 : Int32))])) _
          refine XS.icmpNo X83.here hx rfl (hb hby d2_24) rfl (tlt (by decide : (1 : Int32) < (3 : Int32))).2.1 ?_
          show Steps p.tables e below (T83.setTop (mkF m 27 #[.val (.int v), .val (.long ls), .second, .val (.ref w_WT), .val (.int (3 : Int32)), .val (.int (1 : Int32)), .val (.ref w_TINY)] [])) _
          refine XS.aloadN X83.here hx rfl (hb hby d2_27) rfl rfl ?_
          show Steps p.tables e below (T83.setTop (mkF m 28 #[.val (.int v), .val (.long ls), .second, .val (.ref w_WT), .val (.int (3 : Int32)), .val (.int (1 : Int32)), .val (.ref w_TINY)] [(.ref w_WT)])) _
          refine XS.iload X83.here hx rfl (hb hby d2_28) rfl ?_
          show Steps p.tables e below (T83.setTop (mkF m 30 #[.val (.int v), .val (.long ls), .second, .val (.ref w_WT), .val (.int (3 : Int32)), .val (.int (1 : Int32)), .val (.ref w_TINY)] [(.int (1 : Int32)), (.ref w_WT)])) _
          refine X83.aaload hx (j := (1 : Int32)) (v := (.ref w_MEDIUM)) (by rw [e83]; exact Ar86.1) (State.isArrayOf_alike hZ.alike Ar86.2.1) rfl Ar86.2.2 hin86 hat86 (g := (mkF m 30 #[.val (.int v), .val (.long ls), .second, .val (.ref w_WT), .val (.int (3 : Int32)), .val (.int (1 : Int32)), .val (.ref w_TINY)] [(.int (1 : Int32)), (.ref w_WT)])) rfl rfl (hb hby d2_30) _ ?_
          show Steps p.tables e below (T83.setTop (mkF m 31 #[.val (.int v), .val (.long ls), .second, .val (.ref w_WT), .val (.int (3 : Int32)), .val (.int (1 : Int32)), .val (.ref w_TINY)] [(.ref w_MEDIUM)])) _
          refine XS.astore X83.here hx rfl (hb hby d2_31) rfl rfl (l' := #[.val (.int v), .val (.long ls), .second, .val (.ref w_WT), .val (.int (3 : Int32)), .val (.int (1 : Int32)), .val (.ref w_MEDIUM)]) rfl ?_
          show Steps p.tables e below (T83.setTop (mkF m 33 #[.val (.int v), .val (.long ls), .second, .val (.ref w_WT), .val (.int (3 : Int32)), .val (.int (1 : Int32)), .val (.ref w_MEDIUM)] [])) _
          refine XS.iloadN X83.here hx rfl (hb hby d2_33) rfl ?_
          show Steps p.tables e below (T83.setTop (mkF m 34 #[.val (.int v), .val (.long ls), .second, .val (.ref w_WT), .val (.int (3 : Int32)), .val (.int (1 : Int32)), .val (.ref w_MEDIUM)] [(.int v)])) _
          refine XS.iconst X83.here hx rfl (hb hby d2_34) ?_
          show Steps p.tables e below (T83.setTop (mkF m 35 #[.val (.int v), .val (.long ls), .second, .val (.ref w_WT), .val (.int (3 : Int32)), .val (.int (1 : Int32)), .val (.ref w_MEDIUM)] [(.int (1 : Int32)), (.int v)])) _
          refine XS.isub X83.here hx rfl (hb hby d2_35) rfl ?_
          show Steps p.tables e below (T83.setTop (mkF m 36 #[.val (.int v), .val (.long ls), .second, .val (.ref w_WT), .val (.int (3 : Int32)), .val (.int (1 : Int32)), .val (.ref w_MEDIUM)] [(.int (v - (1 : Int32)))])) _
          refine XS.i2l X83.here hx rfl (hb hby d2_36) rfl ?_
          show Steps p.tables e below (T83.setTop (mkF m 37 #[.val (.int v), .val (.long ls), .second, .val (.ref w_WT), .val (.int (3 : Int32)), .val (.int (1 : Int32)), .val (.ref w_MEDIUM)] [(.long ((v - (1 : Int32)).toInt64))])) _
          refine XS.aload X83.here hx rfl (hb hby d2_37) rfl rfl ?_
          show Steps p.tables e below (T83.setTop (mkF m 39 #[.val (.int v), .val (.long ls), .second, .val (.ref w_WT), .val (.int (3 : Int32)), .val (.int (1 : Int32)), .val (.ref w_MEDIUM)] [(.ref w_MEDIUM), (.long ((v - (1 : Int32)).toInt64))])) _
          refine st87 _ ?_
          show Steps p.tables e below (T87.setTop (mkF m 42 #[.val (.int v), .val (.long ls), .second, .val (.ref w_WT), .val (.int (3 : Int32)), .val (.int (1 : Int32)), .val (.ref w_MEDIUM)] [(.int (2 : Int32)), (.long ((v - (1 : Int32)).toInt64))])) _
          refine st88 _ ?_
          show Steps p.tables e below (T88.setTop (mkF m 45 #[.val (.int v), .val (.long ls), .second, .val (.ref w_WT), .val (.int (3 : Int32)), .val (.int (1 : Int32)), .val (.ref w_MEDIUM)] [(.long (65535 : Int64)), (.long ((v - (1 : Int32)).toInt64))])) _
          refine XS.lcmp X88.here hx rfl (hb hby d2_45) rfl ?_
          exact kt
        (try clear N88q); (try clear st88); (try clear Lc88); (try clear n88); (try clear k88); (try clear L88); (try clear st87); (try clear e87); (try clear X87); (try clear T87); (try clear hat86); (try clear hin86); (try clear G86); (try clear H86_); (try clear N86_); (try clear S86); (try clear q86); (try clear Ar86); (try clear cl86)
        by_cases hc46_89 : (0 : Int32) < (lcmpW ((v - (1 : Int32)).toInt64) (65535 : Int64))
        · -- pc 46: (0 : Int32) < (lcmpW ((v - (1 : Int32)).toInt64) (65535 : Int64))
          have Vc91 := A_WT
          obtain ⟨cl91, Ar91, q91, S91, N91_, H91_, G91⟩ := Vc91
          have hin91 : ¬ ((2 : Int32) < 0 ∨ cl91.slots.size ≤ ((2 : Int32)).toNatClampNeg) := inb_of S91 ⟨by decide, by decide⟩
          have hat91 : cl91.slots[((2 : Int32)).toNatClampNeg]? = some (.ref w_LARGE) := Has.at H91_ hin91 rfl
          obtain ⟨T92, X92, e92, st92⟩ := getF X88 hx hZ hown (host := "") (Or.inl (hw _ (List.mem_of_getElem? (i := 11) rfl))) Via.refl e88 F_LARGE_countBytes (g := (mkF m 39 #[.val (.int v), .val (.long ls), .second, .val (.ref w_WT), .val (.int (3 : Int32)), .val (.int (2 : Int32)), .val (.ref w_LARGE)] [(.ref w_LARGE), (.long ((v - (1 : Int32)).toInt64))])) rfl rfl (hb hby d2_39)
          obtain ⟨_, _, ⟨T93, L93, k93, n93⟩, -, X93, ⟨Lc93, hQ93, l93, y93, z93⟩, st93⟩ := Jvm.LawKit.callS X92 hx (y := (⟨"com/example/rowstrata/rowstrata/row/VarTable", "max", "(I)J"⟩ : MethodName)) hown (mvT hZ (hw _ (List.mem_of_getElem? (i := 13) rfl))) (mvT hZ (hw _ (List.mem_of_getElem? (i := 14) rfl))) (mvT hZ (hw _ (List.mem_of_getElem? (i := 6) rfl))) (mvT hZ (hw _ (List.mem_of_getElem? (i := 15) rfl))) (by decide) (backOf (W := 2) (rm_vmax2 l Z a0 hw [] h0 n0 Z0) hZ (hw _ (List.mem_of_getElem? (i := 15) rfl)) (hw _ (List.mem_of_getElem? (i := 6) rfl)) (by decide) (by decide)) (g := (mkF m 42 #[.val (.int v), .val (.long ls), .second, .val (.ref w_WT), .val (.int (3 : Int32)), .val (.int (2 : Int32)), .val (.ref w_LARGE)] [(.int (2 : Int32)), (.long ((v - (1 : Int32)).toInt64))])) rfl (by rw [hml]; rfl) (argsL := [(.int (2 : Int32))]) (rest := [(.long ((v - (1 : Int32)).toInt64))]) (lenOf pd_55 rfl) rfl (by show 2 * 0 + _ ≤ _; exact Nat.le_of_eq rfl) (hb hby d2_42) (fun _ _ => ⟨rfl, e92, (by decide : 0 + 0 ≤ _), (by decide : 0 + 0 ≤ _)⟩)
          dsimp only [Pt.U, Pt.locs, Pt.cells, Pt.slots] at X93 l93 y93 z93 st93 hQ93
          subst l93 y93 z93
          obtain ⟨rfl, N93q, e93⟩ := hQ93
          have N93 := Fr.app N88 N93q
          have ff1 := rng32 v
          have ff2 : (2 : Int32).toInt = 2 := by decide
          have d_hc2_51 := hc2_51; rw [Int32.lt_iff_toInt_lt] at d_hc2_51
          have ff3 : (1 : Int32).toInt = 1 := by decide
          have ff4 : (v - (1 : Int32)).toInt = v.toInt - 1 := by have c_ : ((v - (1 : Int32)).toInt - (v.toInt - 1)) % 4294967296 = 0 := c_isub v (1 : Int32); have r_ := rng32 (v - (1 : Int32)); omega
          have ff5 := c_i2l (v - (1 : Int32))
          have ff6 := rng64 ((v - (1 : Int32)).toInt64)
          have ff7 : (255 : Int64).toInt = 255 := by decide
          have d_hc46_58 := own_le_lc hc46_58
          have ff8 := rng64 ls
          have ff9 : ((v - (1 : Int32)) * (1 : Int32)).toInt = (v - (1 : Int32)).toInt * 1 := by have c_ : (((v - (1 : Int32)) * (1 : Int32)).toInt - ((v - (1 : Int32)).toInt * 1)) % 4294967296 = 0 := c_imul (v - (1 : Int32)) (1 : Int32); have r_ := rng32 ((v - (1 : Int32)) * (1 : Int32)); omega
          have ff10 : ((1 : Int32) + ((v - (1 : Int32)) * (1 : Int32))).toInt = 1 + ((v - (1 : Int32)) * (1 : Int32)).toInt := by have c_ : (((1 : Int32) + ((v - (1 : Int32)) * (1 : Int32))).toInt - (1 + ((v - (1 : Int32)) * (1 : Int32)).toInt)) % 4294967296 = 0 := c_iadd (1 : Int32) ((v - (1 : Int32)) * (1 : Int32)); have r_ := rng32 ((1 : Int32) + ((v - (1 : Int32)) * (1 : Int32))); omega
          have ff11 := c_i2l ((1 : Int32) + ((v - (1 : Int32)) * (1 : Int32)))
          have ff12 := rng64 (((1 : Int32) + ((v - (1 : Int32)) * (1 : Int32))).toInt64)
          have ff13 : (ls + (((1 : Int32) + ((v - (1 : Int32)) * (1 : Int32))).toInt64)).toInt = ls.toInt + (((1 : Int32) + ((v - (1 : Int32)) * (1 : Int32))).toInt64).toInt := by have c_ : ((ls + (((1 : Int32) + ((v - (1 : Int32)) * (1 : Int32))).toInt64)).toInt - (ls.toInt + (((1 : Int32) + ((v - (1 : Int32)) * (1 : Int32))).toInt64).toInt)) % 18446744073709551616 = 0 := c_ladd ls (((1 : Int32) + ((v - (1 : Int32)) * (1 : Int32))).toInt64); have r_ := rng64 (ls + (((1 : Int32) + ((v - (1 : Int32)) * (1 : Int32))).toInt64)); omega
          have d_hc67_84 := own_gt_lc hc67_84
          have ff14 : (65535 : Int64).toInt = 65535 := by decide
          have d_hc46_89 := own_gt_lc hc46_89
          obtain ⟨fs, hr, hrun, hended, hW, hsame⟩ := X93.leave (v := some .null) (fun h => by rw [Bd.returns] at h; cases h)
          refine ⟨_, _, ck90 _ ?_, hrun, hended, _, _, rfl, ?_, ⟨_, rfl⟩, hW, hsame.mono (by decide) (by decide)⟩
          · show Steps p.tables e below (T88.setTop (mkF m 46 #[.val (.int v), .val (.long ls), .second, .val (.ref w_WT), .val (.int (3 : Int32)), .val (.int (1 : Int32)), .val (.ref w_MEDIUM)] [(.int (lcmpW ((v - (1 : Int32)).toInt64) (65535 : Int64)))])) _
            refine XS.ifYes X88.here hx rfl (pc0 := 46) (pc' := 73) rfl (hb hby d2_46) rfl ((if0 _ _).trans (tlt hc46_89).2.2.1) (by decide) (by decide) ?_
            show Steps p.tables e below (T88.setTop (mkF m 73 #[.val (.int v), .val (.long ls), .second, .val (.ref w_WT), .val (.int (3 : Int32)), .val (.int (1 : Int32)), .val (.ref w_MEDIUM)] [])) _
            refine XS.iinc X88.here hx rfl (hb hby d2_73) rfl (l' := #[.val (.int v), .val (.long ls), .second, .val (.ref w_WT), .val (.int (3 : Int32)), .val (.int (2 : Int32)), .val (.ref w_MEDIUM)]) rfl ?_
            show Steps p.tables e below (T88.setTop (mkF m 76 #[.val (.int v), .val (.long ls), .second, .val (.ref w_WT), .val (.int (3 : Int32)), .val (.int (2 : Int32)), .val (.ref w_MEDIUM)] [])) _
            refine XS.goto X88.here hx rfl (pc0 := 76) (pc' := 20) rfl (hb hby d2_76) (by decide) (by decide) ?_
            show Steps p.tables e below (T88.setTop (mkF m 20 #[.val (.int v), .val (.long ls), .second, .val (.ref w_WT), .val (.int (3 : Int32)), .val (.int (2 : Int32)), .val (.ref w_MEDIUM)] [])) _
            refine XS.iload X88.here hx rfl (hb hby d2_20) rfl ?_
            show Steps p.tables e below (T88.setTop (mkF m 22 #[.val (.int v), .val (.long ls), .second, .val (.ref w_WT), .val (.int (3 : Int32)), .val (.int (2 : Int32)), .val (.ref w_MEDIUM)] [(.int (2 : Int32))])) _
            refine XS.iload X88.here hx rfl (hb hby d2_22) rfl ?_
            show Steps p.tables e below (T88.setTop (mkF m 24 #[.val (.int v), .val (.long ls), .second, .val (.ref w_WT), .val (.int (3 : Int32)), .val (.int (2 : Int32)), .val (.ref w_MEDIUM)] [(.int (3 : Int32)), (.int (2 : Int32))])) _
            refine XS.icmpNo X88.here hx rfl (hb hby d2_24) rfl (tlt (by decide : (2 : Int32) < (3 : Int32))).2.1 ?_
            show Steps p.tables e below (T88.setTop (mkF m 27 #[.val (.int v), .val (.long ls), .second, .val (.ref w_WT), .val (.int (3 : Int32)), .val (.int (2 : Int32)), .val (.ref w_MEDIUM)] [])) _
            refine XS.aloadN X88.here hx rfl (hb hby d2_27) rfl rfl ?_
            show Steps p.tables e below (T88.setTop (mkF m 28 #[.val (.int v), .val (.long ls), .second, .val (.ref w_WT), .val (.int (3 : Int32)), .val (.int (2 : Int32)), .val (.ref w_MEDIUM)] [(.ref w_WT)])) _
            refine XS.iload X88.here hx rfl (hb hby d2_28) rfl ?_
            show Steps p.tables e below (T88.setTop (mkF m 30 #[.val (.int v), .val (.long ls), .second, .val (.ref w_WT), .val (.int (3 : Int32)), .val (.int (2 : Int32)), .val (.ref w_MEDIUM)] [(.int (2 : Int32)), (.ref w_WT)])) _
            refine X88.aaload hx (j := (2 : Int32)) (v := (.ref w_LARGE)) (by rw [e88]; exact Ar91.1) (State.isArrayOf_alike hZ.alike Ar91.2.1) rfl Ar91.2.2 hin91 hat91 (g := (mkF m 30 #[.val (.int v), .val (.long ls), .second, .val (.ref w_WT), .val (.int (3 : Int32)), .val (.int (2 : Int32)), .val (.ref w_MEDIUM)] [(.int (2 : Int32)), (.ref w_WT)])) rfl rfl (hb hby d2_30) _ ?_
            show Steps p.tables e below (T88.setTop (mkF m 31 #[.val (.int v), .val (.long ls), .second, .val (.ref w_WT), .val (.int (3 : Int32)), .val (.int (2 : Int32)), .val (.ref w_MEDIUM)] [(.ref w_LARGE)])) _
            refine XS.astore X88.here hx rfl (hb hby d2_31) rfl rfl (l' := #[.val (.int v), .val (.long ls), .second, .val (.ref w_WT), .val (.int (3 : Int32)), .val (.int (2 : Int32)), .val (.ref w_LARGE)]) rfl ?_
            show Steps p.tables e below (T88.setTop (mkF m 33 #[.val (.int v), .val (.long ls), .second, .val (.ref w_WT), .val (.int (3 : Int32)), .val (.int (2 : Int32)), .val (.ref w_LARGE)] [])) _
            refine XS.iloadN X88.here hx rfl (hb hby d2_33) rfl ?_
            show Steps p.tables e below (T88.setTop (mkF m 34 #[.val (.int v), .val (.long ls), .second, .val (.ref w_WT), .val (.int (3 : Int32)), .val (.int (2 : Int32)), .val (.ref w_LARGE)] [(.int v)])) _
            refine XS.iconst X88.here hx rfl (hb hby d2_34) ?_
            show Steps p.tables e below (T88.setTop (mkF m 35 #[.val (.int v), .val (.long ls), .second, .val (.ref w_WT), .val (.int (3 : Int32)), .val (.int (2 : Int32)), .val (.ref w_LARGE)] [(.int (1 : Int32)), (.int v)])) _
            refine XS.isub X88.here hx rfl (hb hby d2_35) rfl ?_
            show Steps p.tables e below (T88.setTop (mkF m 36 #[.val (.int v), .val (.long ls), .second, .val (.ref w_WT), .val (.int (3 : Int32)), .val (.int (2 : Int32)), .val (.ref w_LARGE)] [(.int (v - (1 : Int32)))])) _
            refine XS.i2l X88.here hx rfl (hb hby d2_36) rfl ?_
            show Steps p.tables e below (T88.setTop (mkF m 37 #[.val (.int v), .val (.long ls), .second, .val (.ref w_WT), .val (.int (3 : Int32)), .val (.int (2 : Int32)), .val (.ref w_LARGE)] [(.long ((v - (1 : Int32)).toInt64))])) _
            refine XS.aload X88.here hx rfl (hb hby d2_37) rfl rfl ?_
            show Steps p.tables e below (T88.setTop (mkF m 39 #[.val (.int v), .val (.long ls), .second, .val (.ref w_WT), .val (.int (3 : Int32)), .val (.int (2 : Int32)), .val (.ref w_LARGE)] [(.ref w_LARGE), (.long ((v - (1 : Int32)).toInt64))])) _
            refine st92 _ ?_
            show Steps p.tables e below (T92.setTop (mkF m 42 #[.val (.int v), .val (.long ls), .second, .val (.ref w_WT), .val (.int (3 : Int32)), .val (.int (2 : Int32)), .val (.ref w_LARGE)] [(.int (2 : Int32)), (.long ((v - (1 : Int32)).toInt64))])) _
            refine st93 _ ?_
            show Steps p.tables e below (T93.setTop (mkF m 45 #[.val (.int v), .val (.long ls), .second, .val (.ref w_WT), .val (.int (3 : Int32)), .val (.int (2 : Int32)), .val (.ref w_LARGE)] [(.long (65535 : Int64)), (.long ((v - (1 : Int32)).toInt64))])) _
            refine XS.lcmp X93.here hx rfl (hb hby d2_45) rfl ?_
            show Steps p.tables e below (T93.setTop (mkF m 46 #[.val (.int v), .val (.long ls), .second, .val (.ref w_WT), .val (.int (3 : Int32)), .val (.int (2 : Int32)), .val (.ref w_LARGE)] [(.int (lcmpW ((v - (1 : Int32)).toInt64) (65535 : Int64)))])) _
            refine XS.ifYes X93.here hx rfl (pc0 := 46) (pc' := 73) rfl (hb hby d2_46) rfl ((if0 _ _).trans (tlt hc46_89).2.2.1) (by decide) (by decide) ?_
            show Steps p.tables e below (T93.setTop (mkF m 73 #[.val (.int v), .val (.long ls), .second, .val (.ref w_WT), .val (.int (3 : Int32)), .val (.int (2 : Int32)), .val (.ref w_LARGE)] [])) _
            refine XS.iinc X93.here hx rfl (hb hby d2_73) rfl (l' := #[.val (.int v), .val (.long ls), .second, .val (.ref w_WT), .val (.int (3 : Int32)), .val (.int (3 : Int32)), .val (.ref w_LARGE)]) rfl ?_
            show Steps p.tables e below (T93.setTop (mkF m 76 #[.val (.int v), .val (.long ls), .second, .val (.ref w_WT), .val (.int (3 : Int32)), .val (.int (3 : Int32)), .val (.ref w_LARGE)] [])) _
            refine XS.goto X93.here hx rfl (pc0 := 76) (pc' := 20) rfl (hb hby d2_76) (by decide) (by decide) ?_
            show Steps p.tables e below (T93.setTop (mkF m 20 #[.val (.int v), .val (.long ls), .second, .val (.ref w_WT), .val (.int (3 : Int32)), .val (.int (3 : Int32)), .val (.ref w_LARGE)] [])) _
            refine XS.iload X93.here hx rfl (hb hby d2_20) rfl ?_
            show Steps p.tables e below (T93.setTop (mkF m 22 #[.val (.int v), .val (.long ls), .second, .val (.ref w_WT), .val (.int (3 : Int32)), .val (.int (3 : Int32)), .val (.ref w_LARGE)] [(.int (3 : Int32))])) _
            refine XS.iload X93.here hx rfl (hb hby d2_22) rfl ?_
            show Steps p.tables e below (T93.setTop (mkF m 24 #[.val (.int v), .val (.long ls), .second, .val (.ref w_WT), .val (.int (3 : Int32)), .val (.int (3 : Int32)), .val (.ref w_LARGE)] [(.int (3 : Int32)), (.int (3 : Int32))])) _
            refine XS.icmpYes X93.here hx rfl (pc0 := 24) (pc' := 79) rfl (hb hby d2_24) rfl (flt (by decide : ¬ ((3 : Int32) < (3 : Int32)))).2.1 (by decide) (by decide) ?_
            show Steps p.tables e below (T93.setTop (mkF m 79 #[.val (.int v), .val (.long ls), .second, .val (.ref w_WT), .val (.int (3 : Int32)), .val (.int (3 : Int32)), .val (.ref w_LARGE)] [])) _
            refine XS.aconstNull X93.here hx rfl (hb hby d2_79) ?_
            show Steps p.tables e below (T93.setTop (mkF m 80 #[.val (.int v), .val (.long ls), .second, .val (.ref w_WT), .val (.int (3 : Int32)), .val (.int (3 : Int32)), .val (.ref w_LARGE)] [.null])) _
            exact retOut X93 hx Bd.returns rfl (Or.inr (Or.inr (Or.inr (Or.inr ⟨rfl, rfl, rfl⟩)))) (hb hby d2_80) hr
          · show own_Pure (some (own_spec v.toInt ls.toInt w_NONE w_TINY w_MEDIUM w_LARGE)) h0 n0 _ T93.heap _
            rw [e93]
            exact ⟨congrArg some (own_spec_0 (by omega) (by omega) (by omega) (by omega)).symm, N93, rfl⟩
        · -- pc 46: not (0 : Int32) < (lcmpW ((v - (1 : Int32)).toInt64) (65535 : Int64))
          obtain ⟨cq94, kq94, q94a, q94b, q94c⟩ := isOf hZ e88 (E_MEDIUM)
          obtain ⟨_, _, ⟨T94, L94, k94, n94⟩, -, X94, ⟨Lc94, hQ94, l94, y94, z94⟩, st94⟩ := X88.virtualBack hx (y := (⟨"com/example/rowstrata/rowstrata/row/VarTable", "size", "(I)I"⟩ : MethodName)) (z := (⟨"com/example/rowstrata/rowstrata/row/VarTable", "size", "(I)I"⟩ : MethodName)) hown (mvT hZ (hw _ (List.mem_of_getElem? (i := 16) rfl))) (mvT hZ (hw _ (List.mem_of_getElem? (i := 17) rfl))) (notFace_of_selects (args := #[]) (mvT hZ (hw _ (List.mem_of_getElem? (i := 19) rfl)))) (mvT hZ (hw _ (List.mem_of_getElem? (i := 19) rfl))) (mvT hZ (hw _ (List.mem_of_getElem? (i := 18) rfl))) (by decide) (backOf (W := 2) (rm_size_MEDIUM l Z a0 hw [] w_MEDIUM v h0 n0 Z0 w_TINY w_NONE w_LARGE hWd) hZ (hw _ (List.mem_of_getElem? (i := 20) rfl)) (hw _ (List.mem_of_getElem? (i := 6) rfl)) (by decide) (by decide)) q94a q94c (g := (mkF m 53 #[.val (.int v), .val (.long ls), .second, .val (.ref w_WT), .val (.int (3 : Int32)), .val (.int (1 : Int32)), .val (.ref w_MEDIUM)] [(.int v), (.ref w_MEDIUM), (.long ls)])) rfl (by rw [hml]; rfl) (Steps.refl _) (argsL := [(.int v)]) (rest := [(.long ls)]) (lenOf pd_66 rfl) rfl (by show 2 * 0 + _ ≤ _; exact Nat.le_of_eq rfl) (hb hby d2_53) (fun _ _ => ⟨rfl, e88, (by decide : 0 + 0 ≤ _), (by decide : 0 + 0 ≤ _)⟩)
          dsimp only [Pt.U, Pt.locs, Pt.cells, Pt.slots] at X94 l94 y94 z94 st94 hQ94
          subst l94 y94 z94
          obtain ⟨rfl, N94q, e94⟩ := hQ94
          have N94 := Fr.app N88 N94q
          obtain ⟨T95, X95, e95, st95⟩ := getF X94 hx hZ hown (host := "") (Or.inl (hw _ (List.mem_of_getElem? (i := 23) rfl))) Via.refl e94 F_MEDIUM_offsetBytes (g := (mkF m 60 #[.val (.int v), .val (.long ls), .second, .val (.ref w_WT), .val (.int (3 : Int32)), .val (.int (1 : Int32)), .val (.ref w_MEDIUM)] [(.ref w_MEDIUM), (.long (ls + (((2 : Int32) + ((v - (1 : Int32)) * (2 : Int32))).toInt64)))])) rfl rfl (hb hby d2_60)
          obtain ⟨_, _, ⟨T96, L96, k96, n96⟩, -, X96, ⟨Lc96, hQ96, l96, y96, z96⟩, st96⟩ := Jvm.LawKit.callS X95 hx (y := (⟨"com/example/rowstrata/rowstrata/row/VarTable", "max", "(I)J"⟩ : MethodName)) hown (mvT hZ (hw _ (List.mem_of_getElem? (i := 13) rfl))) (mvT hZ (hw _ (List.mem_of_getElem? (i := 14) rfl))) (mvT hZ (hw _ (List.mem_of_getElem? (i := 6) rfl))) (mvT hZ (hw _ (List.mem_of_getElem? (i := 15) rfl))) (by decide) (backOf (W := 2) (rm_vmax2 l Z a0 hw [] h0 n0 Z0) hZ (hw _ (List.mem_of_getElem? (i := 15) rfl)) (hw _ (List.mem_of_getElem? (i := 6) rfl)) (by decide) (by decide)) (g := (mkF m 63 #[.val (.int v), .val (.long ls), .second, .val (.ref w_WT), .val (.int (3 : Int32)), .val (.int (1 : Int32)), .val (.ref w_MEDIUM)] [(.int (2 : Int32)), (.long (ls + (((2 : Int32) + ((v - (1 : Int32)) * (2 : Int32))).toInt64)))])) rfl (by rw [hml]; rfl) (argsL := [(.int (2 : Int32))]) (rest := [(.long (ls + (((2 : Int32) + ((v - (1 : Int32)) * (2 : Int32))).toInt64)))]) (lenOf pd_55 rfl) rfl (by show 2 * 0 + _ ≤ _; exact Nat.le_of_eq rfl) (hb hby d2_63) (fun _ _ => ⟨rfl, e95, (by decide : 0 + 0 ≤ _), (by decide : 0 + 0 ≤ _)⟩)
          dsimp only [Pt.U, Pt.locs, Pt.cells, Pt.slots] at X96 l96 y96 z96 st96 hQ96
          subst l96 y96 z96
          obtain ⟨rfl, N96q, e96⟩ := hQ96
          have N96 := Fr.app N94 N96q
          have ck98 : ∀ t, Steps p.tables e below (T96.setTop (mkF m 67 #[.val (.int v), .val (.long ls), .second, .val (.ref w_WT), .val (.int (3 : Int32)), .val (.int (1 : Int32)), .val (.ref w_MEDIUM)] [(.int (lcmpW (ls + (((2 : Int32) + ((v - (1 : Int32)) * (2 : Int32))).toInt64)) (65535 : Int64)))])) t → Steps p.tables e below (s₁.setTop (entryFrame m #[(.int v), (.long ls)] 7)) t := by
            intro t kt
            refine ck90 _ ?_
            show Steps p.tables e below (T88.setTop (mkF m 46 #[.val (.int v), .val (.long ls), .second, .val (.ref w_WT), .val (.int (3 : Int32)), .val (.int (1 : Int32)), .val (.ref w_MEDIUM)] [(.int (lcmpW ((v - (1 : Int32)).toInt64) (65535 : Int64)))])) _
            refine XS.ifNo X88.here hx rfl (hb hby d2_46) rfl ((if0 _ _).trans (flt hc46_89).2.2.1) ?_
            show Steps p.tables e below (T88.setTop (mkF m 49 #[.val (.int v), .val (.long ls), .second, .val (.ref w_WT), .val (.int (3 : Int32)), .val (.int (1 : Int32)), .val (.ref w_MEDIUM)] [])) _
            refine XS.lloadN X88.here hx rfl (hb hby d2_49) rfl ?_
            show Steps p.tables e below (T88.setTop (mkF m 50 #[.val (.int v), .val (.long ls), .second, .val (.ref w_WT), .val (.int (3 : Int32)), .val (.int (1 : Int32)), .val (.ref w_MEDIUM)] [(.long ls)])) _
            refine XS.aload X88.here hx rfl (hb hby d2_50) rfl rfl ?_
            show Steps p.tables e below (T88.setTop (mkF m 52 #[.val (.int v), .val (.long ls), .second, .val (.ref w_WT), .val (.int (3 : Int32)), .val (.int (1 : Int32)), .val (.ref w_MEDIUM)] [(.ref w_MEDIUM), (.long ls)])) _
            refine XS.iloadN X88.here hx rfl (hb hby d2_52) rfl ?_
            show Steps p.tables e below (T88.setTop (mkF m 53 #[.val (.int v), .val (.long ls), .second, .val (.ref w_WT), .val (.int (3 : Int32)), .val (.int (1 : Int32)), .val (.ref w_MEDIUM)] [(.int v), (.ref w_MEDIUM), (.long ls)])) _
            refine st94.trans ?_
            show Steps p.tables e below (T94.setTop (mkF m 56 #[.val (.int v), .val (.long ls), .second, .val (.ref w_WT), .val (.int (3 : Int32)), .val (.int (1 : Int32)), .val (.ref w_MEDIUM)] [(.int ((2 : Int32) + ((v - (1 : Int32)) * (2 : Int32)))), (.long ls)])) _
            refine XS.i2l X94.here hx rfl (hb hby d2_56) rfl ?_
            show Steps p.tables e below (T94.setTop (mkF m 57 #[.val (.int v), .val (.long ls), .second, .val (.ref w_WT), .val (.int (3 : Int32)), .val (.int (1 : Int32)), .val (.ref w_MEDIUM)] [(.long (((2 : Int32) + ((v - (1 : Int32)) * (2 : Int32))).toInt64)), (.long ls)])) _
            refine XS.ladd X94.here hx rfl (hb hby d2_57) rfl ?_
            show Steps p.tables e below (T94.setTop (mkF m 58 #[.val (.int v), .val (.long ls), .second, .val (.ref w_WT), .val (.int (3 : Int32)), .val (.int (1 : Int32)), .val (.ref w_MEDIUM)] [(.long (ls + (((2 : Int32) + ((v - (1 : Int32)) * (2 : Int32))).toInt64)))])) _
            refine XS.aload X94.here hx rfl (hb hby d2_58) rfl rfl ?_
            show Steps p.tables e below (T94.setTop (mkF m 60 #[.val (.int v), .val (.long ls), .second, .val (.ref w_WT), .val (.int (3 : Int32)), .val (.int (1 : Int32)), .val (.ref w_MEDIUM)] [(.ref w_MEDIUM), (.long (ls + (((2 : Int32) + ((v - (1 : Int32)) * (2 : Int32))).toInt64)))])) _
            refine st95 _ ?_
            show Steps p.tables e below (T95.setTop (mkF m 63 #[.val (.int v), .val (.long ls), .second, .val (.ref w_WT), .val (.int (3 : Int32)), .val (.int (1 : Int32)), .val (.ref w_MEDIUM)] [(.int (2 : Int32)), (.long (ls + (((2 : Int32) + ((v - (1 : Int32)) * (2 : Int32))).toInt64)))])) _
            refine st96 _ ?_
            show Steps p.tables e below (T96.setTop (mkF m 66 #[.val (.int v), .val (.long ls), .second, .val (.ref w_WT), .val (.int (3 : Int32)), .val (.int (1 : Int32)), .val (.ref w_MEDIUM)] [(.long (65535 : Int64)), (.long (ls + (((2 : Int32) + ((v - (1 : Int32)) * (2 : Int32))).toInt64)))])) _
            refine XS.lcmp X96.here hx rfl (hb hby d2_66) rfl ?_
            exact kt
          (try clear N96q); (try clear st96); (try clear Lc96); (try clear n96); (try clear k96); (try clear L96); (try clear st95); (try clear e95); (try clear X95); (try clear T95); (try clear N94); (try clear e94); (try clear N94q); (try clear st94); (try clear Lc94); (try clear X94); (try clear n94); (try clear k94); (try clear L94); (try clear T94); (try clear q94c); (try clear q94b); (try clear q94a); (try clear kq94); (try clear cq94)
          by_cases hc67_97 : (0 : Int32) < (lcmpW (ls + (((2 : Int32) + ((v - (1 : Int32)) * (2 : Int32))).toInt64)) (65535 : Int64))
          · -- pc 67: (0 : Int32) < (lcmpW (ls + (((2 : Int32) + ((v - (1 : Int32)) * (2 : Int32))).toInt64)) (65535 : Int64))
            have Vc99 := A_WT
            obtain ⟨cl99, Ar99, q99, S99, N99_, H99_, G99⟩ := Vc99
            have hin99 : ¬ ((2 : Int32) < 0 ∨ cl99.slots.size ≤ ((2 : Int32)).toNatClampNeg) := inb_of S99 ⟨by decide, by decide⟩
            have hat99 : cl99.slots[((2 : Int32)).toNatClampNeg]? = some (.ref w_LARGE) := Has.at H99_ hin99 rfl
            obtain ⟨T100, X100, e100, st100⟩ := getF X96 hx hZ hown (host := "") (Or.inl (hw _ (List.mem_of_getElem? (i := 11) rfl))) Via.refl e96 F_LARGE_countBytes (g := (mkF m 39 #[.val (.int v), .val (.long ls), .second, .val (.ref w_WT), .val (.int (3 : Int32)), .val (.int (2 : Int32)), .val (.ref w_LARGE)] [(.ref w_LARGE), (.long ((v - (1 : Int32)).toInt64))])) rfl rfl (hb hby d2_39)
            obtain ⟨_, _, ⟨T101, L101, k101, n101⟩, -, X101, ⟨Lc101, hQ101, l101, y101, z101⟩, st101⟩ := Jvm.LawKit.callS X100 hx (y := (⟨"com/example/rowstrata/rowstrata/row/VarTable", "max", "(I)J"⟩ : MethodName)) hown (mvT hZ (hw _ (List.mem_of_getElem? (i := 13) rfl))) (mvT hZ (hw _ (List.mem_of_getElem? (i := 14) rfl))) (mvT hZ (hw _ (List.mem_of_getElem? (i := 6) rfl))) (mvT hZ (hw _ (List.mem_of_getElem? (i := 15) rfl))) (by decide) (backOf (W := 2) (rm_vmax2 l Z a0 hw [] h0 n0 Z0) hZ (hw _ (List.mem_of_getElem? (i := 15) rfl)) (hw _ (List.mem_of_getElem? (i := 6) rfl)) (by decide) (by decide)) (g := (mkF m 42 #[.val (.int v), .val (.long ls), .second, .val (.ref w_WT), .val (.int (3 : Int32)), .val (.int (2 : Int32)), .val (.ref w_LARGE)] [(.int (2 : Int32)), (.long ((v - (1 : Int32)).toInt64))])) rfl (by rw [hml]; rfl) (argsL := [(.int (2 : Int32))]) (rest := [(.long ((v - (1 : Int32)).toInt64))]) (lenOf pd_55 rfl) rfl (by show 2 * 0 + _ ≤ _; exact Nat.le_of_eq rfl) (hb hby d2_42) (fun _ _ => ⟨rfl, e100, (by decide : 0 + 0 ≤ _), (by decide : 0 + 0 ≤ _)⟩)
            dsimp only [Pt.U, Pt.locs, Pt.cells, Pt.slots] at X101 l101 y101 z101 st101 hQ101
            subst l101 y101 z101
            obtain ⟨rfl, N101q, e101⟩ := hQ101
            have N101 := Fr.app N96 N101q
            obtain ⟨cq102, kq102, q102a, q102b, q102c⟩ := isOf hZ e101 (E_LARGE)
            obtain ⟨_, _, ⟨T102, L102, k102, n102⟩, -, X102, ⟨Lc102, hQ102, l102, y102, z102⟩, st102⟩ := X101.virtualBack hx (y := (⟨"com/example/rowstrata/rowstrata/row/VarTable", "size", "(I)I"⟩ : MethodName)) (z := (⟨"com/example/rowstrata/rowstrata/row/VarTable", "size", "(I)I"⟩ : MethodName)) hown (mvT hZ (hw _ (List.mem_of_getElem? (i := 16) rfl))) (mvT hZ (hw _ (List.mem_of_getElem? (i := 17) rfl))) (notFace_of_selects (args := #[]) (mvT hZ (hw _ (List.mem_of_getElem? (i := 19) rfl)))) (mvT hZ (hw _ (List.mem_of_getElem? (i := 19) rfl))) (mvT hZ (hw _ (List.mem_of_getElem? (i := 18) rfl))) (by decide) (backOf (W := 2) (rm_size_LARGE l Z a0 hw [] w_LARGE v h0 n0 Z0 w_TINY w_NONE w_MEDIUM hWd) hZ (hw _ (List.mem_of_getElem? (i := 20) rfl)) (hw _ (List.mem_of_getElem? (i := 6) rfl)) (by decide) (by decide)) q102a q102c (g := (mkF m 53 #[.val (.int v), .val (.long ls), .second, .val (.ref w_WT), .val (.int (3 : Int32)), .val (.int (2 : Int32)), .val (.ref w_LARGE)] [(.int v), (.ref w_LARGE), (.long ls)])) rfl (by rw [hml]; rfl) (Steps.refl _) (argsL := [(.int v)]) (rest := [(.long ls)]) (lenOf pd_66 rfl) rfl (by show 2 * 0 + _ ≤ _; exact Nat.le_of_eq rfl) (hb hby d2_53) (fun _ _ => ⟨rfl, e101, (by decide : 0 + 0 ≤ _), (by decide : 0 + 0 ≤ _)⟩)
            dsimp only [Pt.U, Pt.locs, Pt.cells, Pt.slots] at X102 l102 y102 z102 st102 hQ102
            subst l102 y102 z102
            obtain ⟨rfl, N102q, e102⟩ := hQ102
            have N102 := Fr.app N101 N102q
            obtain ⟨T103, X103, e103, st103⟩ := getF X102 hx hZ hown (host := "") (Or.inl (hw _ (List.mem_of_getElem? (i := 23) rfl))) Via.refl e102 F_LARGE_offsetBytes (g := (mkF m 60 #[.val (.int v), .val (.long ls), .second, .val (.ref w_WT), .val (.int (3 : Int32)), .val (.int (2 : Int32)), .val (.ref w_LARGE)] [(.ref w_LARGE), (.long (ls + (((2 : Int32) + ((v - (1 : Int32)) * (4 : Int32))).toInt64)))])) rfl rfl (hb hby d2_60)
            obtain ⟨_, _, ⟨T104, L104, k104, n104⟩, -, X104, ⟨Lc104, hQ104, l104, y104, z104⟩, st104⟩ := Jvm.LawKit.callS X103 hx (y := (⟨"com/example/rowstrata/rowstrata/row/VarTable", "max", "(I)J"⟩ : MethodName)) hown (mvT hZ (hw _ (List.mem_of_getElem? (i := 13) rfl))) (mvT hZ (hw _ (List.mem_of_getElem? (i := 14) rfl))) (mvT hZ (hw _ (List.mem_of_getElem? (i := 6) rfl))) (mvT hZ (hw _ (List.mem_of_getElem? (i := 15) rfl))) (by decide) (backOf (W := 2) (rm_vmax4 l Z a0 hw [] h0 n0 Z0) hZ (hw _ (List.mem_of_getElem? (i := 15) rfl)) (hw _ (List.mem_of_getElem? (i := 6) rfl)) (by decide) (by decide)) (g := (mkF m 63 #[.val (.int v), .val (.long ls), .second, .val (.ref w_WT), .val (.int (3 : Int32)), .val (.int (2 : Int32)), .val (.ref w_LARGE)] [(.int (4 : Int32)), (.long (ls + (((2 : Int32) + ((v - (1 : Int32)) * (4 : Int32))).toInt64)))])) rfl (by rw [hml]; rfl) (argsL := [(.int (4 : Int32))]) (rest := [(.long (ls + (((2 : Int32) + ((v - (1 : Int32)) * (4 : Int32))).toInt64)))]) (lenOf pd_55 rfl) rfl (by show 2 * 0 + _ ≤ _; exact Nat.le_of_eq rfl) (hb hby d2_63) (fun _ _ => ⟨rfl, e103, (by decide : 0 + 0 ≤ _), (by decide : 0 + 0 ≤ _)⟩)
            dsimp only [Pt.U, Pt.locs, Pt.cells, Pt.slots] at X104 l104 y104 z104 st104 hQ104
            subst l104 y104 z104
            obtain ⟨rfl, N104q, e104⟩ := hQ104
            have N104 := Fr.app N102 N104q
            have ck106 : ∀ t, Steps p.tables e below (T104.setTop (mkF m 67 #[.val (.int v), .val (.long ls), .second, .val (.ref w_WT), .val (.int (3 : Int32)), .val (.int (2 : Int32)), .val (.ref w_LARGE)] [(.int (lcmpW (ls + (((2 : Int32) + ((v - (1 : Int32)) * (4 : Int32))).toInt64)) (4294967295 : Int64)))])) t → Steps p.tables e below (s₁.setTop (entryFrame m #[(.int v), (.long ls)] 7)) t := by
              intro t kt
              refine ck98 _ ?_
              show Steps p.tables e below (T96.setTop (mkF m 67 #[.val (.int v), .val (.long ls), .second, .val (.ref w_WT), .val (.int (3 : Int32)), .val (.int (1 : Int32)), .val (.ref w_MEDIUM)] [(.int (lcmpW (ls + (((2 : Int32) + ((v - (1 : Int32)) * (2 : Int32))).toInt64)) (65535 : Int64)))])) _
              refine XS.ifYes X96.here hx rfl (pc0 := 67) (pc' := 73) rfl (hb hby d2_67) rfl ((if0 _ _).trans (tlt hc67_97).2.2.1) (by decide) (by decide) ?_
              show Steps p.tables e below (T96.setTop (mkF m 73 #[.val (.int v), .val (.long ls), .second, .val (.ref w_WT), .val (.int (3 : Int32)), .val (.int (1 : Int32)), .val (.ref w_MEDIUM)] [])) _
              refine XS.iinc X96.here hx rfl (hb hby d2_73) rfl (l' := #[.val (.int v), .val (.long ls), .second, .val (.ref w_WT), .val (.int (3 : Int32)), .val (.int (2 : Int32)), .val (.ref w_MEDIUM)]) rfl ?_
              show Steps p.tables e below (T96.setTop (mkF m 76 #[.val (.int v), .val (.long ls), .second, .val (.ref w_WT), .val (.int (3 : Int32)), .val (.int (2 : Int32)), .val (.ref w_MEDIUM)] [])) _
              refine XS.goto X96.here hx rfl (pc0 := 76) (pc' := 20) rfl (hb hby d2_76) (by decide) (by decide) ?_
              show Steps p.tables e below (T96.setTop (mkF m 20 #[.val (.int v), .val (.long ls), .second, .val (.ref w_WT), .val (.int (3 : Int32)), .val (.int (2 : Int32)), .val (.ref w_MEDIUM)] [])) _
              refine XS.iload X96.here hx rfl (hb hby d2_20) rfl ?_
              show Steps p.tables e below (T96.setTop (mkF m 22 #[.val (.int v), .val (.long ls), .second, .val (.ref w_WT), .val (.int (3 : Int32)), .val (.int (2 : Int32)), .val (.ref w_MEDIUM)] [(.int (2 : Int32))])) _
              refine XS.iload X96.here hx rfl (hb hby d2_22) rfl ?_
              show Steps p.tables e below (T96.setTop (mkF m 24 #[.val (.int v), .val (.long ls), .second, .val (.ref w_WT), .val (.int (3 : Int32)), .val (.int (2 : Int32)), .val (.ref w_MEDIUM)] [(.int (3 : Int32)), (.int (2 : Int32))])) _
              refine XS.icmpNo X96.here hx rfl (hb hby d2_24) rfl (tlt (by decide : (2 : Int32) < (3 : Int32))).2.1 ?_
              show Steps p.tables e below (T96.setTop (mkF m 27 #[.val (.int v), .val (.long ls), .second, .val (.ref w_WT), .val (.int (3 : Int32)), .val (.int (2 : Int32)), .val (.ref w_MEDIUM)] [])) _
              refine XS.aloadN X96.here hx rfl (hb hby d2_27) rfl rfl ?_
              show Steps p.tables e below (T96.setTop (mkF m 28 #[.val (.int v), .val (.long ls), .second, .val (.ref w_WT), .val (.int (3 : Int32)), .val (.int (2 : Int32)), .val (.ref w_MEDIUM)] [(.ref w_WT)])) _
              refine XS.iload X96.here hx rfl (hb hby d2_28) rfl ?_
              show Steps p.tables e below (T96.setTop (mkF m 30 #[.val (.int v), .val (.long ls), .second, .val (.ref w_WT), .val (.int (3 : Int32)), .val (.int (2 : Int32)), .val (.ref w_MEDIUM)] [(.int (2 : Int32)), (.ref w_WT)])) _
              refine X96.aaload hx (j := (2 : Int32)) (v := (.ref w_LARGE)) (by rw [e96]; exact Ar99.1) (State.isArrayOf_alike hZ.alike Ar99.2.1) rfl Ar99.2.2 hin99 hat99 (g := (mkF m 30 #[.val (.int v), .val (.long ls), .second, .val (.ref w_WT), .val (.int (3 : Int32)), .val (.int (2 : Int32)), .val (.ref w_MEDIUM)] [(.int (2 : Int32)), (.ref w_WT)])) rfl rfl (hb hby d2_30) _ ?_
              show Steps p.tables e below (T96.setTop (mkF m 31 #[.val (.int v), .val (.long ls), .second, .val (.ref w_WT), .val (.int (3 : Int32)), .val (.int (2 : Int32)), .val (.ref w_MEDIUM)] [(.ref w_LARGE)])) _
              refine XS.astore X96.here hx rfl (hb hby d2_31) rfl rfl (l' := #[.val (.int v), .val (.long ls), .second, .val (.ref w_WT), .val (.int (3 : Int32)), .val (.int (2 : Int32)), .val (.ref w_LARGE)]) rfl ?_
              show Steps p.tables e below (T96.setTop (mkF m 33 #[.val (.int v), .val (.long ls), .second, .val (.ref w_WT), .val (.int (3 : Int32)), .val (.int (2 : Int32)), .val (.ref w_LARGE)] [])) _
              refine XS.iloadN X96.here hx rfl (hb hby d2_33) rfl ?_
              show Steps p.tables e below (T96.setTop (mkF m 34 #[.val (.int v), .val (.long ls), .second, .val (.ref w_WT), .val (.int (3 : Int32)), .val (.int (2 : Int32)), .val (.ref w_LARGE)] [(.int v)])) _
              refine XS.iconst X96.here hx rfl (hb hby d2_34) ?_
              show Steps p.tables e below (T96.setTop (mkF m 35 #[.val (.int v), .val (.long ls), .second, .val (.ref w_WT), .val (.int (3 : Int32)), .val (.int (2 : Int32)), .val (.ref w_LARGE)] [(.int (1 : Int32)), (.int v)])) _
              refine XS.isub X96.here hx rfl (hb hby d2_35) rfl ?_
              show Steps p.tables e below (T96.setTop (mkF m 36 #[.val (.int v), .val (.long ls), .second, .val (.ref w_WT), .val (.int (3 : Int32)), .val (.int (2 : Int32)), .val (.ref w_LARGE)] [(.int (v - (1 : Int32)))])) _
              refine XS.i2l X96.here hx rfl (hb hby d2_36) rfl ?_
              show Steps p.tables e below (T96.setTop (mkF m 37 #[.val (.int v), .val (.long ls), .second, .val (.ref w_WT), .val (.int (3 : Int32)), .val (.int (2 : Int32)), .val (.ref w_LARGE)] [(.long ((v - (1 : Int32)).toInt64))])) _
              refine XS.aload X96.here hx rfl (hb hby d2_37) rfl rfl ?_
              show Steps p.tables e below (T96.setTop (mkF m 39 #[.val (.int v), .val (.long ls), .second, .val (.ref w_WT), .val (.int (3 : Int32)), .val (.int (2 : Int32)), .val (.ref w_LARGE)] [(.ref w_LARGE), (.long ((v - (1 : Int32)).toInt64))])) _
              refine st100 _ ?_
              show Steps p.tables e below (T100.setTop (mkF m 42 #[.val (.int v), .val (.long ls), .second, .val (.ref w_WT), .val (.int (3 : Int32)), .val (.int (2 : Int32)), .val (.ref w_LARGE)] [(.int (2 : Int32)), (.long ((v - (1 : Int32)).toInt64))])) _
              refine st101 _ ?_
              show Steps p.tables e below (T101.setTop (mkF m 45 #[.val (.int v), .val (.long ls), .second, .val (.ref w_WT), .val (.int (3 : Int32)), .val (.int (2 : Int32)), .val (.ref w_LARGE)] [(.long (65535 : Int64)), (.long ((v - (1 : Int32)).toInt64))])) _
              refine XS.lcmp X101.here hx rfl (hb hby d2_45) rfl ?_
              show Steps p.tables e below (T101.setTop (mkF m 46 #[.val (.int v), .val (.long ls), .second, .val (.ref w_WT), .val (.int (3 : Int32)), .val (.int (2 : Int32)), .val (.ref w_LARGE)] [(.int (lcmpW ((v - (1 : Int32)).toInt64) (65535 : Int64)))])) _
              refine XS.ifNo X101.here hx rfl (hb hby d2_46) rfl ((if0 _ _).trans (flt hc46_89).2.2.1) ?_
              show Steps p.tables e below (T101.setTop (mkF m 49 #[.val (.int v), .val (.long ls), .second, .val (.ref w_WT), .val (.int (3 : Int32)), .val (.int (2 : Int32)), .val (.ref w_LARGE)] [])) _
              refine XS.lloadN X101.here hx rfl (hb hby d2_49) rfl ?_
              show Steps p.tables e below (T101.setTop (mkF m 50 #[.val (.int v), .val (.long ls), .second, .val (.ref w_WT), .val (.int (3 : Int32)), .val (.int (2 : Int32)), .val (.ref w_LARGE)] [(.long ls)])) _
              refine XS.aload X101.here hx rfl (hb hby d2_50) rfl rfl ?_
              show Steps p.tables e below (T101.setTop (mkF m 52 #[.val (.int v), .val (.long ls), .second, .val (.ref w_WT), .val (.int (3 : Int32)), .val (.int (2 : Int32)), .val (.ref w_LARGE)] [(.ref w_LARGE), (.long ls)])) _
              refine XS.iloadN X101.here hx rfl (hb hby d2_52) rfl ?_
              show Steps p.tables e below (T101.setTop (mkF m 53 #[.val (.int v), .val (.long ls), .second, .val (.ref w_WT), .val (.int (3 : Int32)), .val (.int (2 : Int32)), .val (.ref w_LARGE)] [(.int v), (.ref w_LARGE), (.long ls)])) _
              refine st102.trans ?_
              show Steps p.tables e below (T102.setTop (mkF m 56 #[.val (.int v), .val (.long ls), .second, .val (.ref w_WT), .val (.int (3 : Int32)), .val (.int (2 : Int32)), .val (.ref w_LARGE)] [(.int ((2 : Int32) + ((v - (1 : Int32)) * (4 : Int32)))), (.long ls)])) _
              refine XS.i2l X102.here hx rfl (hb hby d2_56) rfl ?_
              show Steps p.tables e below (T102.setTop (mkF m 57 #[.val (.int v), .val (.long ls), .second, .val (.ref w_WT), .val (.int (3 : Int32)), .val (.int (2 : Int32)), .val (.ref w_LARGE)] [(.long (((2 : Int32) + ((v - (1 : Int32)) * (4 : Int32))).toInt64)), (.long ls)])) _
              refine XS.ladd X102.here hx rfl (hb hby d2_57) rfl ?_
              show Steps p.tables e below (T102.setTop (mkF m 58 #[.val (.int v), .val (.long ls), .second, .val (.ref w_WT), .val (.int (3 : Int32)), .val (.int (2 : Int32)), .val (.ref w_LARGE)] [(.long (ls + (((2 : Int32) + ((v - (1 : Int32)) * (4 : Int32))).toInt64)))])) _
              refine XS.aload X102.here hx rfl (hb hby d2_58) rfl rfl ?_
              show Steps p.tables e below (T102.setTop (mkF m 60 #[.val (.int v), .val (.long ls), .second, .val (.ref w_WT), .val (.int (3 : Int32)), .val (.int (2 : Int32)), .val (.ref w_LARGE)] [(.ref w_LARGE), (.long (ls + (((2 : Int32) + ((v - (1 : Int32)) * (4 : Int32))).toInt64)))])) _
              refine st103 _ ?_
              show Steps p.tables e below (T103.setTop (mkF m 63 #[.val (.int v), .val (.long ls), .second, .val (.ref w_WT), .val (.int (3 : Int32)), .val (.int (2 : Int32)), .val (.ref w_LARGE)] [(.int (4 : Int32)), (.long (ls + (((2 : Int32) + ((v - (1 : Int32)) * (4 : Int32))).toInt64)))])) _
              refine st104 _ ?_
              show Steps p.tables e below (T104.setTop (mkF m 66 #[.val (.int v), .val (.long ls), .second, .val (.ref w_WT), .val (.int (3 : Int32)), .val (.int (2 : Int32)), .val (.ref w_LARGE)] [(.long (4294967295 : Int64)), (.long (ls + (((2 : Int32) + ((v - (1 : Int32)) * (4 : Int32))).toInt64)))])) _
              refine XS.lcmp X104.here hx rfl (hb hby d2_66) rfl ?_
              exact kt
            (try clear N104q); (try clear st104); (try clear Lc104); (try clear n104); (try clear k104); (try clear L104); (try clear st103); (try clear e103); (try clear X103); (try clear T103); (try clear N102); (try clear e102); (try clear N102q); (try clear st102); (try clear Lc102); (try clear X102); (try clear n102); (try clear k102); (try clear L102); (try clear T102); (try clear q102c); (try clear q102b); (try clear q102a); (try clear kq102); (try clear cq102); (try clear N101); (try clear e101); (try clear N101q); (try clear st101); (try clear Lc101); (try clear X101); (try clear n101); (try clear k101); (try clear L101); (try clear T101); (try clear st100); (try clear e100); (try clear X100); (try clear T100); (try clear hat99); (try clear hin99); (try clear G99); (try clear H99_); (try clear N99_); (try clear S99); (try clear q99); (try clear Ar99); (try clear cl99)
            by_cases hc67_105 : (0 : Int32) < (lcmpW (ls + (((2 : Int32) + ((v - (1 : Int32)) * (4 : Int32))).toInt64)) (4294967295 : Int64))
            · -- pc 67: (0 : Int32) < (lcmpW (ls + (((2 : Int32) + ((v - (1 : Int32)) * (4 : Int32))).toInt64)) (4294967295 : Int64))
              have ff1 := rng32 v
              have ff2 : (2 : Int32).toInt = 2 := by decide
              have d_hc2_51 := hc2_51; rw [Int32.lt_iff_toInt_lt] at d_hc2_51
              have ff3 : (1 : Int32).toInt = 1 := by decide
              have ff4 : (v - (1 : Int32)).toInt = v.toInt - 1 := by have c_ : ((v - (1 : Int32)).toInt - (v.toInt - 1)) % 4294967296 = 0 := c_isub v (1 : Int32); have r_ := rng32 (v - (1 : Int32)); omega
              have ff5 := c_i2l (v - (1 : Int32))
              have ff6 := rng64 ((v - (1 : Int32)).toInt64)
              have ff7 : (255 : Int64).toInt = 255 := by decide
              have d_hc46_58 := own_le_lc hc46_58
              have ff8 := rng64 ls
              have ff9 : ((v - (1 : Int32)) * (1 : Int32)).toInt = (v - (1 : Int32)).toInt * 1 := by have c_ : (((v - (1 : Int32)) * (1 : Int32)).toInt - ((v - (1 : Int32)).toInt * 1)) % 4294967296 = 0 := c_imul (v - (1 : Int32)) (1 : Int32); have r_ := rng32 ((v - (1 : Int32)) * (1 : Int32)); omega
              have ff10 : ((1 : Int32) + ((v - (1 : Int32)) * (1 : Int32))).toInt = 1 + ((v - (1 : Int32)) * (1 : Int32)).toInt := by have c_ : (((1 : Int32) + ((v - (1 : Int32)) * (1 : Int32))).toInt - (1 + ((v - (1 : Int32)) * (1 : Int32)).toInt)) % 4294967296 = 0 := c_iadd (1 : Int32) ((v - (1 : Int32)) * (1 : Int32)); have r_ := rng32 ((1 : Int32) + ((v - (1 : Int32)) * (1 : Int32))); omega
              have ff11 := c_i2l ((1 : Int32) + ((v - (1 : Int32)) * (1 : Int32)))
              have ff12 := rng64 (((1 : Int32) + ((v - (1 : Int32)) * (1 : Int32))).toInt64)
              have ff13 : (ls + (((1 : Int32) + ((v - (1 : Int32)) * (1 : Int32))).toInt64)).toInt = ls.toInt + (((1 : Int32) + ((v - (1 : Int32)) * (1 : Int32))).toInt64).toInt := by have c_ : ((ls + (((1 : Int32) + ((v - (1 : Int32)) * (1 : Int32))).toInt64)).toInt - (ls.toInt + (((1 : Int32) + ((v - (1 : Int32)) * (1 : Int32))).toInt64).toInt)) % 18446744073709551616 = 0 := c_ladd ls (((1 : Int32) + ((v - (1 : Int32)) * (1 : Int32))).toInt64); have r_ := rng64 (ls + (((1 : Int32) + ((v - (1 : Int32)) * (1 : Int32))).toInt64)); omega
              have d_hc67_84 := own_gt_lc hc67_84
              have ff14 : (65535 : Int64).toInt = 65535 := by decide
              have d_hc46_89 := own_le_lc hc46_89
              have ff15 : ((v - (1 : Int32)) * (2 : Int32)).toInt = (v - (1 : Int32)).toInt * 2 := by have c_ : (((v - (1 : Int32)) * (2 : Int32)).toInt - ((v - (1 : Int32)).toInt * 2)) % 4294967296 = 0 := c_imul (v - (1 : Int32)) (2 : Int32); have r_ := rng32 ((v - (1 : Int32)) * (2 : Int32)); omega
              have ff16 : ((2 : Int32) + ((v - (1 : Int32)) * (2 : Int32))).toInt = 2 + ((v - (1 : Int32)) * (2 : Int32)).toInt := by have c_ : (((2 : Int32) + ((v - (1 : Int32)) * (2 : Int32))).toInt - (2 + ((v - (1 : Int32)) * (2 : Int32)).toInt)) % 4294967296 = 0 := c_iadd (2 : Int32) ((v - (1 : Int32)) * (2 : Int32)); have r_ := rng32 ((2 : Int32) + ((v - (1 : Int32)) * (2 : Int32))); omega
              have ff17 := c_i2l ((2 : Int32) + ((v - (1 : Int32)) * (2 : Int32)))
              have ff18 := rng64 (((2 : Int32) + ((v - (1 : Int32)) * (2 : Int32))).toInt64)
              have ff19 : (ls + (((2 : Int32) + ((v - (1 : Int32)) * (2 : Int32))).toInt64)).toInt = ls.toInt + (((2 : Int32) + ((v - (1 : Int32)) * (2 : Int32))).toInt64).toInt := by have c_ : ((ls + (((2 : Int32) + ((v - (1 : Int32)) * (2 : Int32))).toInt64)).toInt - (ls.toInt + (((2 : Int32) + ((v - (1 : Int32)) * (2 : Int32))).toInt64).toInt)) % 18446744073709551616 = 0 := c_ladd ls (((2 : Int32) + ((v - (1 : Int32)) * (2 : Int32))).toInt64); have r_ := rng64 (ls + (((2 : Int32) + ((v - (1 : Int32)) * (2 : Int32))).toInt64)); omega
              have d_hc67_97 := own_gt_lc hc67_97
              have ff20 : (4 : Int32).toInt = 4 := by decide
              have ff21 : ((v - (1 : Int32)) * (4 : Int32)).toInt = (v - (1 : Int32)).toInt * 4 := by have c_ : (((v - (1 : Int32)) * (4 : Int32)).toInt - ((v - (1 : Int32)).toInt * 4)) % 4294967296 = 0 := c_imul (v - (1 : Int32)) (4 : Int32); have r_ := rng32 ((v - (1 : Int32)) * (4 : Int32)); omega
              have ff22 : ((2 : Int32) + ((v - (1 : Int32)) * (4 : Int32))).toInt = 2 + ((v - (1 : Int32)) * (4 : Int32)).toInt := by have c_ : (((2 : Int32) + ((v - (1 : Int32)) * (4 : Int32))).toInt - (2 + ((v - (1 : Int32)) * (4 : Int32)).toInt)) % 4294967296 = 0 := c_iadd (2 : Int32) ((v - (1 : Int32)) * (4 : Int32)); have r_ := rng32 ((2 : Int32) + ((v - (1 : Int32)) * (4 : Int32))); omega
              have ff23 := c_i2l ((2 : Int32) + ((v - (1 : Int32)) * (4 : Int32)))
              have ff24 := rng64 (((2 : Int32) + ((v - (1 : Int32)) * (4 : Int32))).toInt64)
              have ff25 : (ls + (((2 : Int32) + ((v - (1 : Int32)) * (4 : Int32))).toInt64)).toInt = ls.toInt + (((2 : Int32) + ((v - (1 : Int32)) * (4 : Int32))).toInt64).toInt := by have c_ : ((ls + (((2 : Int32) + ((v - (1 : Int32)) * (4 : Int32))).toInt64)).toInt - (ls.toInt + (((2 : Int32) + ((v - (1 : Int32)) * (4 : Int32))).toInt64).toInt)) % 18446744073709551616 = 0 := c_ladd ls (((2 : Int32) + ((v - (1 : Int32)) * (4 : Int32))).toInt64); have r_ := rng64 (ls + (((2 : Int32) + ((v - (1 : Int32)) * (4 : Int32))).toInt64)); omega
              have ff26 : (4294967295 : Int64).toInt = 4294967295 := by decide
              have d_hc67_105 := own_gt_lc hc67_105
              obtain ⟨fs, hr, hrun, hended, hW, hsame⟩ := X104.leave (v := some .null) (fun h => by rw [Bd.returns] at h; cases h)
              refine ⟨_, _, ck106 _ ?_, hrun, hended, _, _, rfl, ?_, ⟨_, rfl⟩, hW, hsame.mono (by decide) (by decide)⟩
              · show Steps p.tables e below (T104.setTop (mkF m 67 #[.val (.int v), .val (.long ls), .second, .val (.ref w_WT), .val (.int (3 : Int32)), .val (.int (2 : Int32)), .val (.ref w_LARGE)] [(.int (lcmpW (ls + (((2 : Int32) + ((v - (1 : Int32)) * (4 : Int32))).toInt64)) (4294967295 : Int64)))])) _
                refine XS.ifYes X104.here hx rfl (pc0 := 67) (pc' := 73) rfl (hb hby d2_67) rfl ((if0 _ _).trans (tlt hc67_105).2.2.1) (by decide) (by decide) ?_
                show Steps p.tables e below (T104.setTop (mkF m 73 #[.val (.int v), .val (.long ls), .second, .val (.ref w_WT), .val (.int (3 : Int32)), .val (.int (2 : Int32)), .val (.ref w_LARGE)] [])) _
                refine XS.iinc X104.here hx rfl (hb hby d2_73) rfl (l' := #[.val (.int v), .val (.long ls), .second, .val (.ref w_WT), .val (.int (3 : Int32)), .val (.int (3 : Int32)), .val (.ref w_LARGE)]) rfl ?_
                show Steps p.tables e below (T104.setTop (mkF m 76 #[.val (.int v), .val (.long ls), .second, .val (.ref w_WT), .val (.int (3 : Int32)), .val (.int (3 : Int32)), .val (.ref w_LARGE)] [])) _
                refine XS.goto X104.here hx rfl (pc0 := 76) (pc' := 20) rfl (hb hby d2_76) (by decide) (by decide) ?_
                show Steps p.tables e below (T104.setTop (mkF m 20 #[.val (.int v), .val (.long ls), .second, .val (.ref w_WT), .val (.int (3 : Int32)), .val (.int (3 : Int32)), .val (.ref w_LARGE)] [])) _
                refine XS.iload X104.here hx rfl (hb hby d2_20) rfl ?_
                show Steps p.tables e below (T104.setTop (mkF m 22 #[.val (.int v), .val (.long ls), .second, .val (.ref w_WT), .val (.int (3 : Int32)), .val (.int (3 : Int32)), .val (.ref w_LARGE)] [(.int (3 : Int32))])) _
                refine XS.iload X104.here hx rfl (hb hby d2_22) rfl ?_
                show Steps p.tables e below (T104.setTop (mkF m 24 #[.val (.int v), .val (.long ls), .second, .val (.ref w_WT), .val (.int (3 : Int32)), .val (.int (3 : Int32)), .val (.ref w_LARGE)] [(.int (3 : Int32)), (.int (3 : Int32))])) _
                refine XS.icmpYes X104.here hx rfl (pc0 := 24) (pc' := 79) rfl (hb hby d2_24) rfl (flt (by decide : ¬ ((3 : Int32) < (3 : Int32)))).2.1 (by decide) (by decide) ?_
                show Steps p.tables e below (T104.setTop (mkF m 79 #[.val (.int v), .val (.long ls), .second, .val (.ref w_WT), .val (.int (3 : Int32)), .val (.int (3 : Int32)), .val (.ref w_LARGE)] [])) _
                refine XS.aconstNull X104.here hx rfl (hb hby d2_79) ?_
                show Steps p.tables e below (T104.setTop (mkF m 80 #[.val (.int v), .val (.long ls), .second, .val (.ref w_WT), .val (.int (3 : Int32)), .val (.int (3 : Int32)), .val (.ref w_LARGE)] [.null])) _
                exact retOut X104 hx Bd.returns rfl (Or.inr (Or.inr (Or.inr (Or.inr ⟨rfl, rfl, rfl⟩)))) (hb hby d2_80) hr
              · show own_Pure (some (own_spec v.toInt ls.toInt w_NONE w_TINY w_MEDIUM w_LARGE)) h0 n0 _ T104.heap _
                rw [e104]
                exact ⟨congrArg some (own_spec_0 (by omega) (by omega) (by omega) (by omega)).symm, N104, rfl⟩
            · -- pc 67: not (0 : Int32) < (lcmpW (ls + (((2 : Int32) + ((v - (1 : Int32)) * (4 : Int32))).toInt64)) (4294967295 : Int64))
              have ff1 := rng32 v
              have ff2 : (2 : Int32).toInt = 2 := by decide
              have d_hc2_51 := hc2_51; rw [Int32.lt_iff_toInt_lt] at d_hc2_51
              have ff3 : (1 : Int32).toInt = 1 := by decide
              have ff4 : (v - (1 : Int32)).toInt = v.toInt - 1 := by have c_ : ((v - (1 : Int32)).toInt - (v.toInt - 1)) % 4294967296 = 0 := c_isub v (1 : Int32); have r_ := rng32 (v - (1 : Int32)); omega
              have ff5 := c_i2l (v - (1 : Int32))
              have ff6 := rng64 ((v - (1 : Int32)).toInt64)
              have ff7 : (255 : Int64).toInt = 255 := by decide
              have d_hc46_58 := own_le_lc hc46_58
              have ff8 := rng64 ls
              have ff9 : ((v - (1 : Int32)) * (1 : Int32)).toInt = (v - (1 : Int32)).toInt * 1 := by have c_ : (((v - (1 : Int32)) * (1 : Int32)).toInt - ((v - (1 : Int32)).toInt * 1)) % 4294967296 = 0 := c_imul (v - (1 : Int32)) (1 : Int32); have r_ := rng32 ((v - (1 : Int32)) * (1 : Int32)); omega
              have ff10 : ((1 : Int32) + ((v - (1 : Int32)) * (1 : Int32))).toInt = 1 + ((v - (1 : Int32)) * (1 : Int32)).toInt := by have c_ : (((1 : Int32) + ((v - (1 : Int32)) * (1 : Int32))).toInt - (1 + ((v - (1 : Int32)) * (1 : Int32)).toInt)) % 4294967296 = 0 := c_iadd (1 : Int32) ((v - (1 : Int32)) * (1 : Int32)); have r_ := rng32 ((1 : Int32) + ((v - (1 : Int32)) * (1 : Int32))); omega
              have ff11 := c_i2l ((1 : Int32) + ((v - (1 : Int32)) * (1 : Int32)))
              have ff12 := rng64 (((1 : Int32) + ((v - (1 : Int32)) * (1 : Int32))).toInt64)
              have ff13 : (ls + (((1 : Int32) + ((v - (1 : Int32)) * (1 : Int32))).toInt64)).toInt = ls.toInt + (((1 : Int32) + ((v - (1 : Int32)) * (1 : Int32))).toInt64).toInt := by have c_ : ((ls + (((1 : Int32) + ((v - (1 : Int32)) * (1 : Int32))).toInt64)).toInt - (ls.toInt + (((1 : Int32) + ((v - (1 : Int32)) * (1 : Int32))).toInt64).toInt)) % 18446744073709551616 = 0 := c_ladd ls (((1 : Int32) + ((v - (1 : Int32)) * (1 : Int32))).toInt64); have r_ := rng64 (ls + (((1 : Int32) + ((v - (1 : Int32)) * (1 : Int32))).toInt64)); omega
              have d_hc67_84 := own_gt_lc hc67_84
              have ff14 : (65535 : Int64).toInt = 65535 := by decide
              have d_hc46_89 := own_le_lc hc46_89
              have ff15 : ((v - (1 : Int32)) * (2 : Int32)).toInt = (v - (1 : Int32)).toInt * 2 := by have c_ : (((v - (1 : Int32)) * (2 : Int32)).toInt - ((v - (1 : Int32)).toInt * 2)) % 4294967296 = 0 := c_imul (v - (1 : Int32)) (2 : Int32); have r_ := rng32 ((v - (1 : Int32)) * (2 : Int32)); omega
              have ff16 : ((2 : Int32) + ((v - (1 : Int32)) * (2 : Int32))).toInt = 2 + ((v - (1 : Int32)) * (2 : Int32)).toInt := by have c_ : (((2 : Int32) + ((v - (1 : Int32)) * (2 : Int32))).toInt - (2 + ((v - (1 : Int32)) * (2 : Int32)).toInt)) % 4294967296 = 0 := c_iadd (2 : Int32) ((v - (1 : Int32)) * (2 : Int32)); have r_ := rng32 ((2 : Int32) + ((v - (1 : Int32)) * (2 : Int32))); omega
              have ff17 := c_i2l ((2 : Int32) + ((v - (1 : Int32)) * (2 : Int32)))
              have ff18 := rng64 (((2 : Int32) + ((v - (1 : Int32)) * (2 : Int32))).toInt64)
              have ff19 : (ls + (((2 : Int32) + ((v - (1 : Int32)) * (2 : Int32))).toInt64)).toInt = ls.toInt + (((2 : Int32) + ((v - (1 : Int32)) * (2 : Int32))).toInt64).toInt := by have c_ : ((ls + (((2 : Int32) + ((v - (1 : Int32)) * (2 : Int32))).toInt64)).toInt - (ls.toInt + (((2 : Int32) + ((v - (1 : Int32)) * (2 : Int32))).toInt64).toInt)) % 18446744073709551616 = 0 := c_ladd ls (((2 : Int32) + ((v - (1 : Int32)) * (2 : Int32))).toInt64); have r_ := rng64 (ls + (((2 : Int32) + ((v - (1 : Int32)) * (2 : Int32))).toInt64)); omega
              have d_hc67_97 := own_gt_lc hc67_97
              have ff20 : (4 : Int32).toInt = 4 := by decide
              have ff21 : ((v - (1 : Int32)) * (4 : Int32)).toInt = (v - (1 : Int32)).toInt * 4 := by have c_ : (((v - (1 : Int32)) * (4 : Int32)).toInt - ((v - (1 : Int32)).toInt * 4)) % 4294967296 = 0 := c_imul (v - (1 : Int32)) (4 : Int32); have r_ := rng32 ((v - (1 : Int32)) * (4 : Int32)); omega
              have ff22 : ((2 : Int32) + ((v - (1 : Int32)) * (4 : Int32))).toInt = 2 + ((v - (1 : Int32)) * (4 : Int32)).toInt := by have c_ : (((2 : Int32) + ((v - (1 : Int32)) * (4 : Int32))).toInt - (2 + ((v - (1 : Int32)) * (4 : Int32)).toInt)) % 4294967296 = 0 := c_iadd (2 : Int32) ((v - (1 : Int32)) * (4 : Int32)); have r_ := rng32 ((2 : Int32) + ((v - (1 : Int32)) * (4 : Int32))); omega
              have ff23 := c_i2l ((2 : Int32) + ((v - (1 : Int32)) * (4 : Int32)))
              have ff24 := rng64 (((2 : Int32) + ((v - (1 : Int32)) * (4 : Int32))).toInt64)
              have ff25 : (ls + (((2 : Int32) + ((v - (1 : Int32)) * (4 : Int32))).toInt64)).toInt = ls.toInt + (((2 : Int32) + ((v - (1 : Int32)) * (4 : Int32))).toInt64).toInt := by have c_ : ((ls + (((2 : Int32) + ((v - (1 : Int32)) * (4 : Int32))).toInt64)).toInt - (ls.toInt + (((2 : Int32) + ((v - (1 : Int32)) * (4 : Int32))).toInt64).toInt)) % 18446744073709551616 = 0 := c_ladd ls (((2 : Int32) + ((v - (1 : Int32)) * (4 : Int32))).toInt64); have r_ := rng64 (ls + (((2 : Int32) + ((v - (1 : Int32)) * (4 : Int32))).toInt64)); omega
              have ff26 : (4294967295 : Int64).toInt = 4294967295 := by decide
              have d_hc67_105 := own_le_lc hc67_105
              obtain ⟨fs, hr, hrun, hended, hW, hsame⟩ := X104.leave (v := some (.ref w_LARGE)) (fun h => by rw [Bd.returns] at h; cases h)
              refine ⟨_, _, ck106 _ ?_, hrun, hended, _, _, rfl, ?_, ⟨_, rfl⟩, hW, hsame.mono (by decide) (by decide)⟩
              · show Steps p.tables e below (T104.setTop (mkF m 67 #[.val (.int v), .val (.long ls), .second, .val (.ref w_WT), .val (.int (3 : Int32)), .val (.int (2 : Int32)), .val (.ref w_LARGE)] [(.int (lcmpW (ls + (((2 : Int32) + ((v - (1 : Int32)) * (4 : Int32))).toInt64)) (4294967295 : Int64)))])) _
                refine XS.ifNo X104.here hx rfl (hb hby d2_67) rfl ((if0 _ _).trans (flt hc67_105).2.2.1) ?_
                show Steps p.tables e below (T104.setTop (mkF m 70 #[.val (.int v), .val (.long ls), .second, .val (.ref w_WT), .val (.int (3 : Int32)), .val (.int (2 : Int32)), .val (.ref w_LARGE)] [])) _
                refine XS.aload X104.here hx rfl (hb hby d2_70) rfl rfl ?_
                show Steps p.tables e below (T104.setTop (mkF m 72 #[.val (.int v), .val (.long ls), .second, .val (.ref w_WT), .val (.int (3 : Int32)), .val (.int (2 : Int32)), .val (.ref w_LARGE)] [(.ref w_LARGE)])) _
                exact retOut X104 hx Bd.returns rfl (Or.inr (Or.inr (Or.inr (Or.inr ⟨rfl, rfl, rfl⟩)))) (hb hby d2_72) hr
              · show own_Pure (some (own_spec v.toInt ls.toInt w_NONE w_TINY w_MEDIUM w_LARGE)) h0 n0 _ T104.heap _
                rw [e104]
                exact ⟨congrArg some (own_spec_L (by omega) (by omega) (by omega) (by omega)).symm, N104, rfl⟩
          · -- pc 67: not (0 : Int32) < (lcmpW (ls + (((2 : Int32) + ((v - (1 : Int32)) * (2 : Int32))).toInt64)) (65535 : Int64))
            have ff1 := rng32 v
            have ff2 : (2 : Int32).toInt = 2 := by decide
            have d_hc2_51 := hc2_51; rw [Int32.lt_iff_toInt_lt] at d_hc2_51
            have ff3 : (1 : Int32).toInt = 1 := by decide
            have ff4 : (v - (1 : Int32)).toInt = v.toInt - 1 := by have c_ : ((v - (1 : Int32)).toInt - (v.toInt - 1)) % 4294967296 = 0 := c_isub v (1 : Int32); have r_ := rng32 (v - (1 : Int32)); omega
            have ff5 := c_i2l (v - (1 : Int32))
            have ff6 := rng64 ((v - (1 : Int32)).toInt64)
            have ff7 : (255 : Int64).toInt = 255 := by decide
            have d_hc46_58 := own_le_lc hc46_58
            have ff8 := rng64 ls
            have ff9 : ((v - (1 : Int32)) * (1 : Int32)).toInt = (v - (1 : Int32)).toInt * 1 := by have c_ : (((v - (1 : Int32)) * (1 : Int32)).toInt - ((v - (1 : Int32)).toInt * 1)) % 4294967296 = 0 := c_imul (v - (1 : Int32)) (1 : Int32); have r_ := rng32 ((v - (1 : Int32)) * (1 : Int32)); omega
            have ff10 : ((1 : Int32) + ((v - (1 : Int32)) * (1 : Int32))).toInt = 1 + ((v - (1 : Int32)) * (1 : Int32)).toInt := by have c_ : (((1 : Int32) + ((v - (1 : Int32)) * (1 : Int32))).toInt - (1 + ((v - (1 : Int32)) * (1 : Int32)).toInt)) % 4294967296 = 0 := c_iadd (1 : Int32) ((v - (1 : Int32)) * (1 : Int32)); have r_ := rng32 ((1 : Int32) + ((v - (1 : Int32)) * (1 : Int32))); omega
            have ff11 := c_i2l ((1 : Int32) + ((v - (1 : Int32)) * (1 : Int32)))
            have ff12 := rng64 (((1 : Int32) + ((v - (1 : Int32)) * (1 : Int32))).toInt64)
            have ff13 : (ls + (((1 : Int32) + ((v - (1 : Int32)) * (1 : Int32))).toInt64)).toInt = ls.toInt + (((1 : Int32) + ((v - (1 : Int32)) * (1 : Int32))).toInt64).toInt := by have c_ : ((ls + (((1 : Int32) + ((v - (1 : Int32)) * (1 : Int32))).toInt64)).toInt - (ls.toInt + (((1 : Int32) + ((v - (1 : Int32)) * (1 : Int32))).toInt64).toInt)) % 18446744073709551616 = 0 := c_ladd ls (((1 : Int32) + ((v - (1 : Int32)) * (1 : Int32))).toInt64); have r_ := rng64 (ls + (((1 : Int32) + ((v - (1 : Int32)) * (1 : Int32))).toInt64)); omega
            have d_hc67_84 := own_gt_lc hc67_84
            have ff14 : (65535 : Int64).toInt = 65535 := by decide
            have d_hc46_89 := own_le_lc hc46_89
            have ff15 : ((v - (1 : Int32)) * (2 : Int32)).toInt = (v - (1 : Int32)).toInt * 2 := by have c_ : (((v - (1 : Int32)) * (2 : Int32)).toInt - ((v - (1 : Int32)).toInt * 2)) % 4294967296 = 0 := c_imul (v - (1 : Int32)) (2 : Int32); have r_ := rng32 ((v - (1 : Int32)) * (2 : Int32)); omega
            have ff16 : ((2 : Int32) + ((v - (1 : Int32)) * (2 : Int32))).toInt = 2 + ((v - (1 : Int32)) * (2 : Int32)).toInt := by have c_ : (((2 : Int32) + ((v - (1 : Int32)) * (2 : Int32))).toInt - (2 + ((v - (1 : Int32)) * (2 : Int32)).toInt)) % 4294967296 = 0 := c_iadd (2 : Int32) ((v - (1 : Int32)) * (2 : Int32)); have r_ := rng32 ((2 : Int32) + ((v - (1 : Int32)) * (2 : Int32))); omega
            have ff17 := c_i2l ((2 : Int32) + ((v - (1 : Int32)) * (2 : Int32)))
            have ff18 := rng64 (((2 : Int32) + ((v - (1 : Int32)) * (2 : Int32))).toInt64)
            have ff19 : (ls + (((2 : Int32) + ((v - (1 : Int32)) * (2 : Int32))).toInt64)).toInt = ls.toInt + (((2 : Int32) + ((v - (1 : Int32)) * (2 : Int32))).toInt64).toInt := by have c_ : ((ls + (((2 : Int32) + ((v - (1 : Int32)) * (2 : Int32))).toInt64)).toInt - (ls.toInt + (((2 : Int32) + ((v - (1 : Int32)) * (2 : Int32))).toInt64).toInt)) % 18446744073709551616 = 0 := c_ladd ls (((2 : Int32) + ((v - (1 : Int32)) * (2 : Int32))).toInt64); have r_ := rng64 (ls + (((2 : Int32) + ((v - (1 : Int32)) * (2 : Int32))).toInt64)); omega
            have d_hc67_97 := own_le_lc hc67_97
            obtain ⟨fs, hr, hrun, hended, hW, hsame⟩ := X96.leave (v := some (.ref w_MEDIUM)) (fun h => by rw [Bd.returns] at h; cases h)
            refine ⟨_, _, ck98 _ ?_, hrun, hended, _, _, rfl, ?_, ⟨_, rfl⟩, hW, hsame.mono (by decide) (by decide)⟩
            · show Steps p.tables e below (T96.setTop (mkF m 67 #[.val (.int v), .val (.long ls), .second, .val (.ref w_WT), .val (.int (3 : Int32)), .val (.int (1 : Int32)), .val (.ref w_MEDIUM)] [(.int (lcmpW (ls + (((2 : Int32) + ((v - (1 : Int32)) * (2 : Int32))).toInt64)) (65535 : Int64)))])) _
              refine XS.ifNo X96.here hx rfl (hb hby d2_67) rfl ((if0 _ _).trans (flt hc67_97).2.2.1) ?_
              show Steps p.tables e below (T96.setTop (mkF m 70 #[.val (.int v), .val (.long ls), .second, .val (.ref w_WT), .val (.int (3 : Int32)), .val (.int (1 : Int32)), .val (.ref w_MEDIUM)] [])) _
              refine XS.aload X96.here hx rfl (hb hby d2_70) rfl rfl ?_
              show Steps p.tables e below (T96.setTop (mkF m 72 #[.val (.int v), .val (.long ls), .second, .val (.ref w_WT), .val (.int (3 : Int32)), .val (.int (1 : Int32)), .val (.ref w_MEDIUM)] [(.ref w_MEDIUM)])) _
              exact retOut X96 hx Bd.returns rfl (Or.inr (Or.inr (Or.inr (Or.inr ⟨rfl, rfl, rfl⟩)))) (hb hby d2_72) hr
            · show own_Pure (some (own_spec v.toInt ls.toInt w_NONE w_TINY w_MEDIUM w_LARGE)) h0 n0 _ T96.heap _
              rw [e96]
              exact ⟨congrArg some (own_spec_M (by omega) (by omega) (by omega)).symm, N96, rfl⟩
      · -- pc 67: not (0 : Int32) < (lcmpW (ls + (((1 : Int32) + ((v - (1 : Int32)) * (1 : Int32))).toInt64)) (255 : Int64))
        have ff1 := rng32 v
        have ff2 : (2 : Int32).toInt = 2 := by decide
        have d_hc2_51 := hc2_51; rw [Int32.lt_iff_toInt_lt] at d_hc2_51
        have ff3 : (1 : Int32).toInt = 1 := by decide
        have ff4 : (v - (1 : Int32)).toInt = v.toInt - 1 := by have c_ : ((v - (1 : Int32)).toInt - (v.toInt - 1)) % 4294967296 = 0 := c_isub v (1 : Int32); have r_ := rng32 (v - (1 : Int32)); omega
        have ff5 := c_i2l (v - (1 : Int32))
        have ff6 := rng64 ((v - (1 : Int32)).toInt64)
        have ff7 : (255 : Int64).toInt = 255 := by decide
        have d_hc46_58 := own_le_lc hc46_58
        have ff8 := rng64 ls
        have ff9 : ((v - (1 : Int32)) * (1 : Int32)).toInt = (v - (1 : Int32)).toInt * 1 := by have c_ : (((v - (1 : Int32)) * (1 : Int32)).toInt - ((v - (1 : Int32)).toInt * 1)) % 4294967296 = 0 := c_imul (v - (1 : Int32)) (1 : Int32); have r_ := rng32 ((v - (1 : Int32)) * (1 : Int32)); omega
        have ff10 : ((1 : Int32) + ((v - (1 : Int32)) * (1 : Int32))).toInt = 1 + ((v - (1 : Int32)) * (1 : Int32)).toInt := by have c_ : (((1 : Int32) + ((v - (1 : Int32)) * (1 : Int32))).toInt - (1 + ((v - (1 : Int32)) * (1 : Int32)).toInt)) % 4294967296 = 0 := c_iadd (1 : Int32) ((v - (1 : Int32)) * (1 : Int32)); have r_ := rng32 ((1 : Int32) + ((v - (1 : Int32)) * (1 : Int32))); omega
        have ff11 := c_i2l ((1 : Int32) + ((v - (1 : Int32)) * (1 : Int32)))
        have ff12 := rng64 (((1 : Int32) + ((v - (1 : Int32)) * (1 : Int32))).toInt64)
        have ff13 : (ls + (((1 : Int32) + ((v - (1 : Int32)) * (1 : Int32))).toInt64)).toInt = ls.toInt + (((1 : Int32) + ((v - (1 : Int32)) * (1 : Int32))).toInt64).toInt := by have c_ : ((ls + (((1 : Int32) + ((v - (1 : Int32)) * (1 : Int32))).toInt64)).toInt - (ls.toInt + (((1 : Int32) + ((v - (1 : Int32)) * (1 : Int32))).toInt64).toInt)) % 18446744073709551616 = 0 := c_ladd ls (((1 : Int32) + ((v - (1 : Int32)) * (1 : Int32))).toInt64); have r_ := rng64 (ls + (((1 : Int32) + ((v - (1 : Int32)) * (1 : Int32))).toInt64)); omega
        have d_hc67_84 := own_le_lc hc67_84
        obtain ⟨fs, hr, hrun, hended, hW, hsame⟩ := X83.leave (v := some (.ref w_TINY)) (fun h => by rw [Bd.returns] at h; cases h)
        refine ⟨_, _, ck85 _ ?_, hrun, hended, _, _, rfl, ?_, ⟨_, rfl⟩, hW, hsame.mono (by decide) (by decide)⟩
        · show Steps p.tables e below (T83.setTop (mkF m 67 #[.val (.int v), .val (.long ls), .second, .val (.ref w_WT), .val (.int (3 : Int32)), .val (.int (0 : Int32)), .val (.ref w_TINY)] [(.int (lcmpW (ls + (((1 : Int32) + ((v - (1 : Int32)) * (1 : Int32))).toInt64)) (255 : Int64)))])) _
          refine XS.ifNo X83.here hx rfl (hb hby d2_67) rfl ((if0 _ _).trans (flt hc67_84).2.2.1) ?_
          show Steps p.tables e below (T83.setTop (mkF m 70 #[.val (.int v), .val (.long ls), .second, .val (.ref w_WT), .val (.int (3 : Int32)), .val (.int (0 : Int32)), .val (.ref w_TINY)] [])) _
          refine XS.aload X83.here hx rfl (hb hby d2_70) rfl rfl ?_
          show Steps p.tables e below (T83.setTop (mkF m 72 #[.val (.int v), .val (.long ls), .second, .val (.ref w_WT), .val (.int (3 : Int32)), .val (.int (0 : Int32)), .val (.ref w_TINY)] [(.ref w_TINY)])) _
          exact retOut X83 hx Bd.returns rfl (Or.inr (Or.inr (Or.inr (Or.inr ⟨rfl, rfl, rfl⟩)))) (hb hby d2_72) hr
        · show own_Pure (some (own_spec v.toInt ls.toInt w_NONE w_TINY w_MEDIUM w_LARGE)) h0 n0 _ T83.heap _
          rw [e83]
          exact ⟨congrArg some (own_spec_T (by omega) (by omega)).symm, N83, rfl⟩
theorem d5_0 : decode method_3_code 0 = .ok (.iload_n 0, 1) := by decide +kernel
theorem d5_1 : decode method_3_code 1 = .ok (.iconst 2, 1) := by decide +kernel
theorem d5_2 : decode method_3_code 2 = .ok (.if_icmp .ge 7, 3) := by decide +kernel
theorem d5_5 : decode method_3_code 5 = .ok (.getstatic 35, 3) := by decide +kernel
theorem d5_8 : decode method_3_code 8 = .ok (.areturn, 1) := by decide +kernel
theorem d5_9 : decode method_3_code 9 = .ok (.iload_n 0, 1) := by decide +kernel
theorem d5_10 : decode method_3_code 10 = .ok (.i2l, 1) := by decide +kernel
theorem d5_11 : decode method_3_code 11 = .ok (.lconst 1, 1) := by decide +kernel
theorem d5_12 : decode method_3_code 12 = .ok (.lsub, 1) := by decide +kernel
theorem d5_13 : decode method_3_code 13 = .ok (.lstore_n 3, 1) := by decide +kernel
theorem d5_14 : decode method_3_code 14 = .ok (.lload_n 3, 1) := by decide +kernel
theorem d5_15 : decode method_3_code 15 = .ok (.ldc2_w 14, 3) := by decide +kernel
theorem d5_18 : decode method_3_code 18 = .ok (.lcmp, 1) := by decide +kernel
theorem d5_19 : decode method_3_code 19 = .ok (.ifCond .gt 19, 3) := by decide +kernel
theorem d5_38 : decode method_3_code 38 = .ok (.lload_n 3, 1) := by decide +kernel
theorem d5_39 : decode method_3_code 39 = .ok (.ldc2_w 16, 3) := by decide +kernel
theorem d5_42 : decode method_3_code 42 = .ok (.lcmp, 1) := by decide +kernel
theorem d5_43 : decode method_3_code 43 = .ok (.ifCond .gt 25, 3) := by decide +kernel
theorem d5_68 : decode method_3_code 68 = .ok (.lload_n 3, 1) := by decide +kernel
theorem d5_69 : decode method_3_code 69 = .ok (.ldc2_w 16, 3) := by decide +kernel
theorem d5_72 : decode method_3_code 72 = .ok (.lcmp, 1) := by decide +kernel
theorem d5_73 : decode method_3_code 73 = .ok (.ifCond .gt 25, 3) := by decide +kernel
theorem d5_98 : decode method_3_code 98 = .ok (.aconst_null, 1) := by decide +kernel
theorem d5_99 : decode method_3_code 99 = .ok (.areturn, 1) := by decide +kernel
theorem d5_46 : decode method_3_code 46 = .ok (.lload_n 1, 1) := by decide +kernel
theorem d5_47 : decode method_3_code 47 = .ok (.ldc2_w 20, 3) := by decide +kernel
theorem d5_50 : decode method_3_code 50 = .ok (.ladd, 1) := by decide +kernel
theorem d5_51 : decode method_3_code 51 = .ok (.ldc2_w 20, 3) := by decide +kernel
theorem d5_54 : decode method_3_code 54 = .ok (.lload_n 3, 1) := by decide +kernel
theorem d5_55 : decode method_3_code 55 = .ok (.lmul, 1) := by decide +kernel
theorem d5_56 : decode method_3_code 56 = .ok (.ladd, 1) := by decide +kernel
theorem d5_57 : decode method_3_code 57 = .ok (.ldc2_w 16, 3) := by decide +kernel
theorem d5_60 : decode method_3_code 60 = .ok (.lcmp, 1) := by decide +kernel
theorem d5_61 : decode method_3_code 61 = .ok (.ifCond .gt 7, 3) := by decide +kernel
theorem d5_76 : decode method_3_code 76 = .ok (.lload_n 1, 1) := by decide +kernel
theorem d5_77 : decode method_3_code 77 = .ok (.ldc2_w 20, 3) := by decide +kernel
theorem d5_80 : decode method_3_code 80 = .ok (.ladd, 1) := by decide +kernel
theorem d5_81 : decode method_3_code 81 = .ok (.ldc2_w 22, 3) := by decide +kernel
theorem d5_84 : decode method_3_code 84 = .ok (.lload_n 3, 1) := by decide +kernel
theorem d5_85 : decode method_3_code 85 = .ok (.lmul, 1) := by decide +kernel
theorem d5_86 : decode method_3_code 86 = .ok (.ladd, 1) := by decide +kernel
theorem d5_87 : decode method_3_code 87 = .ok (.ldc2_w 18, 3) := by decide +kernel
theorem d5_90 : decode method_3_code 90 = .ok (.lcmp, 1) := by decide +kernel
theorem d5_91 : decode method_3_code 91 = .ok (.ifCond .gt 7, 3) := by decide +kernel
theorem d5_94 : decode method_3_code 94 = .ok (.getstatic 45, 3) := by decide +kernel
theorem d5_97 : decode method_3_code 97 = .ok (.areturn, 1) := by decide +kernel
theorem d5_64 : decode method_3_code 64 = .ok (.getstatic 42, 3) := by decide +kernel
theorem d5_67 : decode method_3_code 67 = .ok (.areturn, 1) := by decide +kernel
theorem d5_22 : decode method_3_code 22 = .ok (.lload_n 1, 1) := by decide +kernel
theorem d5_23 : decode method_3_code 23 = .ok (.lconst 1, 1) := by decide +kernel
theorem d5_24 : decode method_3_code 24 = .ok (.ladd, 1) := by decide +kernel
theorem d5_25 : decode method_3_code 25 = .ok (.lload_n 3, 1) := by decide +kernel
theorem d5_26 : decode method_3_code 26 = .ok (.ladd, 1) := by decide +kernel
theorem d5_27 : decode method_3_code 27 = .ok (.ldc2_w 14, 3) := by decide +kernel
theorem d5_30 : decode method_3_code 30 = .ok (.lcmp, 1) := by decide +kernel
theorem d5_31 : decode method_3_code 31 = .ok (.ifCond .gt 7, 3) := by decide +kernel
theorem d5_34 : decode method_3_code 34 = .ok (.getstatic 39, 3) := by decide +kernel
theorem d5_37 : decode method_3_code 37 = .ok (.areturn, 1) := by decide +kernel
theorem pn_135 : plainName "com/example/rowstrata/rowstrata/row/VarTableSmallestPinLaw" = true := by first | (simp [plainName, overriddenIn]; done) | decide +kernel
theorem ef_rm_exp (m : MethodId) (x0 : Int32) (x1 : Int64) : entryFrame m #[(.int x0), (.long x1)] 5 = mkF m 0 #[.val (.int x0), .val (.long x1), .second, .unset, .unset] [] := by first | (simp [entryFrame, mkF, argsToLocals, Value.category]; done) | rfl
set_option maxRecDepth 65536 in
set_option maxHeartbeats 40000000 in
theorem rm_exp (l : Launch) (Z : State) (a0 : Array Value) (hw : ∀ d ∈ tables_1, d.before a0 Z = true) (ws : List Jvm.Cond) (v : Int32) (ls : Int64) (h0 : Heap) (n0 : Nat) (Z0 : n0 ≤ h0.size) (w_TINY w_NONE w_MEDIUM w_LARGE : Addr) (hWd : own_W Z h0 w_TINY w_NONE w_MEDIUM w_LARGE) (hb1 : 0 ≤ ls.toInt) (hb2 : ls.toInt ≤ 4611686018427387904) :
    MetFree l (⟨"com/example/rowstrata/rowstrata/row/VarTableSmallestPinLaw", "expected", "(IJ)Lcom/example/rowstrata/rowstrata/row/VarTable;"⟩ : MethodName) (head1 (Jvm.Cond.code (⟨"com/example/rowstrata/rowstrata/row/VarTableSmallestPinLaw", "expected", "(IJ)Lcom/example/rowstrata/rowstrata/row/VarTable;"⟩ : MethodName) method_3_code 5 (some (.object "com/example/rowstrata/rowstrata/row/VarTable")) :: ws) ({ frames := 0, cells := 0, slots := 0, locals := 0 } : Room)) (fun aQ UQ => aQ = #[(.int v), (.long ls)] ∧ Z.Warmed39 UQ.vm ∧ UQ.heap = h0) (fun _ _ _ _ _ => True) (fun _ UQ oQ UR => ∃ vQ LQ, oQ = .returned vQ ∧ own_Pure (some (own_spec v.toInt ls.toInt w_NONE w_TINY w_MEDIUM w_LARGE)) h0 n0 vQ UR.heap LQ ∧ FrameEnd UQ oQ UR LQ ({ frames := 0, cells := 0, slots := 0, locals := 0 } : Room).cells ({ frames := 0, cells := 0, slots := 0, locals := 0 } : Room).slots) := by
  refine MetFree.of_bodySF (plainFor_of_name pn_135) hisR ?_
  intro p e s m args below meth c s₁ Bd hml0 hP hK
  obtain ⟨rfl, hZ, hh⟩ := hP
  have hx := Bd.exec
  have hby := Bd.bytes
  have hml : c.maxLocals = 5 := hml0
  have hown : s.vm.findClass "com/example/rowstrata/rowstrata/row/VarTableSmallestPinLaw" = some m.cls := findClass_of_methodNamed Bd.named
  have hnm := (name_of_methodNamed Bd.named Bd.method).1
  have X0 : Stand p l e ({ frames := 0, cells := 0, slots := 0, locals := 0 } : Room) s m #[(.int v), (.long ls)] below meth c s₁ [] 0 0 := Stand.of_body Bd
  have e0 : s₁.heap = h0 := by rw [← hh, Bd.state]; rfl
  have N0 := Fr.nil n0
  have pre0 : ∀ t, Steps p.tables e below (s₁.setTop (mkF m 0 #[.val (.int v), .val (.long ls), .second, .unset, .unset] [])) t → Steps p.tables e below (s₁.setTop (entryFrame m #[(.int v), (.long ls)] 5)) t := fun t kq => castTop (ef_rm_exp m v ls) kq
  have hWd' := hWd
  obtain ⟨S_TINY, E_TINY, F_TINY_countBytes, F_TINY_ordinal, F_TINY_offsetBytes, S_NONE, E_NONE, F_NONE_ordinal, F_NONE_countBytes, F_NONE_offsetBytes, S_MEDIUM, E_MEDIUM, F_MEDIUM_countBytes, F_MEDIUM_ordinal, F_MEDIUM_offsetBytes, S_LARGE, E_LARGE, F_LARGE_countBytes, F_LARGE_ordinal, F_LARGE_offsetBytes⟩ := hWd'
  by_cases hc2_107 : v < (2 : Int32)
  · -- pc 2: v < (2 : Int32)
    obtain ⟨T108, X108, e108, st108⟩ := getS2 X0 hx hZ hown (host := "") (Or.inl (hw _ (List.mem_of_getElem? (i := 39) rfl))) Via.refl e0 S_NONE (g := (mkF m 5 #[.val (.int v), .val (.long ls), .second, .unset, .unset] [])) rfl (hb hby d5_5)
    have ff1 := rng32 v
    have ff2 : (2 : Int32).toInt = 2 := by decide
    have d_hc2_107 := hc2_107; rw [Int32.lt_iff_toInt_lt] at d_hc2_107
    obtain ⟨fs, hr, hrun, hended, hW, hsame⟩ := X108.leave (v := some (.ref w_NONE)) (fun h => by rw [Bd.returns] at h; cases h)
    refine ⟨_, _, pre0 _ ?_, hrun, hended, _, _, rfl, ?_, ⟨_, rfl⟩, hW, hsame.mono (by decide) (by decide)⟩
    · show Steps p.tables e below (s₁.setTop (mkF m 0 #[.val (.int v), .val (.long ls), .second, .unset, .unset] [])) _
      refine XS.iloadN X0.here hx rfl (hb hby d5_0) rfl ?_
      show Steps p.tables e below (s₁.setTop (mkF m 1 #[.val (.int v), .val (.long ls), .second, .unset, .unset] [(.int v)])) _
      refine XS.iconst X0.here hx rfl (hb hby d5_1) ?_
      show Steps p.tables e below (s₁.setTop (mkF m 2 #[.val (.int v), .val (.long ls), .second, .unset, .unset] [(.int (2 : Int32)), (.int v)])) _
      refine XS.icmpNo X0.here hx rfl (hb hby d5_2) rfl (tlt hc2_107).2.1 ?_
      show Steps p.tables e below (s₁.setTop (mkF m 5 #[.val (.int v), .val (.long ls), .second, .unset, .unset] [])) _
      refine st108 _ ?_
      show Steps p.tables e below (T108.setTop (mkF m 8 #[.val (.int v), .val (.long ls), .second, .unset, .unset] [(.ref w_NONE)])) _
      exact retOut X108 hx Bd.returns rfl (Or.inr (Or.inr (Or.inr (Or.inr ⟨rfl, rfl, rfl⟩)))) (hb hby d5_8) hr
    · show own_Pure (some (own_spec v.toInt ls.toInt w_NONE w_TINY w_MEDIUM w_LARGE)) h0 n0 _ T108.heap _
      rw [e108]
      exact ⟨congrArg some (own_spec_N (by omega)).symm, N0, rfl⟩
  · -- pc 2: not v < (2 : Int32)
    have ck110 : ∀ t, Steps p.tables e below (s₁.setTop (mkF m 19 #[.val (.int v), .val (.long ls), .second, .val (.long ((v.toInt64) - (1 : Int64))), .second] [(.int (lcmpW ((v.toInt64) - (1 : Int64)) (255 : Int64)))])) t → Steps p.tables e below (s₁.setTop (entryFrame m #[(.int v), (.long ls)] 5)) t := by
      intro t kt
      refine pre0 _ ?_
      show Steps p.tables e below (s₁.setTop (mkF m 0 #[.val (.int v), .val (.long ls), .second, .unset, .unset] [])) _
      refine XS.iloadN X0.here hx rfl (hb hby d5_0) rfl ?_
      show Steps p.tables e below (s₁.setTop (mkF m 1 #[.val (.int v), .val (.long ls), .second, .unset, .unset] [(.int v)])) _
      refine XS.iconst X0.here hx rfl (hb hby d5_1) ?_
      show Steps p.tables e below (s₁.setTop (mkF m 2 #[.val (.int v), .val (.long ls), .second, .unset, .unset] [(.int (2 : Int32)), (.int v)])) _
      refine XS.icmpYes X0.here hx rfl (pc0 := 2) (pc' := 9) rfl (hb hby d5_2) rfl (flt hc2_107).2.1 (by decide) (by decide) ?_
      show Steps p.tables e below (s₁.setTop (mkF m 9 #[.val (.int v), .val (.long ls), .second, .unset, .unset] [])) _
      refine XS.iloadN X0.here hx rfl (hb hby d5_9) rfl ?_
      show Steps p.tables e below (s₁.setTop (mkF m 10 #[.val (.int v), .val (.long ls), .second, .unset, .unset] [(.int v)])) _
      refine XS.i2l X0.here hx rfl (hb hby d5_10) rfl ?_
      show Steps p.tables e below (s₁.setTop (mkF m 11 #[.val (.int v), .val (.long ls), .second, .unset, .unset] [(.long (v.toInt64))])) _
      refine XS.lconst X0.here hx rfl (hb hby d5_11) ?_
      show Steps p.tables e below (s₁.setTop (mkF m 12 #[.val (.int v), .val (.long ls), .second, .unset, .unset] [(.long (1 : Int64)), (.long (v.toInt64))])) _
      refine XS.lsub X0.here hx rfl (hb hby d5_12) rfl ?_
      show Steps p.tables e below (s₁.setTop (mkF m 13 #[.val (.int v), .val (.long ls), .second, .unset, .unset] [(.long ((v.toInt64) - (1 : Int64)))])) _
      refine XS.lstoreN X0.here hx rfl (hb hby d5_13) rfl (l' := #[.val (.int v), .val (.long ls), .second, .val (.long ((v.toInt64) - (1 : Int64))), .second]) rfl ?_
      show Steps p.tables e below (s₁.setTop (mkF m 14 #[.val (.int v), .val (.long ls), .second, .val (.long ((v.toInt64) - (1 : Int64))), .second] [])) _
      refine XS.lloadN X0.here hx rfl (hb hby d5_14) rfl ?_
      show Steps p.tables e below (s₁.setTop (mkF m 15 #[.val (.int v), .val (.long ls), .second, .val (.long ((v.toInt64) - (1 : Int64))), .second] [(.long ((v.toInt64) - (1 : Int64)))])) _
      refine X0.ldc2Long hx hown (mvT hZ (hw _ (List.mem_of_getElem? (i := 29) rfl))) (g := (mkF m 15 #[.val (.int v), .val (.long ls), .second, .val (.long ((v.toInt64) - (1 : Int64))), .second] [(.long ((v.toInt64) - (1 : Int64)))])) rfl (hb hby d5_15) _ ?_
      show Steps p.tables e below (s₁.setTop (mkF m 18 #[.val (.int v), .val (.long ls), .second, .val (.long ((v.toInt64) - (1 : Int64))), .second] [(.long (255 : Int64)), (.long ((v.toInt64) - (1 : Int64)))])) _
      refine XS.lcmp X0.here hx rfl (hb hby d5_18) rfl ?_
      exact kt
    by_cases hc19_109 : (0 : Int32) < (lcmpW ((v.toInt64) - (1 : Int64)) (255 : Int64))
    · -- pc 19: (0 : Int32) < (lcmpW ((v.toInt64) - (1 : Int64)) (255 : Int64))
      have ck112 : ∀ t, Steps p.tables e below (s₁.setTop (mkF m 43 #[.val (.int v), .val (.long ls), .second, .val (.long ((v.toInt64) - (1 : Int64))), .second] [(.int (lcmpW ((v.toInt64) - (1 : Int64)) (65535 : Int64)))])) t → Steps p.tables e below (s₁.setTop (entryFrame m #[(.int v), (.long ls)] 5)) t := by
        intro t kt
        refine ck110 _ ?_
        show Steps p.tables e below (s₁.setTop (mkF m 19 #[.val (.int v), .val (.long ls), .second, .val (.long ((v.toInt64) - (1 : Int64))), .second] [(.int (lcmpW ((v.toInt64) - (1 : Int64)) (255 : Int64)))])) _
        refine XS.ifYes X0.here hx rfl (pc0 := 19) (pc' := 38) rfl (hb hby d5_19) rfl ((if0 _ _).trans (tlt hc19_109).2.2.1) (by decide) (by decide) ?_
        show Steps p.tables e below (s₁.setTop (mkF m 38 #[.val (.int v), .val (.long ls), .second, .val (.long ((v.toInt64) - (1 : Int64))), .second] [])) _
        refine XS.lloadN X0.here hx rfl (hb hby d5_38) rfl ?_
        show Steps p.tables e below (s₁.setTop (mkF m 39 #[.val (.int v), .val (.long ls), .second, .val (.long ((v.toInt64) - (1 : Int64))), .second] [(.long ((v.toInt64) - (1 : Int64)))])) _
        refine X0.ldc2Long hx hown (mvT hZ (hw _ (List.mem_of_getElem? (i := 32) rfl))) (g := (mkF m 39 #[.val (.int v), .val (.long ls), .second, .val (.long ((v.toInt64) - (1 : Int64))), .second] [(.long ((v.toInt64) - (1 : Int64)))])) rfl (hb hby d5_39) _ ?_
        show Steps p.tables e below (s₁.setTop (mkF m 42 #[.val (.int v), .val (.long ls), .second, .val (.long ((v.toInt64) - (1 : Int64))), .second] [(.long (65535 : Int64)), (.long ((v.toInt64) - (1 : Int64)))])) _
        refine XS.lcmp X0.here hx rfl (hb hby d5_42) rfl ?_
        exact kt
      by_cases hc43_111 : (0 : Int32) < (lcmpW ((v.toInt64) - (1 : Int64)) (65535 : Int64))
      · -- pc 43: (0 : Int32) < (lcmpW ((v.toInt64) - (1 : Int64)) (65535 : Int64))
        have ff1 := rng32 v
        have ff2 : (2 : Int32).toInt = 2 := by decide
        have d_hc2_107 := hc2_107; rw [Int32.lt_iff_toInt_lt] at d_hc2_107
        have ff3 := c_i2l v
        have ff4 := rng64 (v.toInt64)
        have ff5 : (1 : Int64).toInt = 1 := by decide
        have ff6 : ((v.toInt64) - (1 : Int64)).toInt = (v.toInt64).toInt - 1 := by have c_ : (((v.toInt64) - (1 : Int64)).toInt - ((v.toInt64).toInt - 1)) % 18446744073709551616 = 0 := c_lsub (v.toInt64) (1 : Int64); have r_ := rng64 ((v.toInt64) - (1 : Int64)); omega
        have ff7 : (255 : Int64).toInt = 255 := by decide
        have d_hc19_109 := own_gt_lc hc19_109
        have ff8 : (65535 : Int64).toInt = 65535 := by decide
        have d_hc43_111 := own_gt_lc hc43_111
        obtain ⟨fs, hr, hrun, hended, hW, hsame⟩ := X0.leave (v := some .null) (fun h => by rw [Bd.returns] at h; cases h)
        refine ⟨_, _, ck112 _ ?_, hrun, hended, _, _, rfl, ?_, ⟨_, rfl⟩, hW, hsame.mono (by decide) (by decide)⟩
        · show Steps p.tables e below (s₁.setTop (mkF m 43 #[.val (.int v), .val (.long ls), .second, .val (.long ((v.toInt64) - (1 : Int64))), .second] [(.int (lcmpW ((v.toInt64) - (1 : Int64)) (65535 : Int64)))])) _
          refine XS.ifYes X0.here hx rfl (pc0 := 43) (pc' := 68) rfl (hb hby d5_43) rfl ((if0 _ _).trans (tlt hc43_111).2.2.1) (by decide) (by decide) ?_
          show Steps p.tables e below (s₁.setTop (mkF m 68 #[.val (.int v), .val (.long ls), .second, .val (.long ((v.toInt64) - (1 : Int64))), .second] [])) _
          refine XS.lloadN X0.here hx rfl (hb hby d5_68) rfl ?_
          show Steps p.tables e below (s₁.setTop (mkF m 69 #[.val (.int v), .val (.long ls), .second, .val (.long ((v.toInt64) - (1 : Int64))), .second] [(.long ((v.toInt64) - (1 : Int64)))])) _
          refine X0.ldc2Long hx hown (mvT hZ (hw _ (List.mem_of_getElem? (i := 32) rfl))) (g := (mkF m 69 #[.val (.int v), .val (.long ls), .second, .val (.long ((v.toInt64) - (1 : Int64))), .second] [(.long ((v.toInt64) - (1 : Int64)))])) rfl (hb hby d5_69) _ ?_
          show Steps p.tables e below (s₁.setTop (mkF m 72 #[.val (.int v), .val (.long ls), .second, .val (.long ((v.toInt64) - (1 : Int64))), .second] [(.long (65535 : Int64)), (.long ((v.toInt64) - (1 : Int64)))])) _
          refine XS.lcmp X0.here hx rfl (hb hby d5_72) rfl ?_
          show Steps p.tables e below (s₁.setTop (mkF m 73 #[.val (.int v), .val (.long ls), .second, .val (.long ((v.toInt64) - (1 : Int64))), .second] [(.int (lcmpW ((v.toInt64) - (1 : Int64)) (65535 : Int64)))])) _
          refine XS.ifYes X0.here hx rfl (pc0 := 73) (pc' := 98) rfl (hb hby d5_73) rfl ((if0 _ _).trans (tlt hc43_111).2.2.1) (by decide) (by decide) ?_
          show Steps p.tables e below (s₁.setTop (mkF m 98 #[.val (.int v), .val (.long ls), .second, .val (.long ((v.toInt64) - (1 : Int64))), .second] [])) _
          refine XS.aconstNull X0.here hx rfl (hb hby d5_98) ?_
          show Steps p.tables e below (s₁.setTop (mkF m 99 #[.val (.int v), .val (.long ls), .second, .val (.long ((v.toInt64) - (1 : Int64))), .second] [.null])) _
          exact retOut X0 hx Bd.returns rfl (Or.inr (Or.inr (Or.inr (Or.inr ⟨rfl, rfl, rfl⟩)))) (hb hby d5_99) hr
        · show own_Pure (some (own_spec v.toInt ls.toInt w_NONE w_TINY w_MEDIUM w_LARGE)) h0 n0 _ s₁.heap _
          rw [e0]
          exact ⟨congrArg some (own_spec_0 (by omega) (by omega) (by omega) (by omega)).symm, N0, rfl⟩
      · -- pc 43: not (0 : Int32) < (lcmpW ((v.toInt64) - (1 : Int64)) (65535 : Int64))
        have ck114 : ∀ t, Steps p.tables e below (s₁.setTop (mkF m 61 #[.val (.int v), .val (.long ls), .second, .val (.long ((v.toInt64) - (1 : Int64))), .second] [(.int (lcmpW ((ls + (2 : Int64)) + ((2 : Int64) * ((v.toInt64) - (1 : Int64)))) (65535 : Int64)))])) t → Steps p.tables e below (s₁.setTop (entryFrame m #[(.int v), (.long ls)] 5)) t := by
          intro t kt
          refine ck112 _ ?_
          show Steps p.tables e below (s₁.setTop (mkF m 43 #[.val (.int v), .val (.long ls), .second, .val (.long ((v.toInt64) - (1 : Int64))), .second] [(.int (lcmpW ((v.toInt64) - (1 : Int64)) (65535 : Int64)))])) _
          refine XS.ifNo X0.here hx rfl (hb hby d5_43) rfl ((if0 _ _).trans (flt hc43_111).2.2.1) ?_
          show Steps p.tables e below (s₁.setTop (mkF m 46 #[.val (.int v), .val (.long ls), .second, .val (.long ((v.toInt64) - (1 : Int64))), .second] [])) _
          refine XS.lloadN X0.here hx rfl (hb hby d5_46) rfl ?_
          show Steps p.tables e below (s₁.setTop (mkF m 47 #[.val (.int v), .val (.long ls), .second, .val (.long ((v.toInt64) - (1 : Int64))), .second] [(.long ls)])) _
          refine X0.ldc2Long hx hown (mvT hZ (hw _ (List.mem_of_getElem? (i := 33) rfl))) (g := (mkF m 47 #[.val (.int v), .val (.long ls), .second, .val (.long ((v.toInt64) - (1 : Int64))), .second] [(.long ls)])) rfl (hb hby d5_47) _ ?_
          show Steps p.tables e below (s₁.setTop (mkF m 50 #[.val (.int v), .val (.long ls), .second, .val (.long ((v.toInt64) - (1 : Int64))), .second] [(.long (2 : Int64)), (.long ls)])) _
          refine XS.ladd X0.here hx rfl (hb hby d5_50) rfl ?_
          show Steps p.tables e below (s₁.setTop (mkF m 51 #[.val (.int v), .val (.long ls), .second, .val (.long ((v.toInt64) - (1 : Int64))), .second] [(.long (ls + (2 : Int64)))])) _
          refine X0.ldc2Long hx hown (mvT hZ (hw _ (List.mem_of_getElem? (i := 33) rfl))) (g := (mkF m 51 #[.val (.int v), .val (.long ls), .second, .val (.long ((v.toInt64) - (1 : Int64))), .second] [(.long (ls + (2 : Int64)))])) rfl (hb hby d5_51) _ ?_
          show Steps p.tables e below (s₁.setTop (mkF m 54 #[.val (.int v), .val (.long ls), .second, .val (.long ((v.toInt64) - (1 : Int64))), .second] [(.long (2 : Int64)), (.long (ls + (2 : Int64)))])) _
          refine XS.lloadN X0.here hx rfl (hb hby d5_54) rfl ?_
          show Steps p.tables e below (s₁.setTop (mkF m 55 #[.val (.int v), .val (.long ls), .second, .val (.long ((v.toInt64) - (1 : Int64))), .second] [(.long ((v.toInt64) - (1 : Int64))), (.long (2 : Int64)), (.long (ls + (2 : Int64)))])) _
          refine XS.lmul X0.here hx rfl (hb hby d5_55) rfl ?_
          show Steps p.tables e below (s₁.setTop (mkF m 56 #[.val (.int v), .val (.long ls), .second, .val (.long ((v.toInt64) - (1 : Int64))), .second] [(.long ((2 : Int64) * ((v.toInt64) - (1 : Int64)))), (.long (ls + (2 : Int64)))])) _
          refine XS.ladd X0.here hx rfl (hb hby d5_56) rfl ?_
          show Steps p.tables e below (s₁.setTop (mkF m 57 #[.val (.int v), .val (.long ls), .second, .val (.long ((v.toInt64) - (1 : Int64))), .second] [(.long ((ls + (2 : Int64)) + ((2 : Int64) * ((v.toInt64) - (1 : Int64)))))])) _
          refine X0.ldc2Long hx hown (mvT hZ (hw _ (List.mem_of_getElem? (i := 32) rfl))) (g := (mkF m 57 #[.val (.int v), .val (.long ls), .second, .val (.long ((v.toInt64) - (1 : Int64))), .second] [(.long ((ls + (2 : Int64)) + ((2 : Int64) * ((v.toInt64) - (1 : Int64)))))])) rfl (hb hby d5_57) _ ?_
          show Steps p.tables e below (s₁.setTop (mkF m 60 #[.val (.int v), .val (.long ls), .second, .val (.long ((v.toInt64) - (1 : Int64))), .second] [(.long (65535 : Int64)), (.long ((ls + (2 : Int64)) + ((2 : Int64) * ((v.toInt64) - (1 : Int64)))))])) _
          refine XS.lcmp X0.here hx rfl (hb hby d5_60) rfl ?_
          exact kt
        by_cases hc61_113 : (0 : Int32) < (lcmpW ((ls + (2 : Int64)) + ((2 : Int64) * ((v.toInt64) - (1 : Int64)))) (65535 : Int64))
        · -- pc 61: (0 : Int32) < (lcmpW ((ls + (2 : Int64)) + ((2 : Int64) * ((v.toInt64) - (1 : Int64)))) (65535 : Int64))
          have ck116 : ∀ t, Steps p.tables e below (s₁.setTop (mkF m 91 #[.val (.int v), .val (.long ls), .second, .val (.long ((v.toInt64) - (1 : Int64))), .second] [(.int (lcmpW ((ls + (2 : Int64)) + ((4 : Int64) * ((v.toInt64) - (1 : Int64)))) (4294967295 : Int64)))])) t → Steps p.tables e below (s₁.setTop (entryFrame m #[(.int v), (.long ls)] 5)) t := by
            intro t kt
            refine ck114 _ ?_
            show Steps p.tables e below (s₁.setTop (mkF m 61 #[.val (.int v), .val (.long ls), .second, .val (.long ((v.toInt64) - (1 : Int64))), .second] [(.int (lcmpW ((ls + (2 : Int64)) + ((2 : Int64) * ((v.toInt64) - (1 : Int64)))) (65535 : Int64)))])) _
            refine XS.ifYes X0.here hx rfl (pc0 := 61) (pc' := 68) rfl (hb hby d5_61) rfl ((if0 _ _).trans (tlt hc61_113).2.2.1) (by decide) (by decide) ?_
            show Steps p.tables e below (s₁.setTop (mkF m 68 #[.val (.int v), .val (.long ls), .second, .val (.long ((v.toInt64) - (1 : Int64))), .second] [])) _
            refine XS.lloadN X0.here hx rfl (hb hby d5_68) rfl ?_
            show Steps p.tables e below (s₁.setTop (mkF m 69 #[.val (.int v), .val (.long ls), .second, .val (.long ((v.toInt64) - (1 : Int64))), .second] [(.long ((v.toInt64) - (1 : Int64)))])) _
            refine X0.ldc2Long hx hown (mvT hZ (hw _ (List.mem_of_getElem? (i := 32) rfl))) (g := (mkF m 69 #[.val (.int v), .val (.long ls), .second, .val (.long ((v.toInt64) - (1 : Int64))), .second] [(.long ((v.toInt64) - (1 : Int64)))])) rfl (hb hby d5_69) _ ?_
            show Steps p.tables e below (s₁.setTop (mkF m 72 #[.val (.int v), .val (.long ls), .second, .val (.long ((v.toInt64) - (1 : Int64))), .second] [(.long (65535 : Int64)), (.long ((v.toInt64) - (1 : Int64)))])) _
            refine XS.lcmp X0.here hx rfl (hb hby d5_72) rfl ?_
            show Steps p.tables e below (s₁.setTop (mkF m 73 #[.val (.int v), .val (.long ls), .second, .val (.long ((v.toInt64) - (1 : Int64))), .second] [(.int (lcmpW ((v.toInt64) - (1 : Int64)) (65535 : Int64)))])) _
            refine XS.ifNo X0.here hx rfl (hb hby d5_73) rfl ((if0 _ _).trans (flt hc43_111).2.2.1) ?_
            show Steps p.tables e below (s₁.setTop (mkF m 76 #[.val (.int v), .val (.long ls), .second, .val (.long ((v.toInt64) - (1 : Int64))), .second] [])) _
            refine XS.lloadN X0.here hx rfl (hb hby d5_76) rfl ?_
            show Steps p.tables e below (s₁.setTop (mkF m 77 #[.val (.int v), .val (.long ls), .second, .val (.long ((v.toInt64) - (1 : Int64))), .second] [(.long ls)])) _
            refine X0.ldc2Long hx hown (mvT hZ (hw _ (List.mem_of_getElem? (i := 33) rfl))) (g := (mkF m 77 #[.val (.int v), .val (.long ls), .second, .val (.long ((v.toInt64) - (1 : Int64))), .second] [(.long ls)])) rfl (hb hby d5_77) _ ?_
            show Steps p.tables e below (s₁.setTop (mkF m 80 #[.val (.int v), .val (.long ls), .second, .val (.long ((v.toInt64) - (1 : Int64))), .second] [(.long (2 : Int64)), (.long ls)])) _
            refine XS.ladd X0.here hx rfl (hb hby d5_80) rfl ?_
            show Steps p.tables e below (s₁.setTop (mkF m 81 #[.val (.int v), .val (.long ls), .second, .val (.long ((v.toInt64) - (1 : Int64))), .second] [(.long (ls + (2 : Int64)))])) _
            refine X0.ldc2Long hx hown (mvT hZ (hw _ (List.mem_of_getElem? (i := 36) rfl))) (g := (mkF m 81 #[.val (.int v), .val (.long ls), .second, .val (.long ((v.toInt64) - (1 : Int64))), .second] [(.long (ls + (2 : Int64)))])) rfl (hb hby d5_81) _ ?_
            show Steps p.tables e below (s₁.setTop (mkF m 84 #[.val (.int v), .val (.long ls), .second, .val (.long ((v.toInt64) - (1 : Int64))), .second] [(.long (4 : Int64)), (.long (ls + (2 : Int64)))])) _
            refine XS.lloadN X0.here hx rfl (hb hby d5_84) rfl ?_
            show Steps p.tables e below (s₁.setTop (mkF m 85 #[.val (.int v), .val (.long ls), .second, .val (.long ((v.toInt64) - (1 : Int64))), .second] [(.long ((v.toInt64) - (1 : Int64))), (.long (4 : Int64)), (.long (ls + (2 : Int64)))])) _
            refine XS.lmul X0.here hx rfl (hb hby d5_85) rfl ?_
            show Steps p.tables e below (s₁.setTop (mkF m 86 #[.val (.int v), .val (.long ls), .second, .val (.long ((v.toInt64) - (1 : Int64))), .second] [(.long ((4 : Int64) * ((v.toInt64) - (1 : Int64)))), (.long (ls + (2 : Int64)))])) _
            refine XS.ladd X0.here hx rfl (hb hby d5_86) rfl ?_
            show Steps p.tables e below (s₁.setTop (mkF m 87 #[.val (.int v), .val (.long ls), .second, .val (.long ((v.toInt64) - (1 : Int64))), .second] [(.long ((ls + (2 : Int64)) + ((4 : Int64) * ((v.toInt64) - (1 : Int64)))))])) _
            refine X0.ldc2Long hx hown (mvT hZ (hw _ (List.mem_of_getElem? (i := 37) rfl))) (g := (mkF m 87 #[.val (.int v), .val (.long ls), .second, .val (.long ((v.toInt64) - (1 : Int64))), .second] [(.long ((ls + (2 : Int64)) + ((4 : Int64) * ((v.toInt64) - (1 : Int64)))))])) rfl (hb hby d5_87) _ ?_
            show Steps p.tables e below (s₁.setTop (mkF m 90 #[.val (.int v), .val (.long ls), .second, .val (.long ((v.toInt64) - (1 : Int64))), .second] [(.long (4294967295 : Int64)), (.long ((ls + (2 : Int64)) + ((4 : Int64) * ((v.toInt64) - (1 : Int64)))))])) _
            refine XS.lcmp X0.here hx rfl (hb hby d5_90) rfl ?_
            exact kt
          by_cases hc91_115 : (0 : Int32) < (lcmpW ((ls + (2 : Int64)) + ((4 : Int64) * ((v.toInt64) - (1 : Int64)))) (4294967295 : Int64))
          · -- pc 91: (0 : Int32) < (lcmpW ((ls + (2 : Int64)) + ((4 : Int64) * ((v.toInt64) - (1 : Int64)))) (4294967295 : Int64))
            have ff1 := rng32 v
            have ff2 : (2 : Int32).toInt = 2 := by decide
            have d_hc2_107 := hc2_107; rw [Int32.lt_iff_toInt_lt] at d_hc2_107
            have ff3 := c_i2l v
            have ff4 := rng64 (v.toInt64)
            have ff5 : (1 : Int64).toInt = 1 := by decide
            have ff6 : ((v.toInt64) - (1 : Int64)).toInt = (v.toInt64).toInt - 1 := by have c_ : (((v.toInt64) - (1 : Int64)).toInt - ((v.toInt64).toInt - 1)) % 18446744073709551616 = 0 := c_lsub (v.toInt64) (1 : Int64); have r_ := rng64 ((v.toInt64) - (1 : Int64)); omega
            have ff7 : (255 : Int64).toInt = 255 := by decide
            have d_hc19_109 := own_gt_lc hc19_109
            have ff8 : (65535 : Int64).toInt = 65535 := by decide
            have d_hc43_111 := own_le_lc hc43_111
            have ff9 := rng64 ls
            have ff10 : (2 : Int64).toInt = 2 := by decide
            have ff11 : (ls + (2 : Int64)).toInt = ls.toInt + 2 := by have c_ : ((ls + (2 : Int64)).toInt - (ls.toInt + 2)) % 18446744073709551616 = 0 := c_ladd ls (2 : Int64); have r_ := rng64 (ls + (2 : Int64)); omega
            have ff12 : ((2 : Int64) * ((v.toInt64) - (1 : Int64))).toInt = 2 * ((v.toInt64) - (1 : Int64)).toInt := by have c_ : (((2 : Int64) * ((v.toInt64) - (1 : Int64))).toInt - (2 * ((v.toInt64) - (1 : Int64)).toInt)) % 18446744073709551616 = 0 := c_lmul (2 : Int64) ((v.toInt64) - (1 : Int64)); have r_ := rng64 ((2 : Int64) * ((v.toInt64) - (1 : Int64))); omega
            have ff13 : ((ls + (2 : Int64)) + ((2 : Int64) * ((v.toInt64) - (1 : Int64)))).toInt = (ls + (2 : Int64)).toInt + ((2 : Int64) * ((v.toInt64) - (1 : Int64))).toInt := by have c_ : (((ls + (2 : Int64)) + ((2 : Int64) * ((v.toInt64) - (1 : Int64)))).toInt - ((ls + (2 : Int64)).toInt + ((2 : Int64) * ((v.toInt64) - (1 : Int64))).toInt)) % 18446744073709551616 = 0 := c_ladd (ls + (2 : Int64)) ((2 : Int64) * ((v.toInt64) - (1 : Int64))); have r_ := rng64 ((ls + (2 : Int64)) + ((2 : Int64) * ((v.toInt64) - (1 : Int64)))); omega
            have d_hc61_113 := own_gt_lc hc61_113
            have ff14 : (4 : Int64).toInt = 4 := by decide
            have ff15 : ((4 : Int64) * ((v.toInt64) - (1 : Int64))).toInt = 4 * ((v.toInt64) - (1 : Int64)).toInt := by have c_ : (((4 : Int64) * ((v.toInt64) - (1 : Int64))).toInt - (4 * ((v.toInt64) - (1 : Int64)).toInt)) % 18446744073709551616 = 0 := c_lmul (4 : Int64) ((v.toInt64) - (1 : Int64)); have r_ := rng64 ((4 : Int64) * ((v.toInt64) - (1 : Int64))); omega
            have ff16 : ((ls + (2 : Int64)) + ((4 : Int64) * ((v.toInt64) - (1 : Int64)))).toInt = (ls + (2 : Int64)).toInt + ((4 : Int64) * ((v.toInt64) - (1 : Int64))).toInt := by have c_ : (((ls + (2 : Int64)) + ((4 : Int64) * ((v.toInt64) - (1 : Int64)))).toInt - ((ls + (2 : Int64)).toInt + ((4 : Int64) * ((v.toInt64) - (1 : Int64))).toInt)) % 18446744073709551616 = 0 := c_ladd (ls + (2 : Int64)) ((4 : Int64) * ((v.toInt64) - (1 : Int64))); have r_ := rng64 ((ls + (2 : Int64)) + ((4 : Int64) * ((v.toInt64) - (1 : Int64)))); omega
            have ff17 : (4294967295 : Int64).toInt = 4294967295 := by decide
            have d_hc91_115 := own_gt_lc hc91_115
            obtain ⟨fs, hr, hrun, hended, hW, hsame⟩ := X0.leave (v := some .null) (fun h => by rw [Bd.returns] at h; cases h)
            refine ⟨_, _, ck116 _ ?_, hrun, hended, _, _, rfl, ?_, ⟨_, rfl⟩, hW, hsame.mono (by decide) (by decide)⟩
            · show Steps p.tables e below (s₁.setTop (mkF m 91 #[.val (.int v), .val (.long ls), .second, .val (.long ((v.toInt64) - (1 : Int64))), .second] [(.int (lcmpW ((ls + (2 : Int64)) + ((4 : Int64) * ((v.toInt64) - (1 : Int64)))) (4294967295 : Int64)))])) _
              refine XS.ifYes X0.here hx rfl (pc0 := 91) (pc' := 98) rfl (hb hby d5_91) rfl ((if0 _ _).trans (tlt hc91_115).2.2.1) (by decide) (by decide) ?_
              show Steps p.tables e below (s₁.setTop (mkF m 98 #[.val (.int v), .val (.long ls), .second, .val (.long ((v.toInt64) - (1 : Int64))), .second] [])) _
              refine XS.aconstNull X0.here hx rfl (hb hby d5_98) ?_
              show Steps p.tables e below (s₁.setTop (mkF m 99 #[.val (.int v), .val (.long ls), .second, .val (.long ((v.toInt64) - (1 : Int64))), .second] [.null])) _
              exact retOut X0 hx Bd.returns rfl (Or.inr (Or.inr (Or.inr (Or.inr ⟨rfl, rfl, rfl⟩)))) (hb hby d5_99) hr
            · show own_Pure (some (own_spec v.toInt ls.toInt w_NONE w_TINY w_MEDIUM w_LARGE)) h0 n0 _ s₁.heap _
              rw [e0]
              exact ⟨congrArg some (own_spec_0 (by omega) (by omega) (by omega) (by omega)).symm, N0, rfl⟩
          · -- pc 91: not (0 : Int32) < (lcmpW ((ls + (2 : Int64)) + ((4 : Int64) * ((v.toInt64) - (1 : Int64)))) (4294967295 : Int64))
            obtain ⟨T117, X117, e117, st117⟩ := getS2 X0 hx hZ hown (host := "") (Or.inl (hw _ (List.mem_of_getElem? (i := 38) rfl))) Via.refl e0 S_LARGE (g := (mkF m 94 #[.val (.int v), .val (.long ls), .second, .val (.long ((v.toInt64) - (1 : Int64))), .second] [])) rfl (hb hby d5_94)
            have ff1 := rng32 v
            have ff2 : (2 : Int32).toInt = 2 := by decide
            have d_hc2_107 := hc2_107; rw [Int32.lt_iff_toInt_lt] at d_hc2_107
            have ff3 := c_i2l v
            have ff4 := rng64 (v.toInt64)
            have ff5 : (1 : Int64).toInt = 1 := by decide
            have ff6 : ((v.toInt64) - (1 : Int64)).toInt = (v.toInt64).toInt - 1 := by have c_ : (((v.toInt64) - (1 : Int64)).toInt - ((v.toInt64).toInt - 1)) % 18446744073709551616 = 0 := c_lsub (v.toInt64) (1 : Int64); have r_ := rng64 ((v.toInt64) - (1 : Int64)); omega
            have ff7 : (255 : Int64).toInt = 255 := by decide
            have d_hc19_109 := own_gt_lc hc19_109
            have ff8 : (65535 : Int64).toInt = 65535 := by decide
            have d_hc43_111 := own_le_lc hc43_111
            have ff9 := rng64 ls
            have ff10 : (2 : Int64).toInt = 2 := by decide
            have ff11 : (ls + (2 : Int64)).toInt = ls.toInt + 2 := by have c_ : ((ls + (2 : Int64)).toInt - (ls.toInt + 2)) % 18446744073709551616 = 0 := c_ladd ls (2 : Int64); have r_ := rng64 (ls + (2 : Int64)); omega
            have ff12 : ((2 : Int64) * ((v.toInt64) - (1 : Int64))).toInt = 2 * ((v.toInt64) - (1 : Int64)).toInt := by have c_ : (((2 : Int64) * ((v.toInt64) - (1 : Int64))).toInt - (2 * ((v.toInt64) - (1 : Int64)).toInt)) % 18446744073709551616 = 0 := c_lmul (2 : Int64) ((v.toInt64) - (1 : Int64)); have r_ := rng64 ((2 : Int64) * ((v.toInt64) - (1 : Int64))); omega
            have ff13 : ((ls + (2 : Int64)) + ((2 : Int64) * ((v.toInt64) - (1 : Int64)))).toInt = (ls + (2 : Int64)).toInt + ((2 : Int64) * ((v.toInt64) - (1 : Int64))).toInt := by have c_ : (((ls + (2 : Int64)) + ((2 : Int64) * ((v.toInt64) - (1 : Int64)))).toInt - ((ls + (2 : Int64)).toInt + ((2 : Int64) * ((v.toInt64) - (1 : Int64))).toInt)) % 18446744073709551616 = 0 := c_ladd (ls + (2 : Int64)) ((2 : Int64) * ((v.toInt64) - (1 : Int64))); have r_ := rng64 ((ls + (2 : Int64)) + ((2 : Int64) * ((v.toInt64) - (1 : Int64)))); omega
            have d_hc61_113 := own_gt_lc hc61_113
            have ff14 : (4 : Int64).toInt = 4 := by decide
            have ff15 : ((4 : Int64) * ((v.toInt64) - (1 : Int64))).toInt = 4 * ((v.toInt64) - (1 : Int64)).toInt := by have c_ : (((4 : Int64) * ((v.toInt64) - (1 : Int64))).toInt - (4 * ((v.toInt64) - (1 : Int64)).toInt)) % 18446744073709551616 = 0 := c_lmul (4 : Int64) ((v.toInt64) - (1 : Int64)); have r_ := rng64 ((4 : Int64) * ((v.toInt64) - (1 : Int64))); omega
            have ff16 : ((ls + (2 : Int64)) + ((4 : Int64) * ((v.toInt64) - (1 : Int64)))).toInt = (ls + (2 : Int64)).toInt + ((4 : Int64) * ((v.toInt64) - (1 : Int64))).toInt := by have c_ : (((ls + (2 : Int64)) + ((4 : Int64) * ((v.toInt64) - (1 : Int64)))).toInt - ((ls + (2 : Int64)).toInt + ((4 : Int64) * ((v.toInt64) - (1 : Int64))).toInt)) % 18446744073709551616 = 0 := c_ladd (ls + (2 : Int64)) ((4 : Int64) * ((v.toInt64) - (1 : Int64))); have r_ := rng64 ((ls + (2 : Int64)) + ((4 : Int64) * ((v.toInt64) - (1 : Int64)))); omega
            have ff17 : (4294967295 : Int64).toInt = 4294967295 := by decide
            have d_hc91_115 := own_le_lc hc91_115
            obtain ⟨fs, hr, hrun, hended, hW, hsame⟩ := X117.leave (v := some (.ref w_LARGE)) (fun h => by rw [Bd.returns] at h; cases h)
            refine ⟨_, _, ck116 _ ?_, hrun, hended, _, _, rfl, ?_, ⟨_, rfl⟩, hW, hsame.mono (by decide) (by decide)⟩
            · show Steps p.tables e below (s₁.setTop (mkF m 91 #[.val (.int v), .val (.long ls), .second, .val (.long ((v.toInt64) - (1 : Int64))), .second] [(.int (lcmpW ((ls + (2 : Int64)) + ((4 : Int64) * ((v.toInt64) - (1 : Int64)))) (4294967295 : Int64)))])) _
              refine XS.ifNo X0.here hx rfl (hb hby d5_91) rfl ((if0 _ _).trans (flt hc91_115).2.2.1) ?_
              show Steps p.tables e below (s₁.setTop (mkF m 94 #[.val (.int v), .val (.long ls), .second, .val (.long ((v.toInt64) - (1 : Int64))), .second] [])) _
              refine st117 _ ?_
              show Steps p.tables e below (T117.setTop (mkF m 97 #[.val (.int v), .val (.long ls), .second, .val (.long ((v.toInt64) - (1 : Int64))), .second] [(.ref w_LARGE)])) _
              exact retOut X117 hx Bd.returns rfl (Or.inr (Or.inr (Or.inr (Or.inr ⟨rfl, rfl, rfl⟩)))) (hb hby d5_97) hr
            · show own_Pure (some (own_spec v.toInt ls.toInt w_NONE w_TINY w_MEDIUM w_LARGE)) h0 n0 _ T117.heap _
              rw [e117]
              exact ⟨congrArg some (own_spec_L (by omega) (by omega) (by omega) (by omega)).symm, N0, rfl⟩
        · -- pc 61: not (0 : Int32) < (lcmpW ((ls + (2 : Int64)) + ((2 : Int64) * ((v.toInt64) - (1 : Int64)))) (65535 : Int64))
          obtain ⟨T118, X118, e118, st118⟩ := getS2 X0 hx hZ hown (host := "") (Or.inl (hw _ (List.mem_of_getElem? (i := 40) rfl))) Via.refl e0 S_MEDIUM (g := (mkF m 64 #[.val (.int v), .val (.long ls), .second, .val (.long ((v.toInt64) - (1 : Int64))), .second] [])) rfl (hb hby d5_64)
          have ff1 := rng32 v
          have ff2 : (2 : Int32).toInt = 2 := by decide
          have d_hc2_107 := hc2_107; rw [Int32.lt_iff_toInt_lt] at d_hc2_107
          have ff3 := c_i2l v
          have ff4 := rng64 (v.toInt64)
          have ff5 : (1 : Int64).toInt = 1 := by decide
          have ff6 : ((v.toInt64) - (1 : Int64)).toInt = (v.toInt64).toInt - 1 := by have c_ : (((v.toInt64) - (1 : Int64)).toInt - ((v.toInt64).toInt - 1)) % 18446744073709551616 = 0 := c_lsub (v.toInt64) (1 : Int64); have r_ := rng64 ((v.toInt64) - (1 : Int64)); omega
          have ff7 : (255 : Int64).toInt = 255 := by decide
          have d_hc19_109 := own_gt_lc hc19_109
          have ff8 : (65535 : Int64).toInt = 65535 := by decide
          have d_hc43_111 := own_le_lc hc43_111
          have ff9 := rng64 ls
          have ff10 : (2 : Int64).toInt = 2 := by decide
          have ff11 : (ls + (2 : Int64)).toInt = ls.toInt + 2 := by have c_ : ((ls + (2 : Int64)).toInt - (ls.toInt + 2)) % 18446744073709551616 = 0 := c_ladd ls (2 : Int64); have r_ := rng64 (ls + (2 : Int64)); omega
          have ff12 : ((2 : Int64) * ((v.toInt64) - (1 : Int64))).toInt = 2 * ((v.toInt64) - (1 : Int64)).toInt := by have c_ : (((2 : Int64) * ((v.toInt64) - (1 : Int64))).toInt - (2 * ((v.toInt64) - (1 : Int64)).toInt)) % 18446744073709551616 = 0 := c_lmul (2 : Int64) ((v.toInt64) - (1 : Int64)); have r_ := rng64 ((2 : Int64) * ((v.toInt64) - (1 : Int64))); omega
          have ff13 : ((ls + (2 : Int64)) + ((2 : Int64) * ((v.toInt64) - (1 : Int64)))).toInt = (ls + (2 : Int64)).toInt + ((2 : Int64) * ((v.toInt64) - (1 : Int64))).toInt := by have c_ : (((ls + (2 : Int64)) + ((2 : Int64) * ((v.toInt64) - (1 : Int64)))).toInt - ((ls + (2 : Int64)).toInt + ((2 : Int64) * ((v.toInt64) - (1 : Int64))).toInt)) % 18446744073709551616 = 0 := c_ladd (ls + (2 : Int64)) ((2 : Int64) * ((v.toInt64) - (1 : Int64))); have r_ := rng64 ((ls + (2 : Int64)) + ((2 : Int64) * ((v.toInt64) - (1 : Int64)))); omega
          have d_hc61_113 := own_le_lc hc61_113
          obtain ⟨fs, hr, hrun, hended, hW, hsame⟩ := X118.leave (v := some (.ref w_MEDIUM)) (fun h => by rw [Bd.returns] at h; cases h)
          refine ⟨_, _, ck114 _ ?_, hrun, hended, _, _, rfl, ?_, ⟨_, rfl⟩, hW, hsame.mono (by decide) (by decide)⟩
          · show Steps p.tables e below (s₁.setTop (mkF m 61 #[.val (.int v), .val (.long ls), .second, .val (.long ((v.toInt64) - (1 : Int64))), .second] [(.int (lcmpW ((ls + (2 : Int64)) + ((2 : Int64) * ((v.toInt64) - (1 : Int64)))) (65535 : Int64)))])) _
            refine XS.ifNo X0.here hx rfl (hb hby d5_61) rfl ((if0 _ _).trans (flt hc61_113).2.2.1) ?_
            show Steps p.tables e below (s₁.setTop (mkF m 64 #[.val (.int v), .val (.long ls), .second, .val (.long ((v.toInt64) - (1 : Int64))), .second] [])) _
            refine st118 _ ?_
            show Steps p.tables e below (T118.setTop (mkF m 67 #[.val (.int v), .val (.long ls), .second, .val (.long ((v.toInt64) - (1 : Int64))), .second] [(.ref w_MEDIUM)])) _
            exact retOut X118 hx Bd.returns rfl (Or.inr (Or.inr (Or.inr (Or.inr ⟨rfl, rfl, rfl⟩)))) (hb hby d5_67) hr
          · show own_Pure (some (own_spec v.toInt ls.toInt w_NONE w_TINY w_MEDIUM w_LARGE)) h0 n0 _ T118.heap _
            rw [e118]
            exact ⟨congrArg some (own_spec_M (by omega) (by omega) (by omega)).symm, N0, rfl⟩
    · -- pc 19: not (0 : Int32) < (lcmpW ((v.toInt64) - (1 : Int64)) (255 : Int64))
      have ck120 : ∀ t, Steps p.tables e below (s₁.setTop (mkF m 31 #[.val (.int v), .val (.long ls), .second, .val (.long ((v.toInt64) - (1 : Int64))), .second] [(.int (lcmpW ((ls + (1 : Int64)) + ((v.toInt64) - (1 : Int64))) (255 : Int64)))])) t → Steps p.tables e below (s₁.setTop (entryFrame m #[(.int v), (.long ls)] 5)) t := by
        intro t kt
        refine ck110 _ ?_
        show Steps p.tables e below (s₁.setTop (mkF m 19 #[.val (.int v), .val (.long ls), .second, .val (.long ((v.toInt64) - (1 : Int64))), .second] [(.int (lcmpW ((v.toInt64) - (1 : Int64)) (255 : Int64)))])) _
        refine XS.ifNo X0.here hx rfl (hb hby d5_19) rfl ((if0 _ _).trans (flt hc19_109).2.2.1) ?_
        show Steps p.tables e below (s₁.setTop (mkF m 22 #[.val (.int v), .val (.long ls), .second, .val (.long ((v.toInt64) - (1 : Int64))), .second] [])) _
        refine XS.lloadN X0.here hx rfl (hb hby d5_22) rfl ?_
        show Steps p.tables e below (s₁.setTop (mkF m 23 #[.val (.int v), .val (.long ls), .second, .val (.long ((v.toInt64) - (1 : Int64))), .second] [(.long ls)])) _
        refine XS.lconst X0.here hx rfl (hb hby d5_23) ?_
        show Steps p.tables e below (s₁.setTop (mkF m 24 #[.val (.int v), .val (.long ls), .second, .val (.long ((v.toInt64) - (1 : Int64))), .second] [(.long (1 : Int64)), (.long ls)])) _
        refine XS.ladd X0.here hx rfl (hb hby d5_24) rfl ?_
        show Steps p.tables e below (s₁.setTop (mkF m 25 #[.val (.int v), .val (.long ls), .second, .val (.long ((v.toInt64) - (1 : Int64))), .second] [(.long (ls + (1 : Int64)))])) _
        refine XS.lloadN X0.here hx rfl (hb hby d5_25) rfl ?_
        show Steps p.tables e below (s₁.setTop (mkF m 26 #[.val (.int v), .val (.long ls), .second, .val (.long ((v.toInt64) - (1 : Int64))), .second] [(.long ((v.toInt64) - (1 : Int64))), (.long (ls + (1 : Int64)))])) _
        refine XS.ladd X0.here hx rfl (hb hby d5_26) rfl ?_
        show Steps p.tables e below (s₁.setTop (mkF m 27 #[.val (.int v), .val (.long ls), .second, .val (.long ((v.toInt64) - (1 : Int64))), .second] [(.long ((ls + (1 : Int64)) + ((v.toInt64) - (1 : Int64))))])) _
        refine X0.ldc2Long hx hown (mvT hZ (hw _ (List.mem_of_getElem? (i := 29) rfl))) (g := (mkF m 27 #[.val (.int v), .val (.long ls), .second, .val (.long ((v.toInt64) - (1 : Int64))), .second] [(.long ((ls + (1 : Int64)) + ((v.toInt64) - (1 : Int64))))])) rfl (hb hby d5_27) _ ?_
        show Steps p.tables e below (s₁.setTop (mkF m 30 #[.val (.int v), .val (.long ls), .second, .val (.long ((v.toInt64) - (1 : Int64))), .second] [(.long (255 : Int64)), (.long ((ls + (1 : Int64)) + ((v.toInt64) - (1 : Int64))))])) _
        refine XS.lcmp X0.here hx rfl (hb hby d5_30) rfl ?_
        exact kt
      by_cases hc31_119 : (0 : Int32) < (lcmpW ((ls + (1 : Int64)) + ((v.toInt64) - (1 : Int64))) (255 : Int64))
      · -- pc 31: (0 : Int32) < (lcmpW ((ls + (1 : Int64)) + ((v.toInt64) - (1 : Int64))) (255 : Int64))
        have ck122 : ∀ t, Steps p.tables e below (s₁.setTop (mkF m 43 #[.val (.int v), .val (.long ls), .second, .val (.long ((v.toInt64) - (1 : Int64))), .second] [(.int (lcmpW ((v.toInt64) - (1 : Int64)) (65535 : Int64)))])) t → Steps p.tables e below (s₁.setTop (entryFrame m #[(.int v), (.long ls)] 5)) t := by
          intro t kt
          refine ck120 _ ?_
          show Steps p.tables e below (s₁.setTop (mkF m 31 #[.val (.int v), .val (.long ls), .second, .val (.long ((v.toInt64) - (1 : Int64))), .second] [(.int (lcmpW ((ls + (1 : Int64)) + ((v.toInt64) - (1 : Int64))) (255 : Int64)))])) _
          refine XS.ifYes X0.here hx rfl (pc0 := 31) (pc' := 38) rfl (hb hby d5_31) rfl ((if0 _ _).trans (tlt hc31_119).2.2.1) (by decide) (by decide) ?_
          show Steps p.tables e below (s₁.setTop (mkF m 38 #[.val (.int v), .val (.long ls), .second, .val (.long ((v.toInt64) - (1 : Int64))), .second] [])) _
          refine XS.lloadN X0.here hx rfl (hb hby d5_38) rfl ?_
          show Steps p.tables e below (s₁.setTop (mkF m 39 #[.val (.int v), .val (.long ls), .second, .val (.long ((v.toInt64) - (1 : Int64))), .second] [(.long ((v.toInt64) - (1 : Int64)))])) _
          refine X0.ldc2Long hx hown (mvT hZ (hw _ (List.mem_of_getElem? (i := 32) rfl))) (g := (mkF m 39 #[.val (.int v), .val (.long ls), .second, .val (.long ((v.toInt64) - (1 : Int64))), .second] [(.long ((v.toInt64) - (1 : Int64)))])) rfl (hb hby d5_39) _ ?_
          show Steps p.tables e below (s₁.setTop (mkF m 42 #[.val (.int v), .val (.long ls), .second, .val (.long ((v.toInt64) - (1 : Int64))), .second] [(.long (65535 : Int64)), (.long ((v.toInt64) - (1 : Int64)))])) _
          refine XS.lcmp X0.here hx rfl (hb hby d5_42) rfl ?_
          exact kt
        by_cases hc43_121 : (0 : Int32) < (lcmpW ((v.toInt64) - (1 : Int64)) (65535 : Int64))
        · -- pc 43: (0 : Int32) < (lcmpW ((v.toInt64) - (1 : Int64)) (65535 : Int64))
          have ff1 := rng32 v
          have ff2 : (2 : Int32).toInt = 2 := by decide
          have d_hc2_107 := hc2_107; rw [Int32.lt_iff_toInt_lt] at d_hc2_107
          have ff3 := c_i2l v
          have ff4 := rng64 (v.toInt64)
          have ff5 : (1 : Int64).toInt = 1 := by decide
          have ff6 : ((v.toInt64) - (1 : Int64)).toInt = (v.toInt64).toInt - 1 := by have c_ : (((v.toInt64) - (1 : Int64)).toInt - ((v.toInt64).toInt - 1)) % 18446744073709551616 = 0 := c_lsub (v.toInt64) (1 : Int64); have r_ := rng64 ((v.toInt64) - (1 : Int64)); omega
          have ff7 : (255 : Int64).toInt = 255 := by decide
          have d_hc19_109 := own_le_lc hc19_109
          have ff8 := rng64 ls
          have ff9 : (ls + (1 : Int64)).toInt = ls.toInt + 1 := by have c_ : ((ls + (1 : Int64)).toInt - (ls.toInt + 1)) % 18446744073709551616 = 0 := c_ladd ls (1 : Int64); have r_ := rng64 (ls + (1 : Int64)); omega
          have ff10 : ((ls + (1 : Int64)) + ((v.toInt64) - (1 : Int64))).toInt = (ls + (1 : Int64)).toInt + ((v.toInt64) - (1 : Int64)).toInt := by have c_ : (((ls + (1 : Int64)) + ((v.toInt64) - (1 : Int64))).toInt - ((ls + (1 : Int64)).toInt + ((v.toInt64) - (1 : Int64)).toInt)) % 18446744073709551616 = 0 := c_ladd (ls + (1 : Int64)) ((v.toInt64) - (1 : Int64)); have r_ := rng64 ((ls + (1 : Int64)) + ((v.toInt64) - (1 : Int64))); omega
          have d_hc31_119 := own_gt_lc hc31_119
          have ff11 : (65535 : Int64).toInt = 65535 := by decide
          have d_hc43_121 := own_gt_lc hc43_121
          obtain ⟨fs, hr, hrun, hended, hW, hsame⟩ := X0.leave (v := some .null) (fun h => by rw [Bd.returns] at h; cases h)
          refine ⟨_, _, ck122 _ ?_, hrun, hended, _, _, rfl, ?_, ⟨_, rfl⟩, hW, hsame.mono (by decide) (by decide)⟩
          · show Steps p.tables e below (s₁.setTop (mkF m 43 #[.val (.int v), .val (.long ls), .second, .val (.long ((v.toInt64) - (1 : Int64))), .second] [(.int (lcmpW ((v.toInt64) - (1 : Int64)) (65535 : Int64)))])) _
            refine XS.ifYes X0.here hx rfl (pc0 := 43) (pc' := 68) rfl (hb hby d5_43) rfl ((if0 _ _).trans (tlt hc43_121).2.2.1) (by decide) (by decide) ?_
            show Steps p.tables e below (s₁.setTop (mkF m 68 #[.val (.int v), .val (.long ls), .second, .val (.long ((v.toInt64) - (1 : Int64))), .second] [])) _
            refine XS.lloadN X0.here hx rfl (hb hby d5_68) rfl ?_
            show Steps p.tables e below (s₁.setTop (mkF m 69 #[.val (.int v), .val (.long ls), .second, .val (.long ((v.toInt64) - (1 : Int64))), .second] [(.long ((v.toInt64) - (1 : Int64)))])) _
            refine X0.ldc2Long hx hown (mvT hZ (hw _ (List.mem_of_getElem? (i := 32) rfl))) (g := (mkF m 69 #[.val (.int v), .val (.long ls), .second, .val (.long ((v.toInt64) - (1 : Int64))), .second] [(.long ((v.toInt64) - (1 : Int64)))])) rfl (hb hby d5_69) _ ?_
            show Steps p.tables e below (s₁.setTop (mkF m 72 #[.val (.int v), .val (.long ls), .second, .val (.long ((v.toInt64) - (1 : Int64))), .second] [(.long (65535 : Int64)), (.long ((v.toInt64) - (1 : Int64)))])) _
            refine XS.lcmp X0.here hx rfl (hb hby d5_72) rfl ?_
            show Steps p.tables e below (s₁.setTop (mkF m 73 #[.val (.int v), .val (.long ls), .second, .val (.long ((v.toInt64) - (1 : Int64))), .second] [(.int (lcmpW ((v.toInt64) - (1 : Int64)) (65535 : Int64)))])) _
            refine XS.ifYes X0.here hx rfl (pc0 := 73) (pc' := 98) rfl (hb hby d5_73) rfl ((if0 _ _).trans (tlt hc43_121).2.2.1) (by decide) (by decide) ?_
            show Steps p.tables e below (s₁.setTop (mkF m 98 #[.val (.int v), .val (.long ls), .second, .val (.long ((v.toInt64) - (1 : Int64))), .second] [])) _
            refine XS.aconstNull X0.here hx rfl (hb hby d5_98) ?_
            show Steps p.tables e below (s₁.setTop (mkF m 99 #[.val (.int v), .val (.long ls), .second, .val (.long ((v.toInt64) - (1 : Int64))), .second] [.null])) _
            exact retOut X0 hx Bd.returns rfl (Or.inr (Or.inr (Or.inr (Or.inr ⟨rfl, rfl, rfl⟩)))) (hb hby d5_99) hr
          · show own_Pure (some (own_spec v.toInt ls.toInt w_NONE w_TINY w_MEDIUM w_LARGE)) h0 n0 _ s₁.heap _
            rw [e0]
            exact ⟨congrArg some (own_spec_0 (by omega) (by omega) (by omega) (by omega)).symm, N0, rfl⟩
        · -- pc 43: not (0 : Int32) < (lcmpW ((v.toInt64) - (1 : Int64)) (65535 : Int64))
          have ck124 : ∀ t, Steps p.tables e below (s₁.setTop (mkF m 61 #[.val (.int v), .val (.long ls), .second, .val (.long ((v.toInt64) - (1 : Int64))), .second] [(.int (lcmpW ((ls + (2 : Int64)) + ((2 : Int64) * ((v.toInt64) - (1 : Int64)))) (65535 : Int64)))])) t → Steps p.tables e below (s₁.setTop (entryFrame m #[(.int v), (.long ls)] 5)) t := by
            intro t kt
            refine ck122 _ ?_
            show Steps p.tables e below (s₁.setTop (mkF m 43 #[.val (.int v), .val (.long ls), .second, .val (.long ((v.toInt64) - (1 : Int64))), .second] [(.int (lcmpW ((v.toInt64) - (1 : Int64)) (65535 : Int64)))])) _
            refine XS.ifNo X0.here hx rfl (hb hby d5_43) rfl ((if0 _ _).trans (flt hc43_121).2.2.1) ?_
            show Steps p.tables e below (s₁.setTop (mkF m 46 #[.val (.int v), .val (.long ls), .second, .val (.long ((v.toInt64) - (1 : Int64))), .second] [])) _
            refine XS.lloadN X0.here hx rfl (hb hby d5_46) rfl ?_
            show Steps p.tables e below (s₁.setTop (mkF m 47 #[.val (.int v), .val (.long ls), .second, .val (.long ((v.toInt64) - (1 : Int64))), .second] [(.long ls)])) _
            refine X0.ldc2Long hx hown (mvT hZ (hw _ (List.mem_of_getElem? (i := 33) rfl))) (g := (mkF m 47 #[.val (.int v), .val (.long ls), .second, .val (.long ((v.toInt64) - (1 : Int64))), .second] [(.long ls)])) rfl (hb hby d5_47) _ ?_
            show Steps p.tables e below (s₁.setTop (mkF m 50 #[.val (.int v), .val (.long ls), .second, .val (.long ((v.toInt64) - (1 : Int64))), .second] [(.long (2 : Int64)), (.long ls)])) _
            refine XS.ladd X0.here hx rfl (hb hby d5_50) rfl ?_
            show Steps p.tables e below (s₁.setTop (mkF m 51 #[.val (.int v), .val (.long ls), .second, .val (.long ((v.toInt64) - (1 : Int64))), .second] [(.long (ls + (2 : Int64)))])) _
            refine X0.ldc2Long hx hown (mvT hZ (hw _ (List.mem_of_getElem? (i := 33) rfl))) (g := (mkF m 51 #[.val (.int v), .val (.long ls), .second, .val (.long ((v.toInt64) - (1 : Int64))), .second] [(.long (ls + (2 : Int64)))])) rfl (hb hby d5_51) _ ?_
            show Steps p.tables e below (s₁.setTop (mkF m 54 #[.val (.int v), .val (.long ls), .second, .val (.long ((v.toInt64) - (1 : Int64))), .second] [(.long (2 : Int64)), (.long (ls + (2 : Int64)))])) _
            refine XS.lloadN X0.here hx rfl (hb hby d5_54) rfl ?_
            show Steps p.tables e below (s₁.setTop (mkF m 55 #[.val (.int v), .val (.long ls), .second, .val (.long ((v.toInt64) - (1 : Int64))), .second] [(.long ((v.toInt64) - (1 : Int64))), (.long (2 : Int64)), (.long (ls + (2 : Int64)))])) _
            refine XS.lmul X0.here hx rfl (hb hby d5_55) rfl ?_
            show Steps p.tables e below (s₁.setTop (mkF m 56 #[.val (.int v), .val (.long ls), .second, .val (.long ((v.toInt64) - (1 : Int64))), .second] [(.long ((2 : Int64) * ((v.toInt64) - (1 : Int64)))), (.long (ls + (2 : Int64)))])) _
            refine XS.ladd X0.here hx rfl (hb hby d5_56) rfl ?_
            show Steps p.tables e below (s₁.setTop (mkF m 57 #[.val (.int v), .val (.long ls), .second, .val (.long ((v.toInt64) - (1 : Int64))), .second] [(.long ((ls + (2 : Int64)) + ((2 : Int64) * ((v.toInt64) - (1 : Int64)))))])) _
            refine X0.ldc2Long hx hown (mvT hZ (hw _ (List.mem_of_getElem? (i := 32) rfl))) (g := (mkF m 57 #[.val (.int v), .val (.long ls), .second, .val (.long ((v.toInt64) - (1 : Int64))), .second] [(.long ((ls + (2 : Int64)) + ((2 : Int64) * ((v.toInt64) - (1 : Int64)))))])) rfl (hb hby d5_57) _ ?_
            show Steps p.tables e below (s₁.setTop (mkF m 60 #[.val (.int v), .val (.long ls), .second, .val (.long ((v.toInt64) - (1 : Int64))), .second] [(.long (65535 : Int64)), (.long ((ls + (2 : Int64)) + ((2 : Int64) * ((v.toInt64) - (1 : Int64)))))])) _
            refine XS.lcmp X0.here hx rfl (hb hby d5_60) rfl ?_
            exact kt
          by_cases hc61_123 : (0 : Int32) < (lcmpW ((ls + (2 : Int64)) + ((2 : Int64) * ((v.toInt64) - (1 : Int64)))) (65535 : Int64))
          · -- pc 61: (0 : Int32) < (lcmpW ((ls + (2 : Int64)) + ((2 : Int64) * ((v.toInt64) - (1 : Int64)))) (65535 : Int64))
            have ck126 : ∀ t, Steps p.tables e below (s₁.setTop (mkF m 91 #[.val (.int v), .val (.long ls), .second, .val (.long ((v.toInt64) - (1 : Int64))), .second] [(.int (lcmpW ((ls + (2 : Int64)) + ((4 : Int64) * ((v.toInt64) - (1 : Int64)))) (4294967295 : Int64)))])) t → Steps p.tables e below (s₁.setTop (entryFrame m #[(.int v), (.long ls)] 5)) t := by
              intro t kt
              refine ck124 _ ?_
              show Steps p.tables e below (s₁.setTop (mkF m 61 #[.val (.int v), .val (.long ls), .second, .val (.long ((v.toInt64) - (1 : Int64))), .second] [(.int (lcmpW ((ls + (2 : Int64)) + ((2 : Int64) * ((v.toInt64) - (1 : Int64)))) (65535 : Int64)))])) _
              refine XS.ifYes X0.here hx rfl (pc0 := 61) (pc' := 68) rfl (hb hby d5_61) rfl ((if0 _ _).trans (tlt hc61_123).2.2.1) (by decide) (by decide) ?_
              show Steps p.tables e below (s₁.setTop (mkF m 68 #[.val (.int v), .val (.long ls), .second, .val (.long ((v.toInt64) - (1 : Int64))), .second] [])) _
              refine XS.lloadN X0.here hx rfl (hb hby d5_68) rfl ?_
              show Steps p.tables e below (s₁.setTop (mkF m 69 #[.val (.int v), .val (.long ls), .second, .val (.long ((v.toInt64) - (1 : Int64))), .second] [(.long ((v.toInt64) - (1 : Int64)))])) _
              refine X0.ldc2Long hx hown (mvT hZ (hw _ (List.mem_of_getElem? (i := 32) rfl))) (g := (mkF m 69 #[.val (.int v), .val (.long ls), .second, .val (.long ((v.toInt64) - (1 : Int64))), .second] [(.long ((v.toInt64) - (1 : Int64)))])) rfl (hb hby d5_69) _ ?_
              show Steps p.tables e below (s₁.setTop (mkF m 72 #[.val (.int v), .val (.long ls), .second, .val (.long ((v.toInt64) - (1 : Int64))), .second] [(.long (65535 : Int64)), (.long ((v.toInt64) - (1 : Int64)))])) _
              refine XS.lcmp X0.here hx rfl (hb hby d5_72) rfl ?_
              show Steps p.tables e below (s₁.setTop (mkF m 73 #[.val (.int v), .val (.long ls), .second, .val (.long ((v.toInt64) - (1 : Int64))), .second] [(.int (lcmpW ((v.toInt64) - (1 : Int64)) (65535 : Int64)))])) _
              refine XS.ifNo X0.here hx rfl (hb hby d5_73) rfl ((if0 _ _).trans (flt hc43_121).2.2.1) ?_
              show Steps p.tables e below (s₁.setTop (mkF m 76 #[.val (.int v), .val (.long ls), .second, .val (.long ((v.toInt64) - (1 : Int64))), .second] [])) _
              refine XS.lloadN X0.here hx rfl (hb hby d5_76) rfl ?_
              show Steps p.tables e below (s₁.setTop (mkF m 77 #[.val (.int v), .val (.long ls), .second, .val (.long ((v.toInt64) - (1 : Int64))), .second] [(.long ls)])) _
              refine X0.ldc2Long hx hown (mvT hZ (hw _ (List.mem_of_getElem? (i := 33) rfl))) (g := (mkF m 77 #[.val (.int v), .val (.long ls), .second, .val (.long ((v.toInt64) - (1 : Int64))), .second] [(.long ls)])) rfl (hb hby d5_77) _ ?_
              show Steps p.tables e below (s₁.setTop (mkF m 80 #[.val (.int v), .val (.long ls), .second, .val (.long ((v.toInt64) - (1 : Int64))), .second] [(.long (2 : Int64)), (.long ls)])) _
              refine XS.ladd X0.here hx rfl (hb hby d5_80) rfl ?_
              show Steps p.tables e below (s₁.setTop (mkF m 81 #[.val (.int v), .val (.long ls), .second, .val (.long ((v.toInt64) - (1 : Int64))), .second] [(.long (ls + (2 : Int64)))])) _
              refine X0.ldc2Long hx hown (mvT hZ (hw _ (List.mem_of_getElem? (i := 36) rfl))) (g := (mkF m 81 #[.val (.int v), .val (.long ls), .second, .val (.long ((v.toInt64) - (1 : Int64))), .second] [(.long (ls + (2 : Int64)))])) rfl (hb hby d5_81) _ ?_
              show Steps p.tables e below (s₁.setTop (mkF m 84 #[.val (.int v), .val (.long ls), .second, .val (.long ((v.toInt64) - (1 : Int64))), .second] [(.long (4 : Int64)), (.long (ls + (2 : Int64)))])) _
              refine XS.lloadN X0.here hx rfl (hb hby d5_84) rfl ?_
              show Steps p.tables e below (s₁.setTop (mkF m 85 #[.val (.int v), .val (.long ls), .second, .val (.long ((v.toInt64) - (1 : Int64))), .second] [(.long ((v.toInt64) - (1 : Int64))), (.long (4 : Int64)), (.long (ls + (2 : Int64)))])) _
              refine XS.lmul X0.here hx rfl (hb hby d5_85) rfl ?_
              show Steps p.tables e below (s₁.setTop (mkF m 86 #[.val (.int v), .val (.long ls), .second, .val (.long ((v.toInt64) - (1 : Int64))), .second] [(.long ((4 : Int64) * ((v.toInt64) - (1 : Int64)))), (.long (ls + (2 : Int64)))])) _
              refine XS.ladd X0.here hx rfl (hb hby d5_86) rfl ?_
              show Steps p.tables e below (s₁.setTop (mkF m 87 #[.val (.int v), .val (.long ls), .second, .val (.long ((v.toInt64) - (1 : Int64))), .second] [(.long ((ls + (2 : Int64)) + ((4 : Int64) * ((v.toInt64) - (1 : Int64)))))])) _
              refine X0.ldc2Long hx hown (mvT hZ (hw _ (List.mem_of_getElem? (i := 37) rfl))) (g := (mkF m 87 #[.val (.int v), .val (.long ls), .second, .val (.long ((v.toInt64) - (1 : Int64))), .second] [(.long ((ls + (2 : Int64)) + ((4 : Int64) * ((v.toInt64) - (1 : Int64)))))])) rfl (hb hby d5_87) _ ?_
              show Steps p.tables e below (s₁.setTop (mkF m 90 #[.val (.int v), .val (.long ls), .second, .val (.long ((v.toInt64) - (1 : Int64))), .second] [(.long (4294967295 : Int64)), (.long ((ls + (2 : Int64)) + ((4 : Int64) * ((v.toInt64) - (1 : Int64)))))])) _
              refine XS.lcmp X0.here hx rfl (hb hby d5_90) rfl ?_
              exact kt
            by_cases hc91_125 : (0 : Int32) < (lcmpW ((ls + (2 : Int64)) + ((4 : Int64) * ((v.toInt64) - (1 : Int64)))) (4294967295 : Int64))
            · -- pc 91: (0 : Int32) < (lcmpW ((ls + (2 : Int64)) + ((4 : Int64) * ((v.toInt64) - (1 : Int64)))) (4294967295 : Int64))
              have ff1 := rng32 v
              have ff2 : (2 : Int32).toInt = 2 := by decide
              have d_hc2_107 := hc2_107; rw [Int32.lt_iff_toInt_lt] at d_hc2_107
              have ff3 := c_i2l v
              have ff4 := rng64 (v.toInt64)
              have ff5 : (1 : Int64).toInt = 1 := by decide
              have ff6 : ((v.toInt64) - (1 : Int64)).toInt = (v.toInt64).toInt - 1 := by have c_ : (((v.toInt64) - (1 : Int64)).toInt - ((v.toInt64).toInt - 1)) % 18446744073709551616 = 0 := c_lsub (v.toInt64) (1 : Int64); have r_ := rng64 ((v.toInt64) - (1 : Int64)); omega
              have ff7 : (255 : Int64).toInt = 255 := by decide
              have d_hc19_109 := own_le_lc hc19_109
              have ff8 := rng64 ls
              have ff9 : (ls + (1 : Int64)).toInt = ls.toInt + 1 := by have c_ : ((ls + (1 : Int64)).toInt - (ls.toInt + 1)) % 18446744073709551616 = 0 := c_ladd ls (1 : Int64); have r_ := rng64 (ls + (1 : Int64)); omega
              have ff10 : ((ls + (1 : Int64)) + ((v.toInt64) - (1 : Int64))).toInt = (ls + (1 : Int64)).toInt + ((v.toInt64) - (1 : Int64)).toInt := by have c_ : (((ls + (1 : Int64)) + ((v.toInt64) - (1 : Int64))).toInt - ((ls + (1 : Int64)).toInt + ((v.toInt64) - (1 : Int64)).toInt)) % 18446744073709551616 = 0 := c_ladd (ls + (1 : Int64)) ((v.toInt64) - (1 : Int64)); have r_ := rng64 ((ls + (1 : Int64)) + ((v.toInt64) - (1 : Int64))); omega
              have d_hc31_119 := own_gt_lc hc31_119
              have ff11 : (65535 : Int64).toInt = 65535 := by decide
              have d_hc43_121 := own_le_lc hc43_121
              have ff12 : (2 : Int64).toInt = 2 := by decide
              have ff13 : (ls + (2 : Int64)).toInt = ls.toInt + 2 := by have c_ : ((ls + (2 : Int64)).toInt - (ls.toInt + 2)) % 18446744073709551616 = 0 := c_ladd ls (2 : Int64); have r_ := rng64 (ls + (2 : Int64)); omega
              have ff14 : ((2 : Int64) * ((v.toInt64) - (1 : Int64))).toInt = 2 * ((v.toInt64) - (1 : Int64)).toInt := by have c_ : (((2 : Int64) * ((v.toInt64) - (1 : Int64))).toInt - (2 * ((v.toInt64) - (1 : Int64)).toInt)) % 18446744073709551616 = 0 := c_lmul (2 : Int64) ((v.toInt64) - (1 : Int64)); have r_ := rng64 ((2 : Int64) * ((v.toInt64) - (1 : Int64))); omega
              have ff15 : ((ls + (2 : Int64)) + ((2 : Int64) * ((v.toInt64) - (1 : Int64)))).toInt = (ls + (2 : Int64)).toInt + ((2 : Int64) * ((v.toInt64) - (1 : Int64))).toInt := by have c_ : (((ls + (2 : Int64)) + ((2 : Int64) * ((v.toInt64) - (1 : Int64)))).toInt - ((ls + (2 : Int64)).toInt + ((2 : Int64) * ((v.toInt64) - (1 : Int64))).toInt)) % 18446744073709551616 = 0 := c_ladd (ls + (2 : Int64)) ((2 : Int64) * ((v.toInt64) - (1 : Int64))); have r_ := rng64 ((ls + (2 : Int64)) + ((2 : Int64) * ((v.toInt64) - (1 : Int64)))); omega
              have d_hc61_123 := own_gt_lc hc61_123
              have ff16 : (4 : Int64).toInt = 4 := by decide
              have ff17 : ((4 : Int64) * ((v.toInt64) - (1 : Int64))).toInt = 4 * ((v.toInt64) - (1 : Int64)).toInt := by have c_ : (((4 : Int64) * ((v.toInt64) - (1 : Int64))).toInt - (4 * ((v.toInt64) - (1 : Int64)).toInt)) % 18446744073709551616 = 0 := c_lmul (4 : Int64) ((v.toInt64) - (1 : Int64)); have r_ := rng64 ((4 : Int64) * ((v.toInt64) - (1 : Int64))); omega
              have ff18 : ((ls + (2 : Int64)) + ((4 : Int64) * ((v.toInt64) - (1 : Int64)))).toInt = (ls + (2 : Int64)).toInt + ((4 : Int64) * ((v.toInt64) - (1 : Int64))).toInt := by have c_ : (((ls + (2 : Int64)) + ((4 : Int64) * ((v.toInt64) - (1 : Int64)))).toInt - ((ls + (2 : Int64)).toInt + ((4 : Int64) * ((v.toInt64) - (1 : Int64))).toInt)) % 18446744073709551616 = 0 := c_ladd (ls + (2 : Int64)) ((4 : Int64) * ((v.toInt64) - (1 : Int64))); have r_ := rng64 ((ls + (2 : Int64)) + ((4 : Int64) * ((v.toInt64) - (1 : Int64)))); omega
              have ff19 : (4294967295 : Int64).toInt = 4294967295 := by decide
              have d_hc91_125 := own_gt_lc hc91_125
              obtain ⟨fs, hr, hrun, hended, hW, hsame⟩ := X0.leave (v := some .null) (fun h => by rw [Bd.returns] at h; cases h)
              refine ⟨_, _, ck126 _ ?_, hrun, hended, _, _, rfl, ?_, ⟨_, rfl⟩, hW, hsame.mono (by decide) (by decide)⟩
              · show Steps p.tables e below (s₁.setTop (mkF m 91 #[.val (.int v), .val (.long ls), .second, .val (.long ((v.toInt64) - (1 : Int64))), .second] [(.int (lcmpW ((ls + (2 : Int64)) + ((4 : Int64) * ((v.toInt64) - (1 : Int64)))) (4294967295 : Int64)))])) _
                refine XS.ifYes X0.here hx rfl (pc0 := 91) (pc' := 98) rfl (hb hby d5_91) rfl ((if0 _ _).trans (tlt hc91_125).2.2.1) (by decide) (by decide) ?_
                show Steps p.tables e below (s₁.setTop (mkF m 98 #[.val (.int v), .val (.long ls), .second, .val (.long ((v.toInt64) - (1 : Int64))), .second] [])) _
                refine XS.aconstNull X0.here hx rfl (hb hby d5_98) ?_
                show Steps p.tables e below (s₁.setTop (mkF m 99 #[.val (.int v), .val (.long ls), .second, .val (.long ((v.toInt64) - (1 : Int64))), .second] [.null])) _
                exact retOut X0 hx Bd.returns rfl (Or.inr (Or.inr (Or.inr (Or.inr ⟨rfl, rfl, rfl⟩)))) (hb hby d5_99) hr
              · show own_Pure (some (own_spec v.toInt ls.toInt w_NONE w_TINY w_MEDIUM w_LARGE)) h0 n0 _ s₁.heap _
                rw [e0]
                exact ⟨congrArg some (own_spec_0 (by omega) (by omega) (by omega) (by omega)).symm, N0, rfl⟩
            · -- pc 91: not (0 : Int32) < (lcmpW ((ls + (2 : Int64)) + ((4 : Int64) * ((v.toInt64) - (1 : Int64)))) (4294967295 : Int64))
              obtain ⟨T127, X127, e127, st127⟩ := getS2 X0 hx hZ hown (host := "") (Or.inl (hw _ (List.mem_of_getElem? (i := 38) rfl))) Via.refl e0 S_LARGE (g := (mkF m 94 #[.val (.int v), .val (.long ls), .second, .val (.long ((v.toInt64) - (1 : Int64))), .second] [])) rfl (hb hby d5_94)
              have ff1 := rng32 v
              have ff2 : (2 : Int32).toInt = 2 := by decide
              have d_hc2_107 := hc2_107; rw [Int32.lt_iff_toInt_lt] at d_hc2_107
              have ff3 := c_i2l v
              have ff4 := rng64 (v.toInt64)
              have ff5 : (1 : Int64).toInt = 1 := by decide
              have ff6 : ((v.toInt64) - (1 : Int64)).toInt = (v.toInt64).toInt - 1 := by have c_ : (((v.toInt64) - (1 : Int64)).toInt - ((v.toInt64).toInt - 1)) % 18446744073709551616 = 0 := c_lsub (v.toInt64) (1 : Int64); have r_ := rng64 ((v.toInt64) - (1 : Int64)); omega
              have ff7 : (255 : Int64).toInt = 255 := by decide
              have d_hc19_109 := own_le_lc hc19_109
              have ff8 := rng64 ls
              have ff9 : (ls + (1 : Int64)).toInt = ls.toInt + 1 := by have c_ : ((ls + (1 : Int64)).toInt - (ls.toInt + 1)) % 18446744073709551616 = 0 := c_ladd ls (1 : Int64); have r_ := rng64 (ls + (1 : Int64)); omega
              have ff10 : ((ls + (1 : Int64)) + ((v.toInt64) - (1 : Int64))).toInt = (ls + (1 : Int64)).toInt + ((v.toInt64) - (1 : Int64)).toInt := by have c_ : (((ls + (1 : Int64)) + ((v.toInt64) - (1 : Int64))).toInt - ((ls + (1 : Int64)).toInt + ((v.toInt64) - (1 : Int64)).toInt)) % 18446744073709551616 = 0 := c_ladd (ls + (1 : Int64)) ((v.toInt64) - (1 : Int64)); have r_ := rng64 ((ls + (1 : Int64)) + ((v.toInt64) - (1 : Int64))); omega
              have d_hc31_119 := own_gt_lc hc31_119
              have ff11 : (65535 : Int64).toInt = 65535 := by decide
              have d_hc43_121 := own_le_lc hc43_121
              have ff12 : (2 : Int64).toInt = 2 := by decide
              have ff13 : (ls + (2 : Int64)).toInt = ls.toInt + 2 := by have c_ : ((ls + (2 : Int64)).toInt - (ls.toInt + 2)) % 18446744073709551616 = 0 := c_ladd ls (2 : Int64); have r_ := rng64 (ls + (2 : Int64)); omega
              have ff14 : ((2 : Int64) * ((v.toInt64) - (1 : Int64))).toInt = 2 * ((v.toInt64) - (1 : Int64)).toInt := by have c_ : (((2 : Int64) * ((v.toInt64) - (1 : Int64))).toInt - (2 * ((v.toInt64) - (1 : Int64)).toInt)) % 18446744073709551616 = 0 := c_lmul (2 : Int64) ((v.toInt64) - (1 : Int64)); have r_ := rng64 ((2 : Int64) * ((v.toInt64) - (1 : Int64))); omega
              have ff15 : ((ls + (2 : Int64)) + ((2 : Int64) * ((v.toInt64) - (1 : Int64)))).toInt = (ls + (2 : Int64)).toInt + ((2 : Int64) * ((v.toInt64) - (1 : Int64))).toInt := by have c_ : (((ls + (2 : Int64)) + ((2 : Int64) * ((v.toInt64) - (1 : Int64)))).toInt - ((ls + (2 : Int64)).toInt + ((2 : Int64) * ((v.toInt64) - (1 : Int64))).toInt)) % 18446744073709551616 = 0 := c_ladd (ls + (2 : Int64)) ((2 : Int64) * ((v.toInt64) - (1 : Int64))); have r_ := rng64 ((ls + (2 : Int64)) + ((2 : Int64) * ((v.toInt64) - (1 : Int64)))); omega
              have d_hc61_123 := own_gt_lc hc61_123
              have ff16 : (4 : Int64).toInt = 4 := by decide
              have ff17 : ((4 : Int64) * ((v.toInt64) - (1 : Int64))).toInt = 4 * ((v.toInt64) - (1 : Int64)).toInt := by have c_ : (((4 : Int64) * ((v.toInt64) - (1 : Int64))).toInt - (4 * ((v.toInt64) - (1 : Int64)).toInt)) % 18446744073709551616 = 0 := c_lmul (4 : Int64) ((v.toInt64) - (1 : Int64)); have r_ := rng64 ((4 : Int64) * ((v.toInt64) - (1 : Int64))); omega
              have ff18 : ((ls + (2 : Int64)) + ((4 : Int64) * ((v.toInt64) - (1 : Int64)))).toInt = (ls + (2 : Int64)).toInt + ((4 : Int64) * ((v.toInt64) - (1 : Int64))).toInt := by have c_ : (((ls + (2 : Int64)) + ((4 : Int64) * ((v.toInt64) - (1 : Int64)))).toInt - ((ls + (2 : Int64)).toInt + ((4 : Int64) * ((v.toInt64) - (1 : Int64))).toInt)) % 18446744073709551616 = 0 := c_ladd (ls + (2 : Int64)) ((4 : Int64) * ((v.toInt64) - (1 : Int64))); have r_ := rng64 ((ls + (2 : Int64)) + ((4 : Int64) * ((v.toInt64) - (1 : Int64)))); omega
              have ff19 : (4294967295 : Int64).toInt = 4294967295 := by decide
              have d_hc91_125 := own_le_lc hc91_125
              obtain ⟨fs, hr, hrun, hended, hW, hsame⟩ := X127.leave (v := some (.ref w_LARGE)) (fun h => by rw [Bd.returns] at h; cases h)
              refine ⟨_, _, ck126 _ ?_, hrun, hended, _, _, rfl, ?_, ⟨_, rfl⟩, hW, hsame.mono (by decide) (by decide)⟩
              · show Steps p.tables e below (s₁.setTop (mkF m 91 #[.val (.int v), .val (.long ls), .second, .val (.long ((v.toInt64) - (1 : Int64))), .second] [(.int (lcmpW ((ls + (2 : Int64)) + ((4 : Int64) * ((v.toInt64) - (1 : Int64)))) (4294967295 : Int64)))])) _
                refine XS.ifNo X0.here hx rfl (hb hby d5_91) rfl ((if0 _ _).trans (flt hc91_125).2.2.1) ?_
                show Steps p.tables e below (s₁.setTop (mkF m 94 #[.val (.int v), .val (.long ls), .second, .val (.long ((v.toInt64) - (1 : Int64))), .second] [])) _
                refine st127 _ ?_
                show Steps p.tables e below (T127.setTop (mkF m 97 #[.val (.int v), .val (.long ls), .second, .val (.long ((v.toInt64) - (1 : Int64))), .second] [(.ref w_LARGE)])) _
                exact retOut X127 hx Bd.returns rfl (Or.inr (Or.inr (Or.inr (Or.inr ⟨rfl, rfl, rfl⟩)))) (hb hby d5_97) hr
              · show own_Pure (some (own_spec v.toInt ls.toInt w_NONE w_TINY w_MEDIUM w_LARGE)) h0 n0 _ T127.heap _
                rw [e127]
                exact ⟨congrArg some (own_spec_L (by omega) (by omega) (by omega) (by omega)).symm, N0, rfl⟩
          · -- pc 61: not (0 : Int32) < (lcmpW ((ls + (2 : Int64)) + ((2 : Int64) * ((v.toInt64) - (1 : Int64)))) (65535 : Int64))
            obtain ⟨T128, X128, e128, st128⟩ := getS2 X0 hx hZ hown (host := "") (Or.inl (hw _ (List.mem_of_getElem? (i := 40) rfl))) Via.refl e0 S_MEDIUM (g := (mkF m 64 #[.val (.int v), .val (.long ls), .second, .val (.long ((v.toInt64) - (1 : Int64))), .second] [])) rfl (hb hby d5_64)
            have ff1 := rng32 v
            have ff2 : (2 : Int32).toInt = 2 := by decide
            have d_hc2_107 := hc2_107; rw [Int32.lt_iff_toInt_lt] at d_hc2_107
            have ff3 := c_i2l v
            have ff4 := rng64 (v.toInt64)
            have ff5 : (1 : Int64).toInt = 1 := by decide
            have ff6 : ((v.toInt64) - (1 : Int64)).toInt = (v.toInt64).toInt - 1 := by have c_ : (((v.toInt64) - (1 : Int64)).toInt - ((v.toInt64).toInt - 1)) % 18446744073709551616 = 0 := c_lsub (v.toInt64) (1 : Int64); have r_ := rng64 ((v.toInt64) - (1 : Int64)); omega
            have ff7 : (255 : Int64).toInt = 255 := by decide
            have d_hc19_109 := own_le_lc hc19_109
            have ff8 := rng64 ls
            have ff9 : (ls + (1 : Int64)).toInt = ls.toInt + 1 := by have c_ : ((ls + (1 : Int64)).toInt - (ls.toInt + 1)) % 18446744073709551616 = 0 := c_ladd ls (1 : Int64); have r_ := rng64 (ls + (1 : Int64)); omega
            have ff10 : ((ls + (1 : Int64)) + ((v.toInt64) - (1 : Int64))).toInt = (ls + (1 : Int64)).toInt + ((v.toInt64) - (1 : Int64)).toInt := by have c_ : (((ls + (1 : Int64)) + ((v.toInt64) - (1 : Int64))).toInt - ((ls + (1 : Int64)).toInt + ((v.toInt64) - (1 : Int64)).toInt)) % 18446744073709551616 = 0 := c_ladd (ls + (1 : Int64)) ((v.toInt64) - (1 : Int64)); have r_ := rng64 ((ls + (1 : Int64)) + ((v.toInt64) - (1 : Int64))); omega
            have d_hc31_119 := own_gt_lc hc31_119
            have ff11 : (65535 : Int64).toInt = 65535 := by decide
            have d_hc43_121 := own_le_lc hc43_121
            have ff12 : (2 : Int64).toInt = 2 := by decide
            have ff13 : (ls + (2 : Int64)).toInt = ls.toInt + 2 := by have c_ : ((ls + (2 : Int64)).toInt - (ls.toInt + 2)) % 18446744073709551616 = 0 := c_ladd ls (2 : Int64); have r_ := rng64 (ls + (2 : Int64)); omega
            have ff14 : ((2 : Int64) * ((v.toInt64) - (1 : Int64))).toInt = 2 * ((v.toInt64) - (1 : Int64)).toInt := by have c_ : (((2 : Int64) * ((v.toInt64) - (1 : Int64))).toInt - (2 * ((v.toInt64) - (1 : Int64)).toInt)) % 18446744073709551616 = 0 := c_lmul (2 : Int64) ((v.toInt64) - (1 : Int64)); have r_ := rng64 ((2 : Int64) * ((v.toInt64) - (1 : Int64))); omega
            have ff15 : ((ls + (2 : Int64)) + ((2 : Int64) * ((v.toInt64) - (1 : Int64)))).toInt = (ls + (2 : Int64)).toInt + ((2 : Int64) * ((v.toInt64) - (1 : Int64))).toInt := by have c_ : (((ls + (2 : Int64)) + ((2 : Int64) * ((v.toInt64) - (1 : Int64)))).toInt - ((ls + (2 : Int64)).toInt + ((2 : Int64) * ((v.toInt64) - (1 : Int64))).toInt)) % 18446744073709551616 = 0 := c_ladd (ls + (2 : Int64)) ((2 : Int64) * ((v.toInt64) - (1 : Int64))); have r_ := rng64 ((ls + (2 : Int64)) + ((2 : Int64) * ((v.toInt64) - (1 : Int64)))); omega
            have d_hc61_123 := own_le_lc hc61_123
            obtain ⟨fs, hr, hrun, hended, hW, hsame⟩ := X128.leave (v := some (.ref w_MEDIUM)) (fun h => by rw [Bd.returns] at h; cases h)
            refine ⟨_, _, ck124 _ ?_, hrun, hended, _, _, rfl, ?_, ⟨_, rfl⟩, hW, hsame.mono (by decide) (by decide)⟩
            · show Steps p.tables e below (s₁.setTop (mkF m 61 #[.val (.int v), .val (.long ls), .second, .val (.long ((v.toInt64) - (1 : Int64))), .second] [(.int (lcmpW ((ls + (2 : Int64)) + ((2 : Int64) * ((v.toInt64) - (1 : Int64)))) (65535 : Int64)))])) _
              refine XS.ifNo X0.here hx rfl (hb hby d5_61) rfl ((if0 _ _).trans (flt hc61_123).2.2.1) ?_
              show Steps p.tables e below (s₁.setTop (mkF m 64 #[.val (.int v), .val (.long ls), .second, .val (.long ((v.toInt64) - (1 : Int64))), .second] [])) _
              refine st128 _ ?_
              show Steps p.tables e below (T128.setTop (mkF m 67 #[.val (.int v), .val (.long ls), .second, .val (.long ((v.toInt64) - (1 : Int64))), .second] [(.ref w_MEDIUM)])) _
              exact retOut X128 hx Bd.returns rfl (Or.inr (Or.inr (Or.inr (Or.inr ⟨rfl, rfl, rfl⟩)))) (hb hby d5_67) hr
            · show own_Pure (some (own_spec v.toInt ls.toInt w_NONE w_TINY w_MEDIUM w_LARGE)) h0 n0 _ T128.heap _
              rw [e128]
              exact ⟨congrArg some (own_spec_M (by omega) (by omega) (by omega)).symm, N0, rfl⟩
      · -- pc 31: not (0 : Int32) < (lcmpW ((ls + (1 : Int64)) + ((v.toInt64) - (1 : Int64))) (255 : Int64))
        obtain ⟨T129, X129, e129, st129⟩ := getS2 X0 hx hZ hown (host := "") (Or.inl (hw _ (List.mem_of_getElem? (i := 30) rfl))) Via.refl e0 S_TINY (g := (mkF m 34 #[.val (.int v), .val (.long ls), .second, .val (.long ((v.toInt64) - (1 : Int64))), .second] [])) rfl (hb hby d5_34)
        have ff1 := rng32 v
        have ff2 : (2 : Int32).toInt = 2 := by decide
        have d_hc2_107 := hc2_107; rw [Int32.lt_iff_toInt_lt] at d_hc2_107
        have ff3 := c_i2l v
        have ff4 := rng64 (v.toInt64)
        have ff5 : (1 : Int64).toInt = 1 := by decide
        have ff6 : ((v.toInt64) - (1 : Int64)).toInt = (v.toInt64).toInt - 1 := by have c_ : (((v.toInt64) - (1 : Int64)).toInt - ((v.toInt64).toInt - 1)) % 18446744073709551616 = 0 := c_lsub (v.toInt64) (1 : Int64); have r_ := rng64 ((v.toInt64) - (1 : Int64)); omega
        have ff7 : (255 : Int64).toInt = 255 := by decide
        have d_hc19_109 := own_le_lc hc19_109
        have ff8 := rng64 ls
        have ff9 : (ls + (1 : Int64)).toInt = ls.toInt + 1 := by have c_ : ((ls + (1 : Int64)).toInt - (ls.toInt + 1)) % 18446744073709551616 = 0 := c_ladd ls (1 : Int64); have r_ := rng64 (ls + (1 : Int64)); omega
        have ff10 : ((ls + (1 : Int64)) + ((v.toInt64) - (1 : Int64))).toInt = (ls + (1 : Int64)).toInt + ((v.toInt64) - (1 : Int64)).toInt := by have c_ : (((ls + (1 : Int64)) + ((v.toInt64) - (1 : Int64))).toInt - ((ls + (1 : Int64)).toInt + ((v.toInt64) - (1 : Int64)).toInt)) % 18446744073709551616 = 0 := c_ladd (ls + (1 : Int64)) ((v.toInt64) - (1 : Int64)); have r_ := rng64 ((ls + (1 : Int64)) + ((v.toInt64) - (1 : Int64))); omega
        have d_hc31_119 := own_le_lc hc31_119
        obtain ⟨fs, hr, hrun, hended, hW, hsame⟩ := X129.leave (v := some (.ref w_TINY)) (fun h => by rw [Bd.returns] at h; cases h)
        refine ⟨_, _, ck120 _ ?_, hrun, hended, _, _, rfl, ?_, ⟨_, rfl⟩, hW, hsame.mono (by decide) (by decide)⟩
        · show Steps p.tables e below (s₁.setTop (mkF m 31 #[.val (.int v), .val (.long ls), .second, .val (.long ((v.toInt64) - (1 : Int64))), .second] [(.int (lcmpW ((ls + (1 : Int64)) + ((v.toInt64) - (1 : Int64))) (255 : Int64)))])) _
          refine XS.ifNo X0.here hx rfl (hb hby d5_31) rfl ((if0 _ _).trans (flt hc31_119).2.2.1) ?_
          show Steps p.tables e below (s₁.setTop (mkF m 34 #[.val (.int v), .val (.long ls), .second, .val (.long ((v.toInt64) - (1 : Int64))), .second] [])) _
          refine st129 _ ?_
          show Steps p.tables e below (T129.setTop (mkF m 37 #[.val (.int v), .val (.long ls), .second, .val (.long ((v.toInt64) - (1 : Int64))), .second] [(.ref w_TINY)])) _
          exact retOut X129 hx Bd.returns rfl (Or.inr (Or.inr (Or.inr (Or.inr ⟨rfl, rfl, rfl⟩)))) (hb hby d5_37) hr
        · show own_Pure (some (own_spec v.toInt ls.toInt w_NONE w_TINY w_MEDIUM w_LARGE)) h0 n0 _ T129.heap _
          rw [e129]
          exact ⟨congrArg some (own_spec_T (by omega) (by omega)).symm, N0, rfl⟩
theorem pd_136 : parseMethodDescriptor "(JJ)J" = some ⟨[.long, .long], some .long⟩ := by decide +kernel
theorem pd_137 : parseMethodDescriptor "(IJ)Lcom/example/rowstrata/rowstrata/row/VarTable;" = some ⟨[.int, .long], some (.object "com/example/rowstrata/rowstrata/row/VarTable")⟩ := by decide +kernel
theorem ef_rm_law (m : MethodId) (x0 : Int32) (x1 : Int32) (x2 : Int64) (x3 : Int32) : entryFrame m #[(.int x0), (.int x1), (.long x2), (.int x3)] maxLocals = mkF m 0 #[.val (.int x0), .val (.int x1), .val (.long x2), .second, .val (.int x3), .unset, .unset, .unset, .unset, .unset, .unset, .unset, .unset, .unset, .unset, .unset] [] := by first | (simp [entryFrame, mkF, argsToLocals, Value.category, maxLocals]; done) | rfl
set_option maxRecDepth 65536 in
set_option maxHeartbeats 40000000 in
theorem rm_law (l : Launch) (Z : State) (a0 : Array Value) (hw : ∀ d ∈ tables_1, d.before a0 Z = true) (ws : List Jvm.Cond) (p0 : Int32) (p1 : Int32) (p2 : Int64) (p3 : Int32) (h0 : Heap) (n0 : Nat) (Z0 : n0 ≤ h0.size) (w_TINY w_NONE w_MEDIUM w_LARGE : Addr) (hWd : own_W Z h0 w_TINY w_NONE w_MEDIUM w_LARGE) (w_WT : Addr) (kWT : ClassId) (S_WT : Sta Z h0 "com/example/rowstrata/rowstrata/row/VarTable" "WITH_TABLE" "[Lcom/example/rowstrata/rowstrata/row/VarTable;" (.ref w_WT)) (A_WT : Arv Z h0 w_WT kWT (.object "com/example/rowstrata/rowstrata/row/VarTable") (3 : Int32) [(.ref w_TINY), (.ref w_MEDIUM), (.ref w_LARGE)] .null) :
    MetFree l x (head1 (Jvm.Cond.code x code maxLocals ret :: ws) room_1) (fun aQ UQ => aQ = #[(.int p0), (.int p1), (.long p2), (.int p3)] ∧ Z.Warmed39 UQ.vm ∧ UQ.heap = h0) (fun _ _ _ _ _ => True) (fun _ UQ oQ UR => ∃ vQ LQ, oQ = .returned vQ ∧ own_Pure (some (.int 1)) h0 n0 vQ UR.heap LQ ∧ FrameEnd UQ oQ UR LQ room_1.cells room_1.slots) := by
  refine MetFree.of_bodySF (plainFor_of_name pn_135) hisR ?_
  intro p e s m args below meth c s₁ Bd hml0 hP hK
  obtain ⟨rfl, hZ, hh⟩ := hP
  have hx := Bd.exec
  have hby := Bd.bytes
  have hml : c.maxLocals = 16 := hml0
  have hown : s.vm.findClass "com/example/rowstrata/rowstrata/row/VarTableSmallestPinLaw" = some m.cls := findClass_of_methodNamed Bd.named
  have hnm := (name_of_methodNamed Bd.named Bd.method).1
  have X0 : Stand p l e room_1 s m #[(.int p0), (.int p1), (.long p2), (.int p3)] below meth c s₁ [] 0 0 := Stand.of_body Bd
  have e0 : s₁.heap = h0 := by rw [← hh, Bd.state]; rfl
  have N0 := Fr.nil n0
  have pre0 : ∀ t, Steps p.tables e below (s₁.setTop (mkF m 0 #[.val (.int p0), .val (.int p1), .val (.long p2), .second, .val (.int p3), .unset, .unset, .unset, .unset, .unset, .unset, .unset, .unset, .unset, .unset, .unset] [])) t → Steps p.tables e below (s₁.setTop (entryFrame m #[(.int p0), (.int p1), (.long p2), (.int p3)] maxLocals)) t := fun t kq => castTop (ef_rm_law m p0 p1 p2 p3) kq
  obtain ⟨vm, h_vm⟩ : ∃ z : Int32, (p0 &&& (3 : Int32)) = z := ⟨_, rfl⟩
  have ck131 : ∀ t, Steps p.tables e below (s₁.setTop (mkF m 7 #[.val (.int p0), .val (.int p1), .val (.long p2), .second, .val (.int p3), .val (.int vm), .unset, .unset, .unset, .unset, .unset, .unset, .unset, .unset, .unset, .unset] [(.int vm)])) t → Steps p.tables e below (s₁.setTop (entryFrame m #[(.int p0), (.int p1), (.long p2), (.int p3)] maxLocals)) t := by
    intro t kt
    refine pre0 _ ?_
    show Steps p.tables e below (s₁.setTop (mkF m 0 #[.val (.int p0), .val (.int p1), .val (.long p2), .second, .val (.int p3), .unset, .unset, .unset, .unset, .unset, .unset, .unset, .unset, .unset, .unset, .unset] [])) _
    refine XS.iloadN X0.here hx rfl (hb hby at_0) rfl ?_
    show Steps p.tables e below (s₁.setTop (mkF m 1 #[.val (.int p0), .val (.int p1), .val (.long p2), .second, .val (.int p3), .unset, .unset, .unset, .unset, .unset, .unset, .unset, .unset, .unset, .unset, .unset] [(.int p0)])) _
    refine XS.iconst X0.here hx rfl (hb hby at_1) ?_
    show Steps p.tables e below (s₁.setTop (mkF m 2 #[.val (.int p0), .val (.int p1), .val (.long p2), .second, .val (.int p3), .unset, .unset, .unset, .unset, .unset, .unset, .unset, .unset, .unset, .unset, .unset] [(.int (3 : Int32)), (.int p0)])) _
    refine XS.iand X0.here hx rfl (hb hby at_2) rfl ?_
    show Steps p.tables e below (s₁.setTop (mkF m 3 #[.val (.int p0), .val (.int p1), .val (.long p2), .second, .val (.int p3), .unset, .unset, .unset, .unset, .unset, .unset, .unset, .unset, .unset, .unset, .unset] [(.int (p0 &&& (3 : Int32)))])) _
    rw [h_vm]
    show Steps p.tables e below (s₁.setTop (mkF m 3 #[.val (.int p0), .val (.int p1), .val (.long p2), .second, .val (.int p3), .unset, .unset, .unset, .unset, .unset, .unset, .unset, .unset, .unset, .unset, .unset] [(.int vm)])) _
    refine XS.istore X0.here hx rfl (hb hby at_3) rfl (l' := #[.val (.int p0), .val (.int p1), .val (.long p2), .second, .val (.int p3), .val (.int vm), .unset, .unset, .unset, .unset, .unset, .unset, .unset, .unset, .unset, .unset]) rfl ?_
    show Steps p.tables e below (s₁.setTop (mkF m 5 #[.val (.int p0), .val (.int p1), .val (.long p2), .second, .val (.int p3), .val (.int vm), .unset, .unset, .unset, .unset, .unset, .unset, .unset, .unset, .unset, .unset] [])) _
    refine XS.iload X0.here hx rfl (hb hby at_5) rfl ?_
    exact kt
  by_cases hc7_130 : vm = (0 : Int32)
  · -- pc 7: vm = (0 : Int32)
    obtain ⟨v1, h_v1⟩ : ∃ z : Int64, ((p1.toInt64) - (1 : Int64)) = z := ⟨_, rfl⟩
    have hv1 : -2147483649 ≤ v1.toInt ∧ v1.toInt ≤ 2147483646 := by rw [← h_v1]; exact own_v1 p1
    obtain ⟨_, _, ⟨T132, L132, k132, n132⟩, -, X132, ⟨Lc132, hQ132, l132, y132, z132⟩, st132⟩ := Jvm.LawKit.callS X0 hx (y := (⟨"java/lang/Math", "max", "(JJ)J"⟩ : MethodName)) hown (mvT hZ (hw _ (List.mem_of_getElem? (i := 0) rfl))) (mvT hZ (hw _ (List.mem_of_getElem? (i := 1) rfl))) (mvT hZ (hw _ (List.mem_of_getElem? (i := 2) rfl))) (mvT hZ (hw _ (List.mem_of_getElem? (i := 3) rfl))) (by decide) (backOf (W := 0) (rm_max l Z a0 hw [] (0 : Int64) v1 h0 n0 Z0 (if (lcmpW (0 : Int64) v1) < (0 : Int32) then v1 else (0 : Int64)) rfl) hZ (hw _ (List.mem_of_getElem? (i := 3) rfl)) (hw _ (List.mem_of_getElem? (i := 2) rfl)) (by decide) (by decide)) (g := (mkF m 40 #[.val (.int p0), .val (.int p1), .val (.long p2), .second, .val (.int p3), .val (.int vm), .val (.int p1), .unset, .unset, .unset, .unset, .unset, .unset, .unset, .unset, .unset] [(.long v1), (.long (0 : Int64))])) rfl (by rw [hml]; rfl) (argsL := [(.long (0 : Int64)), (.long v1)]) (rest := []) (lenOf pd_136 rfl) rfl (by show 2 * 0 + _ ≤ _; exact Nat.le_of_eq rfl) (hb hby at_40) (fun _ _ => ⟨rfl, e0, (by decide : 0 + 0 ≤ _), (by decide : 0 + 0 ≤ _)⟩)
    dsimp only [Pt.U, Pt.locs, Pt.cells, Pt.slots] at X132 l132 y132 z132 st132 hQ132
    subst l132 y132 z132
    obtain ⟨rfl, N132q, e132⟩ := hQ132
    have N132 := Fr.app N0 N132q
    obtain ⟨nv, h_nv⟩ : ∃ z : Int64, (if (lcmpW (0 : Int64) v1) < (0 : Int32) then v1 else (0 : Int64)) = z := ⟨_, rfl⟩
    have hnv : 0 ≤ nv.toInt ∧ nv.toInt ≤ 2147483646 := by rw [← h_nv]; exact own_mx hv1.2
    obtain ⟨lm, h_lm⟩ : ∃ z : Int32, (((p0.toUInt32 >>> ((2 : Int32) &&& 31).toUInt32).toInt32) &&& (3 : Int32)) = z := ⟨_, rfl⟩
    have ck134 : ∀ t, Steps p.tables e below (T132.setTop (mkF m 54 #[.val (.int p0), .val (.int p1), .val (.long p2), .second, .val (.int p3), .val (.int vm), .val (.int p1), .val (.long nv), .second, .val (.int lm), .unset, .unset, .unset, .unset, .unset, .unset] [(.int lm)])) t → Steps p.tables e below (s₁.setTop (entryFrame m #[(.int p0), (.int p1), (.long p2), (.int p3)] maxLocals)) t := by
      intro t kt
      refine ck131 _ ?_
      show Steps p.tables e below (s₁.setTop (mkF m 7 #[.val (.int p0), .val (.int p1), .val (.long p2), .second, .val (.int p3), .val (.int vm), .unset, .unset, .unset, .unset, .unset, .unset, .unset, .unset, .unset, .unset] [(.int vm)])) _
      refine XS.ifNo X0.here hx rfl (hb hby at_7) rfl ((if0 _ _).trans (teq hc7_130).2) ?_
      show Steps p.tables e below (s₁.setTop (mkF m 10 #[.val (.int p0), .val (.int p1), .val (.long p2), .second, .val (.int p3), .val (.int vm), .unset, .unset, .unset, .unset, .unset, .unset, .unset, .unset, .unset, .unset] [])) _
      refine XS.iloadN X0.here hx rfl (hb hby at_10) rfl ?_
      show Steps p.tables e below (s₁.setTop (mkF m 11 #[.val (.int p0), .val (.int p1), .val (.long p2), .second, .val (.int p3), .val (.int vm), .unset, .unset, .unset, .unset, .unset, .unset, .unset, .unset, .unset, .unset] [(.int p1)])) _
      refine XS.goto X0.here hx rfl (pc0 := 11) (pc' := 32) rfl (hb hby at_11) (by decide) (by decide) ?_
      show Steps p.tables e below (s₁.setTop (mkF m 32 #[.val (.int p0), .val (.int p1), .val (.long p2), .second, .val (.int p3), .val (.int vm), .unset, .unset, .unset, .unset, .unset, .unset, .unset, .unset, .unset, .unset] [(.int p1)])) _
      refine XS.istore X0.here hx rfl (hb hby at_32) rfl (l' := #[.val (.int p0), .val (.int p1), .val (.long p2), .second, .val (.int p3), .val (.int vm), .val (.int p1), .unset, .unset, .unset, .unset, .unset, .unset, .unset, .unset, .unset]) rfl ?_
      show Steps p.tables e below (s₁.setTop (mkF m 34 #[.val (.int p0), .val (.int p1), .val (.long p2), .second, .val (.int p3), .val (.int vm), .val (.int p1), .unset, .unset, .unset, .unset, .unset, .unset, .unset, .unset, .unset] [])) _
      refine XS.lconst X0.here hx rfl (hb hby at_34) ?_
      show Steps p.tables e below (s₁.setTop (mkF m 35 #[.val (.int p0), .val (.int p1), .val (.long p2), .second, .val (.int p3), .val (.int vm), .val (.int p1), .unset, .unset, .unset, .unset, .unset, .unset, .unset, .unset, .unset] [(.long (0 : Int64))])) _
      refine XS.iload X0.here hx rfl (hb hby at_35) rfl ?_
      show Steps p.tables e below (s₁.setTop (mkF m 37 #[.val (.int p0), .val (.int p1), .val (.long p2), .second, .val (.int p3), .val (.int vm), .val (.int p1), .unset, .unset, .unset, .unset, .unset, .unset, .unset, .unset, .unset] [(.int p1), (.long (0 : Int64))])) _
      refine XS.i2l X0.here hx rfl (hb hby at_37) rfl ?_
      show Steps p.tables e below (s₁.setTop (mkF m 38 #[.val (.int p0), .val (.int p1), .val (.long p2), .second, .val (.int p3), .val (.int vm), .val (.int p1), .unset, .unset, .unset, .unset, .unset, .unset, .unset, .unset, .unset] [(.long (p1.toInt64)), (.long (0 : Int64))])) _
      refine XS.lconst X0.here hx rfl (hb hby at_38) ?_
      show Steps p.tables e below (s₁.setTop (mkF m 39 #[.val (.int p0), .val (.int p1), .val (.long p2), .second, .val (.int p3), .val (.int vm), .val (.int p1), .unset, .unset, .unset, .unset, .unset, .unset, .unset, .unset, .unset] [(.long (1 : Int64)), (.long (p1.toInt64)), (.long (0 : Int64))])) _
      refine XS.lsub X0.here hx rfl (hb hby at_39) rfl ?_
      show Steps p.tables e below (s₁.setTop (mkF m 40 #[.val (.int p0), .val (.int p1), .val (.long p2), .second, .val (.int p3), .val (.int vm), .val (.int p1), .unset, .unset, .unset, .unset, .unset, .unset, .unset, .unset, .unset] [(.long ((p1.toInt64) - (1 : Int64))), (.long (0 : Int64))])) _
      rw [h_v1]
      show Steps p.tables e below (s₁.setTop (mkF m 40 #[.val (.int p0), .val (.int p1), .val (.long p2), .second, .val (.int p3), .val (.int vm), .val (.int p1), .unset, .unset, .unset, .unset, .unset, .unset, .unset, .unset, .unset] [(.long v1), (.long (0 : Int64))])) _
      refine st132 _ ?_
      show Steps p.tables e below (T132.setTop (mkF m 43 #[.val (.int p0), .val (.int p1), .val (.long p2), .second, .val (.int p3), .val (.int vm), .val (.int p1), .unset, .unset, .unset, .unset, .unset, .unset, .unset, .unset, .unset] [(.long (if (lcmpW (0 : Int64) v1) < (0 : Int32) then v1 else (0 : Int64)))])) _
      rw [h_nv]
      show Steps p.tables e below (T132.setTop (mkF m 43 #[.val (.int p0), .val (.int p1), .val (.long p2), .second, .val (.int p3), .val (.int vm), .val (.int p1), .unset, .unset, .unset, .unset, .unset, .unset, .unset, .unset, .unset] [(.long nv)])) _
      refine XS.lstore X132.here hx rfl (hb hby at_43) rfl (l' := #[.val (.int p0), .val (.int p1), .val (.long p2), .second, .val (.int p3), .val (.int vm), .val (.int p1), .val (.long nv), .second, .unset, .unset, .unset, .unset, .unset, .unset, .unset]) rfl ?_
      show Steps p.tables e below (T132.setTop (mkF m 45 #[.val (.int p0), .val (.int p1), .val (.long p2), .second, .val (.int p3), .val (.int vm), .val (.int p1), .val (.long nv), .second, .unset, .unset, .unset, .unset, .unset, .unset, .unset] [])) _
      refine XS.iloadN X132.here hx rfl (hb hby at_45) rfl ?_
      show Steps p.tables e below (T132.setTop (mkF m 46 #[.val (.int p0), .val (.int p1), .val (.long p2), .second, .val (.int p3), .val (.int vm), .val (.int p1), .val (.long nv), .second, .unset, .unset, .unset, .unset, .unset, .unset, .unset] [(.int p0)])) _
      refine XS.iconst X132.here hx rfl (hb hby at_46) ?_
      show Steps p.tables e below (T132.setTop (mkF m 47 #[.val (.int p0), .val (.int p1), .val (.long p2), .second, .val (.int p3), .val (.int vm), .val (.int p1), .val (.long nv), .second, .unset, .unset, .unset, .unset, .unset, .unset, .unset] [(.int (2 : Int32)), (.int p0)])) _
      refine XS.iushr X132.here hx rfl (hb hby at_47) rfl ?_
      show Steps p.tables e below (T132.setTop (mkF m 48 #[.val (.int p0), .val (.int p1), .val (.long p2), .second, .val (.int p3), .val (.int vm), .val (.int p1), .val (.long nv), .second, .unset, .unset, .unset, .unset, .unset, .unset, .unset] [(.int ((p0.toUInt32 >>> ((2 : Int32) &&& 31).toUInt32).toInt32))])) _
      refine XS.iconst X132.here hx rfl (hb hby at_48) ?_
      show Steps p.tables e below (T132.setTop (mkF m 49 #[.val (.int p0), .val (.int p1), .val (.long p2), .second, .val (.int p3), .val (.int vm), .val (.int p1), .val (.long nv), .second, .unset, .unset, .unset, .unset, .unset, .unset, .unset] [(.int (3 : Int32)), (.int ((p0.toUInt32 >>> ((2 : Int32) &&& 31).toUInt32).toInt32))])) _
      refine XS.iand X132.here hx rfl (hb hby at_49) rfl ?_
      show Steps p.tables e below (T132.setTop (mkF m 50 #[.val (.int p0), .val (.int p1), .val (.long p2), .second, .val (.int p3), .val (.int vm), .val (.int p1), .val (.long nv), .second, .unset, .unset, .unset, .unset, .unset, .unset, .unset] [(.int (((p0.toUInt32 >>> ((2 : Int32) &&& 31).toUInt32).toInt32) &&& (3 : Int32)))])) _
      rw [h_lm]
      show Steps p.tables e below (T132.setTop (mkF m 50 #[.val (.int p0), .val (.int p1), .val (.long p2), .second, .val (.int p3), .val (.int vm), .val (.int p1), .val (.long nv), .second, .unset, .unset, .unset, .unset, .unset, .unset, .unset] [(.int lm)])) _
      refine XS.istore X132.here hx rfl (hb hby at_50) rfl (l' := #[.val (.int p0), .val (.int p1), .val (.long p2), .second, .val (.int p3), .val (.int vm), .val (.int p1), .val (.long nv), .second, .val (.int lm), .unset, .unset, .unset, .unset, .unset, .unset]) rfl ?_
      show Steps p.tables e below (T132.setTop (mkF m 52 #[.val (.int p0), .val (.int p1), .val (.long p2), .second, .val (.int p3), .val (.int vm), .val (.int p1), .val (.long nv), .second, .val (.int lm), .unset, .unset, .unset, .unset, .unset, .unset] [])) _
      refine XS.iload X132.here hx rfl (hb hby at_52) rfl ?_
      exact kt
    (try clear N132q); (try clear st132); (try clear Lc132); (try clear n132); (try clear k132); (try clear L132)
    by_cases hc54_133 : lm = (0 : Int32)
    · -- pc 54: lm = (0 : Int32)
      obtain ⟨ls, h_ls⟩ : ∃ z : Int64, ((p2.toUInt64 >>> ((2 : Int32) &&& 0x3f).toInt64.toUInt64).toInt64) = z := ⟨_, rfl⟩
      have hls : 0 ≤ ls.toInt ∧ ls.toInt ≤ 4611686018427387904 := by rw [← h_ls]; exact own_ush p2
      obtain ⟨_, _, ⟨T135, L135, k135, n135⟩, -, X135, ⟨Lc135, hQ135, l135, y135, z135⟩, st135⟩ := Jvm.LawKit.callS X132 hx (y := (⟨"com/example/rowstrata/rowstrata/row/VarTable", "smallest", "(IJ)Lcom/example/rowstrata/rowstrata/row/VarTable;"⟩ : MethodName)) hown (mvT hZ (hw _ (List.mem_of_getElem? (i := 4) rfl))) (mvT hZ (hw _ (List.mem_of_getElem? (i := 5) rfl))) (mvT hZ (hw _ (List.mem_of_getElem? (i := 6) rfl))) (mvT hZ (hw _ (List.mem_of_getElem? (i := 7) rfl))) (by decide) (backOf (W := 0) (rm_sm l Z a0 hw [] p1 ls h0 n0 Z0 w_TINY w_NONE w_MEDIUM w_LARGE hWd w_WT kWT S_WT A_WT hls.1 hls.2) hZ (hw _ (List.mem_of_getElem? (i := 7) rfl)) (hw _ (List.mem_of_getElem? (i := 6) rfl)) (by decide) (by decide)) (g := (mkF m 160 #[.val (.int p0), .val (.int p1), .val (.long p2), .second, .val (.int p3), .val (.int vm), .val (.int p1), .val (.long nv), .second, .val (.int lm), .val (.long ls), .second, .unset, .unset, .unset, .unset] [(.long ls), (.int p1)])) rfl (by rw [hml]; rfl) (argsL := [(.int p1), (.long ls)]) (rest := []) (lenOf pd_137 rfl) rfl (by show 2 * 0 + _ ≤ _; exact Nat.le_of_eq rfl) (hb hby at_160) (fun _ _ => ⟨rfl, e132, (by decide : 0 + 0 ≤ _), (by decide : 0 + 0 ≤ _)⟩)
      dsimp only [Pt.U, Pt.locs, Pt.cells, Pt.slots] at X135 l135 y135 z135 st135 hQ135
      subst l135 y135 z135
      obtain ⟨rfl, N135q, e135⟩ := hQ135
      have N135 := Fr.app N132 N135q
      have ck136 : ∀ t, Steps p.tables e below (T135.setTop (mkF m 163 #[.val (.int p0), .val (.int p1), .val (.long p2), .second, .val (.int p3), .val (.int vm), .val (.int p1), .val (.long nv), .second, .val (.int lm), .val (.long ls), .second, .unset, .unset, .unset, .unset] [(own_spec p1.toInt ls.toInt w_NONE w_TINY w_MEDIUM w_LARGE)])) t → Steps p.tables e below (s₁.setTop (entryFrame m #[(.int p0), (.int p1), (.long p2), (.int p3)] maxLocals)) t := by
        intro t kt
        refine ck134 _ ?_
        show Steps p.tables e below (T132.setTop (mkF m 54 #[.val (.int p0), .val (.int p1), .val (.long p2), .second, .val (.int p3), .val (.int vm), .val (.int p1), .val (.long nv), .second, .val (.int lm), .unset, .unset, .unset, .unset, .unset, .unset] [(.int lm)])) _
        refine XS.ifNo X132.here hx rfl (hb hby at_54) rfl ((if0 _ _).trans (teq hc54_133).2) ?_
        show Steps p.tables e below (T132.setTop (mkF m 57 #[.val (.int p0), .val (.int p1), .val (.long p2), .second, .val (.int p3), .val (.int vm), .val (.int p1), .val (.long nv), .second, .val (.int lm), .unset, .unset, .unset, .unset, .unset, .unset] [])) _
        refine XS.lloadN X132.here hx rfl (hb hby at_57) rfl ?_
        show Steps p.tables e below (T132.setTop (mkF m 58 #[.val (.int p0), .val (.int p1), .val (.long p2), .second, .val (.int p3), .val (.int vm), .val (.int p1), .val (.long nv), .second, .val (.int lm), .unset, .unset, .unset, .unset, .unset, .unset] [(.long p2)])) _
        refine XS.iconst X132.here hx rfl (hb hby at_58) ?_
        show Steps p.tables e below (T132.setTop (mkF m 59 #[.val (.int p0), .val (.int p1), .val (.long p2), .second, .val (.int p3), .val (.int vm), .val (.int p1), .val (.long nv), .second, .val (.int lm), .unset, .unset, .unset, .unset, .unset, .unset] [(.int (2 : Int32)), (.long p2)])) _
        refine XS.lushr X132.here hx rfl (hb hby at_59) rfl ?_
        show Steps p.tables e below (T132.setTop (mkF m 60 #[.val (.int p0), .val (.int p1), .val (.long p2), .second, .val (.int p3), .val (.int vm), .val (.int p1), .val (.long nv), .second, .val (.int lm), .unset, .unset, .unset, .unset, .unset, .unset] [(.long ((p2.toUInt64 >>> ((2 : Int32) &&& 0x3f).toInt64.toUInt64).toInt64))])) _
        rw [h_ls]
        show Steps p.tables e below (T132.setTop (mkF m 60 #[.val (.int p0), .val (.int p1), .val (.long p2), .second, .val (.int p3), .val (.int vm), .val (.int p1), .val (.long nv), .second, .val (.int lm), .unset, .unset, .unset, .unset, .unset, .unset] [(.long ls)])) _
        refine XS.lstore X132.here hx rfl (hb hby at_60) rfl (l' := #[.val (.int p0), .val (.int p1), .val (.long p2), .second, .val (.int p3), .val (.int vm), .val (.int p1), .val (.long nv), .second, .val (.int lm), .val (.long ls), .second, .unset, .unset, .unset, .unset]) rfl ?_
        show Steps p.tables e below (T132.setTop (mkF m 62 #[.val (.int p0), .val (.int p1), .val (.long p2), .second, .val (.int p3), .val (.int vm), .val (.int p1), .val (.long nv), .second, .val (.int lm), .val (.long ls), .second, .unset, .unset, .unset, .unset] [])) _
        refine XS.goto X132.here hx rfl (pc0 := 62) (pc' := 156) rfl (hb hby at_62) (by decide) (by decide) ?_
        show Steps p.tables e below (T132.setTop (mkF m 156 #[.val (.int p0), .val (.int p1), .val (.long p2), .second, .val (.int p3), .val (.int vm), .val (.int p1), .val (.long nv), .second, .val (.int lm), .val (.long ls), .second, .unset, .unset, .unset, .unset] [])) _
        refine XS.iload X132.here hx rfl (hb hby at_156) rfl ?_
        show Steps p.tables e below (T132.setTop (mkF m 158 #[.val (.int p0), .val (.int p1), .val (.long p2), .second, .val (.int p3), .val (.int vm), .val (.int p1), .val (.long nv), .second, .val (.int lm), .val (.long ls), .second, .unset, .unset, .unset, .unset] [(.int p1)])) _
        refine XS.lload X132.here hx rfl (hb hby at_158) rfl ?_
        show Steps p.tables e below (T132.setTop (mkF m 160 #[.val (.int p0), .val (.int p1), .val (.long p2), .second, .val (.int p3), .val (.int vm), .val (.int p1), .val (.long nv), .second, .val (.int lm), .val (.long ls), .second, .unset, .unset, .unset, .unset] [(.long ls), (.int p1)])) _
        refine st135 _ ?_
        exact kt
      (try clear N135q); (try clear st135); (try clear Lc135); (try clear n135); (try clear k135); (try clear L135)
      rcases own_spec_two p1.toInt ls.toInt w_NONE w_TINY w_MEDIUM w_LARGE with ⟨wq, hv137⟩ | hv138
      · -- wq
        obtain ⟨_, _, ⟨T139, L139, k139, n139⟩, -, X139, ⟨Lc139, hQ139, l139, y139, z139⟩, st139⟩ := Jvm.LawKit.callS X135 hx (y := (⟨"com/example/rowstrata/rowstrata/row/VarTableSmallestPinLaw", "expected", "(IJ)Lcom/example/rowstrata/rowstrata/row/VarTable;"⟩ : MethodName)) hown (mvT hZ (hw _ (List.mem_of_getElem? (i := 25) rfl))) (mvT hZ (hw _ (List.mem_of_getElem? (i := 26) rfl))) (mvT hZ (hw _ (List.mem_of_getElem? (i := 27) rfl))) (mvT hZ (hw _ (List.mem_of_getElem? (i := 28) rfl))) (by decide) (backOf (W := 1) (rm_exp l Z a0 hw [] p1 ls h0 n0 Z0 w_TINY w_NONE w_MEDIUM w_LARGE hWd hls.1 hls.2) hZ (hw _ (List.mem_of_getElem? (i := 28) rfl)) (hw _ (List.mem_of_getElem? (i := 27) rfl)) (by decide) (by decide)) (g := (mkF m 171 #[.val (.int p0), .val (.int p1), .val (.long p2), .second, .val (.int p3), .val (.int vm), .val (.int p1), .val (.long nv), .second, .val (.int lm), .val (.long ls), .second, .val (.ref wq), .unset, .unset, .unset] [(.long ls), (.int p1), (.ref wq)])) rfl (by rw [hml]; rfl) (argsL := [(.int p1), (.long ls)]) (rest := [(.ref wq)]) (lenOf pd_137 rfl) rfl (by show 2 * 0 + _ ≤ _; exact Nat.le_of_eq rfl) (hb hby at_171) (fun _ _ => ⟨rfl, e135, (by decide : 0 + 0 ≤ _), (by decide : 0 + 0 ≤ _)⟩)
        dsimp only [Pt.U, Pt.locs, Pt.cells, Pt.slots] at X139 l139 y139 z139 st139 hQ139
        subst l139 y139 z139
        obtain ⟨rfl, N139q, e139⟩ := hQ139
        have N139 := Fr.app N135 N139q
        obtain ⟨fs, hr, hrun, hended, hW, hsame⟩ := X139.leave (v := some (.int (1 : Int32))) (fun h => by rw [Bd.returns] at h; cases h)
        refine ⟨_, _, ck136 _ ?_, hrun, hended, _, _, rfl, ?_, ⟨_, rfl⟩, hW, hsame.mono (by decide) (by decide)⟩
        · show Steps p.tables e below (T135.setTop (mkF m 163 #[.val (.int p0), .val (.int p1), .val (.long p2), .second, .val (.int p3), .val (.int vm), .val (.int p1), .val (.long nv), .second, .val (.int lm), .val (.long ls), .second, .unset, .unset, .unset, .unset] [(own_spec p1.toInt ls.toInt w_NONE w_TINY w_MEDIUM w_LARGE)])) _
          rw [hv137]
          show Steps p.tables e below (T135.setTop (mkF m 163 #[.val (.int p0), .val (.int p1), .val (.long p2), .second, .val (.int p3), .val (.int vm), .val (.int p1), .val (.long nv), .second, .val (.int lm), .val (.long ls), .second, .unset, .unset, .unset, .unset] [(.ref wq)])) _
          refine XS.astore X135.here hx rfl (hb hby at_163) rfl rfl (l' := #[.val (.int p0), .val (.int p1), .val (.long p2), .second, .val (.int p3), .val (.int vm), .val (.int p1), .val (.long nv), .second, .val (.int lm), .val (.long ls), .second, .val (.ref wq), .unset, .unset, .unset]) rfl ?_
          show Steps p.tables e below (T135.setTop (mkF m 165 #[.val (.int p0), .val (.int p1), .val (.long p2), .second, .val (.int p3), .val (.int vm), .val (.int p1), .val (.long nv), .second, .val (.int lm), .val (.long ls), .second, .val (.ref wq), .unset, .unset, .unset] [])) _
          refine XS.aload X135.here hx rfl (hb hby at_165) rfl rfl ?_
          show Steps p.tables e below (T135.setTop (mkF m 167 #[.val (.int p0), .val (.int p1), .val (.long p2), .second, .val (.int p3), .val (.int vm), .val (.int p1), .val (.long nv), .second, .val (.int lm), .val (.long ls), .second, .val (.ref wq), .unset, .unset, .unset] [(.ref wq)])) _
          refine XS.iload X135.here hx rfl (hb hby at_167) rfl ?_
          show Steps p.tables e below (T135.setTop (mkF m 169 #[.val (.int p0), .val (.int p1), .val (.long p2), .second, .val (.int p3), .val (.int vm), .val (.int p1), .val (.long nv), .second, .val (.int lm), .val (.long ls), .second, .val (.ref wq), .unset, .unset, .unset] [(.int p1), (.ref wq)])) _
          refine XS.lload X135.here hx rfl (hb hby at_169) rfl ?_
          show Steps p.tables e below (T135.setTop (mkF m 171 #[.val (.int p0), .val (.int p1), .val (.long p2), .second, .val (.int p3), .val (.int vm), .val (.int p1), .val (.long nv), .second, .val (.int lm), .val (.long ls), .second, .val (.ref wq), .unset, .unset, .unset] [(.long ls), (.int p1), (.ref wq)])) _
          refine st139 _ ?_
          show Steps p.tables e below (T139.setTop (mkF m 174 #[.val (.int p0), .val (.int p1), .val (.long p2), .second, .val (.int p3), .val (.int vm), .val (.int p1), .val (.long nv), .second, .val (.int lm), .val (.long ls), .second, .val (.ref wq), .unset, .unset, .unset] [(own_spec p1.toInt ls.toInt w_NONE w_TINY w_MEDIUM w_LARGE), (.ref wq)])) _
          rw [hv137]
          show Steps p.tables e below (T139.setTop (mkF m 174 #[.val (.int p0), .val (.int p1), .val (.long p2), .second, .val (.int p3), .val (.int vm), .val (.int p1), .val (.long nv), .second, .val (.int lm), .val (.long ls), .second, .val (.ref wq), .unset, .unset, .unset] [(.ref wq), (.ref wq)])) _
          refine Jvm.RoadKit.acmp (g := (mkF m 174 #[.val (.int p0), .val (.int p1), .val (.long p2), .second, .val (.int p3), .val (.int vm), .val (.int p1), .val (.long nv), .second, .val (.int lm), .val (.long ls), .second, .val (.ref wq), .unset, .unset, .unset] [(.ref wq), (.ref wq)])) X139 hx rfl rfl rfl (pc0 := 174) (pc' := 177) (same := true) rfl (hb hby at_174) rfl (decide_eq_true rfl) (by decide) (by decide) ?_
          show Steps p.tables e below (T139.setTop (mkF m 177 #[.val (.int p0), .val (.int p1), .val (.long p2), .second, .val (.int p3), .val (.int vm), .val (.int p1), .val (.long nv), .second, .val (.int lm), .val (.long ls), .second, .val (.ref wq), .unset, .unset, .unset] [])) _
          refine XS.iconst X139.here hx rfl (hb hby at_177) ?_
          show Steps p.tables e below (T139.setTop (mkF m 178 #[.val (.int p0), .val (.int p1), .val (.long p2), .second, .val (.int p3), .val (.int vm), .val (.int p1), .val (.long nv), .second, .val (.int lm), .val (.long ls), .second, .val (.ref wq), .unset, .unset, .unset] [(.int (1 : Int32))])) _
          refine XS.goto X139.here hx rfl (pc0 := 178) (pc' := 182) rfl (hb hby at_178) (by decide) (by decide) ?_
          show Steps p.tables e below (T139.setTop (mkF m 182 #[.val (.int p0), .val (.int p1), .val (.long p2), .second, .val (.int p3), .val (.int vm), .val (.int p1), .val (.long nv), .second, .val (.int lm), .val (.long ls), .second, .val (.ref wq), .unset, .unset, .unset] [(.int (1 : Int32))])) _
          exact retN X139 hx (t := .boolean) Bd.returns (by simp) (hb hby at_182) hr
        · show own_Pure (some (.int 1)) h0 n0 _ T139.heap _
          rw [e139]
          exact ⟨rfl, N139, rfl⟩
      · -- null
        obtain ⟨_, _, ⟨T140, L140, k140, n140⟩, -, X140, ⟨Lc140, hQ140, l140, y140, z140⟩, st140⟩ := Jvm.LawKit.callS X135 hx (y := (⟨"com/example/rowstrata/rowstrata/row/VarTableSmallestPinLaw", "expected", "(IJ)Lcom/example/rowstrata/rowstrata/row/VarTable;"⟩ : MethodName)) hown (mvT hZ (hw _ (List.mem_of_getElem? (i := 25) rfl))) (mvT hZ (hw _ (List.mem_of_getElem? (i := 26) rfl))) (mvT hZ (hw _ (List.mem_of_getElem? (i := 27) rfl))) (mvT hZ (hw _ (List.mem_of_getElem? (i := 28) rfl))) (by decide) (backOf (W := 1) (rm_exp l Z a0 hw [] p1 ls h0 n0 Z0 w_TINY w_NONE w_MEDIUM w_LARGE hWd hls.1 hls.2) hZ (hw _ (List.mem_of_getElem? (i := 28) rfl)) (hw _ (List.mem_of_getElem? (i := 27) rfl)) (by decide) (by decide)) (g := (mkF m 171 #[.val (.int p0), .val (.int p1), .val (.long p2), .second, .val (.int p3), .val (.int vm), .val (.int p1), .val (.long nv), .second, .val (.int lm), .val (.long ls), .second, .val .null, .unset, .unset, .unset] [(.long ls), (.int p1), .null])) rfl (by rw [hml]; rfl) (argsL := [(.int p1), (.long ls)]) (rest := [.null]) (lenOf pd_137 rfl) rfl (by show 2 * 0 + _ ≤ _; exact Nat.le_of_eq rfl) (hb hby at_171) (fun _ _ => ⟨rfl, e135, (by decide : 0 + 0 ≤ _), (by decide : 0 + 0 ≤ _)⟩)
        dsimp only [Pt.U, Pt.locs, Pt.cells, Pt.slots] at X140 l140 y140 z140 st140 hQ140
        subst l140 y140 z140
        obtain ⟨rfl, N140q, e140⟩ := hQ140
        have N140 := Fr.app N135 N140q
        obtain ⟨fs, hr, hrun, hended, hW, hsame⟩ := X140.leave (v := some (.int (1 : Int32))) (fun h => by rw [Bd.returns] at h; cases h)
        refine ⟨_, _, ck136 _ ?_, hrun, hended, _, _, rfl, ?_, ⟨_, rfl⟩, hW, hsame.mono (by decide) (by decide)⟩
        · show Steps p.tables e below (T135.setTop (mkF m 163 #[.val (.int p0), .val (.int p1), .val (.long p2), .second, .val (.int p3), .val (.int vm), .val (.int p1), .val (.long nv), .second, .val (.int lm), .val (.long ls), .second, .unset, .unset, .unset, .unset] [(own_spec p1.toInt ls.toInt w_NONE w_TINY w_MEDIUM w_LARGE)])) _
          rw [hv138]
          show Steps p.tables e below (T135.setTop (mkF m 163 #[.val (.int p0), .val (.int p1), .val (.long p2), .second, .val (.int p3), .val (.int vm), .val (.int p1), .val (.long nv), .second, .val (.int lm), .val (.long ls), .second, .unset, .unset, .unset, .unset] [.null])) _
          refine XS.astore X135.here hx rfl (hb hby at_163) rfl rfl (l' := #[.val (.int p0), .val (.int p1), .val (.long p2), .second, .val (.int p3), .val (.int vm), .val (.int p1), .val (.long nv), .second, .val (.int lm), .val (.long ls), .second, .val .null, .unset, .unset, .unset]) rfl ?_
          show Steps p.tables e below (T135.setTop (mkF m 165 #[.val (.int p0), .val (.int p1), .val (.long p2), .second, .val (.int p3), .val (.int vm), .val (.int p1), .val (.long nv), .second, .val (.int lm), .val (.long ls), .second, .val .null, .unset, .unset, .unset] [])) _
          refine XS.aload X135.here hx rfl (hb hby at_165) rfl rfl ?_
          show Steps p.tables e below (T135.setTop (mkF m 167 #[.val (.int p0), .val (.int p1), .val (.long p2), .second, .val (.int p3), .val (.int vm), .val (.int p1), .val (.long nv), .second, .val (.int lm), .val (.long ls), .second, .val .null, .unset, .unset, .unset] [.null])) _
          refine XS.iload X135.here hx rfl (hb hby at_167) rfl ?_
          show Steps p.tables e below (T135.setTop (mkF m 169 #[.val (.int p0), .val (.int p1), .val (.long p2), .second, .val (.int p3), .val (.int vm), .val (.int p1), .val (.long nv), .second, .val (.int lm), .val (.long ls), .second, .val .null, .unset, .unset, .unset] [(.int p1), .null])) _
          refine XS.lload X135.here hx rfl (hb hby at_169) rfl ?_
          show Steps p.tables e below (T135.setTop (mkF m 171 #[.val (.int p0), .val (.int p1), .val (.long p2), .second, .val (.int p3), .val (.int vm), .val (.int p1), .val (.long nv), .second, .val (.int lm), .val (.long ls), .second, .val .null, .unset, .unset, .unset] [(.long ls), (.int p1), .null])) _
          refine st140 _ ?_
          show Steps p.tables e below (T140.setTop (mkF m 174 #[.val (.int p0), .val (.int p1), .val (.long p2), .second, .val (.int p3), .val (.int vm), .val (.int p1), .val (.long nv), .second, .val (.int lm), .val (.long ls), .second, .val .null, .unset, .unset, .unset] [(own_spec p1.toInt ls.toInt w_NONE w_TINY w_MEDIUM w_LARGE), .null])) _
          rw [hv138]
          show Steps p.tables e below (T140.setTop (mkF m 174 #[.val (.int p0), .val (.int p1), .val (.long p2), .second, .val (.int p3), .val (.int vm), .val (.int p1), .val (.long nv), .second, .val (.int lm), .val (.long ls), .second, .val .null, .unset, .unset, .unset] [.null, .null])) _
          refine Jvm.RoadKit.acmp (g := (mkF m 174 #[.val (.int p0), .val (.int p1), .val (.long p2), .second, .val (.int p3), .val (.int vm), .val (.int p1), .val (.long nv), .second, .val (.int lm), .val (.long ls), .second, .val .null, .unset, .unset, .unset] [.null, .null])) X140 hx rfl rfl rfl (pc0 := 174) (pc' := 177) (same := true) rfl (hb hby at_174) rfl (decide_eq_true rfl) (by decide) (by decide) ?_
          show Steps p.tables e below (T140.setTop (mkF m 177 #[.val (.int p0), .val (.int p1), .val (.long p2), .second, .val (.int p3), .val (.int vm), .val (.int p1), .val (.long nv), .second, .val (.int lm), .val (.long ls), .second, .val .null, .unset, .unset, .unset] [])) _
          refine XS.iconst X140.here hx rfl (hb hby at_177) ?_
          show Steps p.tables e below (T140.setTop (mkF m 178 #[.val (.int p0), .val (.int p1), .val (.long p2), .second, .val (.int p3), .val (.int vm), .val (.int p1), .val (.long nv), .second, .val (.int lm), .val (.long ls), .second, .val .null, .unset, .unset, .unset] [(.int (1 : Int32))])) _
          refine XS.goto X140.here hx rfl (pc0 := 178) (pc' := 182) rfl (hb hby at_178) (by decide) (by decide) ?_
          show Steps p.tables e below (T140.setTop (mkF m 182 #[.val (.int p0), .val (.int p1), .val (.long p2), .second, .val (.int p3), .val (.int vm), .val (.int p1), .val (.long nv), .second, .val (.int lm), .val (.long ls), .second, .val .null, .unset, .unset, .unset] [(.int (1 : Int32))])) _
          exact retN X140 hx (t := .boolean) Bd.returns (by simp) (hb hby at_182) hr
        · show own_Pure (some (.int 1)) h0 n0 _ T140.heap _
          rw [e140]
          exact ⟨rfl, N140, rfl⟩
    · -- pc 54: not lm = (0 : Int32)
      by_cases hc68_141 : lm = (1 : Int32)
      · -- pc 68: lm = (1 : Int32)
        obtain ⟨tb, h_tb⟩ : ∃ z : Int64, ((1 : Int64) + nv) = z := ⟨_, rfl⟩
        have htb : 0 ≤ tb.toInt ∧ tb.toInt ≤ 8589934590 := by rw [← h_tb]; exact own_tb103 hnv.1 hnv.2
        obtain ⟨xx, h_xx⟩ : ∃ z : Int64, (((255 : Int64) - tb) + ((p3 % (8 : Int32)).toInt64)) = z := ⟨_, rfl⟩
        have hxx : xx.toInt ≤ 4294967303 := by rw [← h_xx]; exact own_xx (by decide) htb.1 htb.2
        obtain ⟨_, _, ⟨T142, L142, k142, n142⟩, -, X142, ⟨Lc142, hQ142, l142, y142, z142⟩, st142⟩ := Jvm.LawKit.callS X132 hx (y := (⟨"java/lang/Math", "max", "(JJ)J"⟩ : MethodName)) hown (mvT hZ (hw _ (List.mem_of_getElem? (i := 0) rfl))) (mvT hZ (hw _ (List.mem_of_getElem? (i := 1) rfl))) (mvT hZ (hw _ (List.mem_of_getElem? (i := 2) rfl))) (mvT hZ (hw _ (List.mem_of_getElem? (i := 3) rfl))) (by decide) (backOf (W := 0) (rm_max l Z a0 hw [] (0 : Int64) xx h0 n0 Z0 (if (lcmpW (0 : Int64) xx) < (0 : Int32) then xx else (0 : Int64)) rfl) hZ (hw _ (List.mem_of_getElem? (i := 3) rfl)) (hw _ (List.mem_of_getElem? (i := 2) rfl)) (by decide) (by decide)) (g := (mkF m 151 #[.val (.int p0), .val (.int p1), .val (.long p2), .second, .val (.int p3), .val (.int vm), .val (.int p1), .val (.long nv), .second, .val (.int lm), .unset, .unset, .val (.long (255 : Int64)), .second, .val (.long tb), .second] [(.long xx), (.long (0 : Int64))])) rfl (by rw [hml]; rfl) (argsL := [(.long (0 : Int64)), (.long xx)]) (rest := []) (lenOf pd_136 rfl) rfl (by show 2 * 0 + _ ≤ _; exact Nat.le_of_eq rfl) (hb hby at_151) (fun _ _ => ⟨rfl, e132, (by decide : 0 + 0 ≤ _), (by decide : 0 + 0 ≤ _)⟩)
        dsimp only [Pt.U, Pt.locs, Pt.cells, Pt.slots] at X142 l142 y142 z142 st142 hQ142
        subst l142 y142 z142
        obtain ⟨rfl, N142q, e142⟩ := hQ142
        have N142 := Fr.app N132 N142q
        obtain ⟨ls, h_ls⟩ : ∃ z : Int64, (if (lcmpW (0 : Int64) xx) < (0 : Int32) then xx else (0 : Int64)) = z := ⟨_, rfl⟩
        have hls : 0 ≤ ls.toInt ∧ ls.toInt ≤ 4611686018427387904 := by rw [← h_ls]; exact own_mx2 hxx
        obtain ⟨_, _, ⟨T143, L143, k143, n143⟩, -, X143, ⟨Lc143, hQ143, l143, y143, z143⟩, st143⟩ := Jvm.LawKit.callS X142 hx (y := (⟨"com/example/rowstrata/rowstrata/row/VarTable", "smallest", "(IJ)Lcom/example/rowstrata/rowstrata/row/VarTable;"⟩ : MethodName)) hown (mvT hZ (hw _ (List.mem_of_getElem? (i := 4) rfl))) (mvT hZ (hw _ (List.mem_of_getElem? (i := 5) rfl))) (mvT hZ (hw _ (List.mem_of_getElem? (i := 6) rfl))) (mvT hZ (hw _ (List.mem_of_getElem? (i := 7) rfl))) (by decide) (backOf (W := 0) (rm_sm l Z a0 hw [] p1 ls h0 n0 Z0 w_TINY w_NONE w_MEDIUM w_LARGE hWd w_WT kWT S_WT A_WT hls.1 hls.2) hZ (hw _ (List.mem_of_getElem? (i := 7) rfl)) (hw _ (List.mem_of_getElem? (i := 6) rfl)) (by decide) (by decide)) (g := (mkF m 160 #[.val (.int p0), .val (.int p1), .val (.long p2), .second, .val (.int p3), .val (.int vm), .val (.int p1), .val (.long nv), .second, .val (.int lm), .val (.long ls), .second, .val (.long (255 : Int64)), .second, .val (.long tb), .second] [(.long ls), (.int p1)])) rfl (by rw [hml]; rfl) (argsL := [(.int p1), (.long ls)]) (rest := []) (lenOf pd_137 rfl) rfl (by show 2 * 0 + _ ≤ _; exact Nat.le_of_eq rfl) (hb hby at_160) (fun _ _ => ⟨rfl, e142, (by decide : 0 + 0 ≤ _), (by decide : 0 + 0 ≤ _)⟩)
        dsimp only [Pt.U, Pt.locs, Pt.cells, Pt.slots] at X143 l143 y143 z143 st143 hQ143
        subst l143 y143 z143
        obtain ⟨rfl, N143q, e143⟩ := hQ143
        have N143 := Fr.app N142 N143q
        have ck144 : ∀ t, Steps p.tables e below (T143.setTop (mkF m 163 #[.val (.int p0), .val (.int p1), .val (.long p2), .second, .val (.int p3), .val (.int vm), .val (.int p1), .val (.long nv), .second, .val (.int lm), .val (.long ls), .second, .val (.long (255 : Int64)), .second, .val (.long tb), .second] [(own_spec p1.toInt ls.toInt w_NONE w_TINY w_MEDIUM w_LARGE)])) t → Steps p.tables e below (s₁.setTop (entryFrame m #[(.int p0), (.int p1), (.long p2), (.int p3)] maxLocals)) t := by
          intro t kt
          refine ck134 _ ?_
          show Steps p.tables e below (T132.setTop (mkF m 54 #[.val (.int p0), .val (.int p1), .val (.long p2), .second, .val (.int p3), .val (.int vm), .val (.int p1), .val (.long nv), .second, .val (.int lm), .unset, .unset, .unset, .unset, .unset, .unset] [(.int lm)])) _
          refine XS.ifYes X132.here hx rfl (pc0 := 54) (pc' := 65) rfl (hb hby at_54) rfl ((if0 _ _).trans (feq hc54_133).2) (by decide) (by decide) ?_
          show Steps p.tables e below (T132.setTop (mkF m 65 #[.val (.int p0), .val (.int p1), .val (.long p2), .second, .val (.int p3), .val (.int vm), .val (.int p1), .val (.long nv), .second, .val (.int lm), .unset, .unset, .unset, .unset, .unset, .unset] [])) _
          refine XS.iload X132.here hx rfl (hb hby at_65) rfl ?_
          show Steps p.tables e below (T132.setTop (mkF m 67 #[.val (.int p0), .val (.int p1), .val (.long p2), .second, .val (.int p3), .val (.int vm), .val (.int p1), .val (.long nv), .second, .val (.int lm), .unset, .unset, .unset, .unset, .unset, .unset] [(.int lm)])) _
          refine XS.iconst X132.here hx rfl (hb hby at_67) ?_
          show Steps p.tables e below (T132.setTop (mkF m 68 #[.val (.int p0), .val (.int p1), .val (.long p2), .second, .val (.int p3), .val (.int vm), .val (.int p1), .val (.long nv), .second, .val (.int lm), .unset, .unset, .unset, .unset, .unset, .unset] [(.int (1 : Int32)), (.int lm)])) _
          refine XS.icmpNo X132.here hx rfl (hb hby at_68) rfl (teq hc68_141).2 ?_
          show Steps p.tables e below (T132.setTop (mkF m 71 #[.val (.int p0), .val (.int p1), .val (.long p2), .second, .val (.int p3), .val (.int vm), .val (.int p1), .val (.long nv), .second, .val (.int lm), .unset, .unset, .unset, .unset, .unset, .unset] [])) _
          refine X132.ldc2Long hx hown (mvT hZ (hw _ (List.mem_of_getElem? (i := 29) rfl))) (g := (mkF m 71 #[.val (.int p0), .val (.int p1), .val (.long p2), .second, .val (.int p3), .val (.int vm), .val (.int p1), .val (.long nv), .second, .val (.int lm), .unset, .unset, .unset, .unset, .unset, .unset] [])) rfl (hb hby at_71) _ ?_
          show Steps p.tables e below (T132.setTop (mkF m 74 #[.val (.int p0), .val (.int p1), .val (.long p2), .second, .val (.int p3), .val (.int vm), .val (.int p1), .val (.long nv), .second, .val (.int lm), .unset, .unset, .unset, .unset, .unset, .unset] [(.long (255 : Int64))])) _
          refine XS.goto X132.here hx rfl (pc0 := 74) (pc' := 92) rfl (hb hby at_74) (by decide) (by decide) ?_
          show Steps p.tables e below (T132.setTop (mkF m 92 #[.val (.int p0), .val (.int p1), .val (.long p2), .second, .val (.int p3), .val (.int vm), .val (.int p1), .val (.long nv), .second, .val (.int lm), .unset, .unset, .unset, .unset, .unset, .unset] [(.long (255 : Int64))])) _
          refine XS.lstore X132.here hx rfl (hb hby at_92) rfl (l' := #[.val (.int p0), .val (.int p1), .val (.long p2), .second, .val (.int p3), .val (.int vm), .val (.int p1), .val (.long nv), .second, .val (.int lm), .unset, .unset, .val (.long (255 : Int64)), .second, .unset, .unset]) rfl ?_
          show Steps p.tables e below (T132.setTop (mkF m 94 #[.val (.int p0), .val (.int p1), .val (.long p2), .second, .val (.int p3), .val (.int vm), .val (.int p1), .val (.long nv), .second, .val (.int lm), .unset, .unset, .val (.long (255 : Int64)), .second, .unset, .unset] [])) _
          refine XS.iload X132.here hx rfl (hb hby at_94) rfl ?_
          show Steps p.tables e below (T132.setTop (mkF m 96 #[.val (.int p0), .val (.int p1), .val (.long p2), .second, .val (.int p3), .val (.int vm), .val (.int p1), .val (.long nv), .second, .val (.int lm), .unset, .unset, .val (.long (255 : Int64)), .second, .unset, .unset] [(.int lm)])) _
          refine XS.iconst X132.here hx rfl (hb hby at_96) ?_
          show Steps p.tables e below (T132.setTop (mkF m 97 #[.val (.int p0), .val (.int p1), .val (.long p2), .second, .val (.int p3), .val (.int vm), .val (.int p1), .val (.long nv), .second, .val (.int lm), .unset, .unset, .val (.long (255 : Int64)), .second, .unset, .unset] [(.int (1 : Int32)), (.int lm)])) _
          refine XS.icmpNo X132.here hx rfl (hb hby at_97) rfl (teq hc68_141).2 ?_
          show Steps p.tables e below (T132.setTop (mkF m 100 #[.val (.int p0), .val (.int p1), .val (.long p2), .second, .val (.int p3), .val (.int vm), .val (.int p1), .val (.long nv), .second, .val (.int lm), .unset, .unset, .val (.long (255 : Int64)), .second, .unset, .unset] [])) _
          refine XS.lconst X132.here hx rfl (hb hby at_100) ?_
          show Steps p.tables e below (T132.setTop (mkF m 101 #[.val (.int p0), .val (.int p1), .val (.long p2), .second, .val (.int p3), .val (.int vm), .val (.int p1), .val (.long nv), .second, .val (.int lm), .unset, .unset, .val (.long (255 : Int64)), .second, .unset, .unset] [(.long (1 : Int64))])) _
          refine XS.lload X132.here hx rfl (hb hby at_101) rfl ?_
          show Steps p.tables e below (T132.setTop (mkF m 103 #[.val (.int p0), .val (.int p1), .val (.long p2), .second, .val (.int p3), .val (.int vm), .val (.int p1), .val (.long nv), .second, .val (.int lm), .unset, .unset, .val (.long (255 : Int64)), .second, .unset, .unset] [(.long nv), (.long (1 : Int64))])) _
          refine XS.ladd X132.here hx rfl (hb hby at_103) rfl ?_
          show Steps p.tables e below (T132.setTop (mkF m 104 #[.val (.int p0), .val (.int p1), .val (.long p2), .second, .val (.int p3), .val (.int vm), .val (.int p1), .val (.long nv), .second, .val (.int lm), .unset, .unset, .val (.long (255 : Int64)), .second, .unset, .unset] [(.long ((1 : Int64) + nv))])) _
          rw [h_tb]
          show Steps p.tables e below (T132.setTop (mkF m 104 #[.val (.int p0), .val (.int p1), .val (.long p2), .second, .val (.int p3), .val (.int vm), .val (.int p1), .val (.long nv), .second, .val (.int lm), .unset, .unset, .val (.long (255 : Int64)), .second, .unset, .unset] [(.long tb)])) _
          refine XS.goto X132.here hx rfl (pc0 := 104) (pc' := 136) rfl (hb hby at_104) (by decide) (by decide) ?_
          show Steps p.tables e below (T132.setTop (mkF m 136 #[.val (.int p0), .val (.int p1), .val (.long p2), .second, .val (.int p3), .val (.int vm), .val (.int p1), .val (.long nv), .second, .val (.int lm), .unset, .unset, .val (.long (255 : Int64)), .second, .unset, .unset] [(.long tb)])) _
          refine XS.lstore X132.here hx rfl (hb hby at_136) rfl (l' := #[.val (.int p0), .val (.int p1), .val (.long p2), .second, .val (.int p3), .val (.int vm), .val (.int p1), .val (.long nv), .second, .val (.int lm), .unset, .unset, .val (.long (255 : Int64)), .second, .val (.long tb), .second]) rfl ?_
          show Steps p.tables e below (T132.setTop (mkF m 138 #[.val (.int p0), .val (.int p1), .val (.long p2), .second, .val (.int p3), .val (.int vm), .val (.int p1), .val (.long nv), .second, .val (.int lm), .unset, .unset, .val (.long (255 : Int64)), .second, .val (.long tb), .second] [])) _
          refine XS.lconst X132.here hx rfl (hb hby at_138) ?_
          show Steps p.tables e below (T132.setTop (mkF m 139 #[.val (.int p0), .val (.int p1), .val (.long p2), .second, .val (.int p3), .val (.int vm), .val (.int p1), .val (.long nv), .second, .val (.int lm), .unset, .unset, .val (.long (255 : Int64)), .second, .val (.long tb), .second] [(.long (0 : Int64))])) _
          refine XS.lload X132.here hx rfl (hb hby at_139) rfl ?_
          show Steps p.tables e below (T132.setTop (mkF m 141 #[.val (.int p0), .val (.int p1), .val (.long p2), .second, .val (.int p3), .val (.int vm), .val (.int p1), .val (.long nv), .second, .val (.int lm), .unset, .unset, .val (.long (255 : Int64)), .second, .val (.long tb), .second] [(.long (255 : Int64)), (.long (0 : Int64))])) _
          refine XS.lload X132.here hx rfl (hb hby at_141) rfl ?_
          show Steps p.tables e below (T132.setTop (mkF m 143 #[.val (.int p0), .val (.int p1), .val (.long p2), .second, .val (.int p3), .val (.int vm), .val (.int p1), .val (.long nv), .second, .val (.int lm), .unset, .unset, .val (.long (255 : Int64)), .second, .val (.long tb), .second] [(.long tb), (.long (255 : Int64)), (.long (0 : Int64))])) _
          refine XS.lsub X132.here hx rfl (hb hby at_143) rfl ?_
          show Steps p.tables e below (T132.setTop (mkF m 144 #[.val (.int p0), .val (.int p1), .val (.long p2), .second, .val (.int p3), .val (.int vm), .val (.int p1), .val (.long nv), .second, .val (.int lm), .unset, .unset, .val (.long (255 : Int64)), .second, .val (.long tb), .second] [(.long ((255 : Int64) - tb)), (.long (0 : Int64))])) _
          refine XS.iload X132.here hx rfl (hb hby at_144) rfl ?_
          show Steps p.tables e below (T132.setTop (mkF m 146 #[.val (.int p0), .val (.int p1), .val (.long p2), .second, .val (.int p3), .val (.int vm), .val (.int p1), .val (.long nv), .second, .val (.int lm), .unset, .unset, .val (.long (255 : Int64)), .second, .val (.long tb), .second] [(.int p3), (.long ((255 : Int64) - tb)), (.long (0 : Int64))])) _
          refine XS.bipush X132.here hx rfl (hb hby at_146) ?_
          show Steps p.tables e below (T132.setTop (mkF m 148 #[.val (.int p0), .val (.int p1), .val (.long p2), .second, .val (.int p3), .val (.int vm), .val (.int p1), .val (.long nv), .second, .val (.int lm), .unset, .unset, .val (.long (255 : Int64)), .second, .val (.long tb), .second] [(.int (8 : Int32)), (.int p3), (.long ((255 : Int64) - tb)), (.long (0 : Int64))])) _
          refine Jvm.RoadKit.iremM (g := (mkF m 148 #[.val (.int p0), .val (.int p1), .val (.long p2), .second, .val (.int p3), .val (.int vm), .val (.int p1), .val (.long nv), .second, .val (.int lm), .unset, .unset, .val (.long (255 : Int64)), .second, .val (.long tb), .second] [(.int (8 : Int32)), (.int p3), (.long ((255 : Int64) - tb)), (.long (0 : Int64))])) X132 hx rfl (hb hby at_148) rfl (by decide) ?_
          show Steps p.tables e below (T132.setTop (mkF m 149 #[.val (.int p0), .val (.int p1), .val (.long p2), .second, .val (.int p3), .val (.int vm), .val (.int p1), .val (.long nv), .second, .val (.int lm), .unset, .unset, .val (.long (255 : Int64)), .second, .val (.long tb), .second] [(.int (p3 % (8 : Int32))), (.long ((255 : Int64) - tb)), (.long (0 : Int64))])) _
          refine XS.i2l X132.here hx rfl (hb hby at_149) rfl ?_
          show Steps p.tables e below (T132.setTop (mkF m 150 #[.val (.int p0), .val (.int p1), .val (.long p2), .second, .val (.int p3), .val (.int vm), .val (.int p1), .val (.long nv), .second, .val (.int lm), .unset, .unset, .val (.long (255 : Int64)), .second, .val (.long tb), .second] [(.long ((p3 % (8 : Int32)).toInt64)), (.long ((255 : Int64) - tb)), (.long (0 : Int64))])) _
          refine XS.ladd X132.here hx rfl (hb hby at_150) rfl ?_
          show Steps p.tables e below (T132.setTop (mkF m 151 #[.val (.int p0), .val (.int p1), .val (.long p2), .second, .val (.int p3), .val (.int vm), .val (.int p1), .val (.long nv), .second, .val (.int lm), .unset, .unset, .val (.long (255 : Int64)), .second, .val (.long tb), .second] [(.long (((255 : Int64) - tb) + ((p3 % (8 : Int32)).toInt64))), (.long (0 : Int64))])) _
          rw [h_xx]
          show Steps p.tables e below (T132.setTop (mkF m 151 #[.val (.int p0), .val (.int p1), .val (.long p2), .second, .val (.int p3), .val (.int vm), .val (.int p1), .val (.long nv), .second, .val (.int lm), .unset, .unset, .val (.long (255 : Int64)), .second, .val (.long tb), .second] [(.long xx), (.long (0 : Int64))])) _
          refine st142 _ ?_
          show Steps p.tables e below (T142.setTop (mkF m 154 #[.val (.int p0), .val (.int p1), .val (.long p2), .second, .val (.int p3), .val (.int vm), .val (.int p1), .val (.long nv), .second, .val (.int lm), .unset, .unset, .val (.long (255 : Int64)), .second, .val (.long tb), .second] [(.long (if (lcmpW (0 : Int64) xx) < (0 : Int32) then xx else (0 : Int64)))])) _
          rw [h_ls]
          show Steps p.tables e below (T142.setTop (mkF m 154 #[.val (.int p0), .val (.int p1), .val (.long p2), .second, .val (.int p3), .val (.int vm), .val (.int p1), .val (.long nv), .second, .val (.int lm), .unset, .unset, .val (.long (255 : Int64)), .second, .val (.long tb), .second] [(.long ls)])) _
          refine XS.lstore X142.here hx rfl (hb hby at_154) rfl (l' := #[.val (.int p0), .val (.int p1), .val (.long p2), .second, .val (.int p3), .val (.int vm), .val (.int p1), .val (.long nv), .second, .val (.int lm), .val (.long ls), .second, .val (.long (255 : Int64)), .second, .val (.long tb), .second]) rfl ?_
          show Steps p.tables e below (T142.setTop (mkF m 156 #[.val (.int p0), .val (.int p1), .val (.long p2), .second, .val (.int p3), .val (.int vm), .val (.int p1), .val (.long nv), .second, .val (.int lm), .val (.long ls), .second, .val (.long (255 : Int64)), .second, .val (.long tb), .second] [])) _
          refine XS.iload X142.here hx rfl (hb hby at_156) rfl ?_
          show Steps p.tables e below (T142.setTop (mkF m 158 #[.val (.int p0), .val (.int p1), .val (.long p2), .second, .val (.int p3), .val (.int vm), .val (.int p1), .val (.long nv), .second, .val (.int lm), .val (.long ls), .second, .val (.long (255 : Int64)), .second, .val (.long tb), .second] [(.int p1)])) _
          refine XS.lload X142.here hx rfl (hb hby at_158) rfl ?_
          show Steps p.tables e below (T142.setTop (mkF m 160 #[.val (.int p0), .val (.int p1), .val (.long p2), .second, .val (.int p3), .val (.int vm), .val (.int p1), .val (.long nv), .second, .val (.int lm), .val (.long ls), .second, .val (.long (255 : Int64)), .second, .val (.long tb), .second] [(.long ls), (.int p1)])) _
          refine st143 _ ?_
          exact kt
        (try clear N143q); (try clear st143); (try clear Lc143); (try clear n143); (try clear k143); (try clear L143); (try clear N142); (try clear e142); (try clear N142q); (try clear st142); (try clear Lc142); (try clear X142); (try clear n142); (try clear k142); (try clear L142); (try clear T142)
        rcases own_spec_two p1.toInt ls.toInt w_NONE w_TINY w_MEDIUM w_LARGE with ⟨wq, hv145⟩ | hv146
        · -- wq
          obtain ⟨_, _, ⟨T147, L147, k147, n147⟩, -, X147, ⟨Lc147, hQ147, l147, y147, z147⟩, st147⟩ := Jvm.LawKit.callS X143 hx (y := (⟨"com/example/rowstrata/rowstrata/row/VarTableSmallestPinLaw", "expected", "(IJ)Lcom/example/rowstrata/rowstrata/row/VarTable;"⟩ : MethodName)) hown (mvT hZ (hw _ (List.mem_of_getElem? (i := 25) rfl))) (mvT hZ (hw _ (List.mem_of_getElem? (i := 26) rfl))) (mvT hZ (hw _ (List.mem_of_getElem? (i := 27) rfl))) (mvT hZ (hw _ (List.mem_of_getElem? (i := 28) rfl))) (by decide) (backOf (W := 1) (rm_exp l Z a0 hw [] p1 ls h0 n0 Z0 w_TINY w_NONE w_MEDIUM w_LARGE hWd hls.1 hls.2) hZ (hw _ (List.mem_of_getElem? (i := 28) rfl)) (hw _ (List.mem_of_getElem? (i := 27) rfl)) (by decide) (by decide)) (g := (mkF m 171 #[.val (.int p0), .val (.int p1), .val (.long p2), .second, .val (.int p3), .val (.int vm), .val (.int p1), .val (.long nv), .second, .val (.int lm), .val (.long ls), .second, .val (.ref wq), .unset, .val (.long tb), .second] [(.long ls), (.int p1), (.ref wq)])) rfl (by rw [hml]; rfl) (argsL := [(.int p1), (.long ls)]) (rest := [(.ref wq)]) (lenOf pd_137 rfl) rfl (by show 2 * 0 + _ ≤ _; exact Nat.le_of_eq rfl) (hb hby at_171) (fun _ _ => ⟨rfl, e143, (by decide : 0 + 0 ≤ _), (by decide : 0 + 0 ≤ _)⟩)
          dsimp only [Pt.U, Pt.locs, Pt.cells, Pt.slots] at X147 l147 y147 z147 st147 hQ147
          subst l147 y147 z147
          obtain ⟨rfl, N147q, e147⟩ := hQ147
          have N147 := Fr.app N143 N147q
          obtain ⟨fs, hr, hrun, hended, hW, hsame⟩ := X147.leave (v := some (.int (1 : Int32))) (fun h => by rw [Bd.returns] at h; cases h)
          refine ⟨_, _, ck144 _ ?_, hrun, hended, _, _, rfl, ?_, ⟨_, rfl⟩, hW, hsame.mono (by decide) (by decide)⟩
          · show Steps p.tables e below (T143.setTop (mkF m 163 #[.val (.int p0), .val (.int p1), .val (.long p2), .second, .val (.int p3), .val (.int vm), .val (.int p1), .val (.long nv), .second, .val (.int lm), .val (.long ls), .second, .val (.long (255 : Int64)), .second, .val (.long tb), .second] [(own_spec p1.toInt ls.toInt w_NONE w_TINY w_MEDIUM w_LARGE)])) _
            rw [hv145]
            show Steps p.tables e below (T143.setTop (mkF m 163 #[.val (.int p0), .val (.int p1), .val (.long p2), .second, .val (.int p3), .val (.int vm), .val (.int p1), .val (.long nv), .second, .val (.int lm), .val (.long ls), .second, .val (.long (255 : Int64)), .second, .val (.long tb), .second] [(.ref wq)])) _
            refine XS.astore X143.here hx rfl (hb hby at_163) rfl rfl (l' := #[.val (.int p0), .val (.int p1), .val (.long p2), .second, .val (.int p3), .val (.int vm), .val (.int p1), .val (.long nv), .second, .val (.int lm), .val (.long ls), .second, .val (.ref wq), .unset, .val (.long tb), .second]) rfl ?_
            show Steps p.tables e below (T143.setTop (mkF m 165 #[.val (.int p0), .val (.int p1), .val (.long p2), .second, .val (.int p3), .val (.int vm), .val (.int p1), .val (.long nv), .second, .val (.int lm), .val (.long ls), .second, .val (.ref wq), .unset, .val (.long tb), .second] [])) _
            refine XS.aload X143.here hx rfl (hb hby at_165) rfl rfl ?_
            show Steps p.tables e below (T143.setTop (mkF m 167 #[.val (.int p0), .val (.int p1), .val (.long p2), .second, .val (.int p3), .val (.int vm), .val (.int p1), .val (.long nv), .second, .val (.int lm), .val (.long ls), .second, .val (.ref wq), .unset, .val (.long tb), .second] [(.ref wq)])) _
            refine XS.iload X143.here hx rfl (hb hby at_167) rfl ?_
            show Steps p.tables e below (T143.setTop (mkF m 169 #[.val (.int p0), .val (.int p1), .val (.long p2), .second, .val (.int p3), .val (.int vm), .val (.int p1), .val (.long nv), .second, .val (.int lm), .val (.long ls), .second, .val (.ref wq), .unset, .val (.long tb), .second] [(.int p1), (.ref wq)])) _
            refine XS.lload X143.here hx rfl (hb hby at_169) rfl ?_
            show Steps p.tables e below (T143.setTop (mkF m 171 #[.val (.int p0), .val (.int p1), .val (.long p2), .second, .val (.int p3), .val (.int vm), .val (.int p1), .val (.long nv), .second, .val (.int lm), .val (.long ls), .second, .val (.ref wq), .unset, .val (.long tb), .second] [(.long ls), (.int p1), (.ref wq)])) _
            refine st147 _ ?_
            show Steps p.tables e below (T147.setTop (mkF m 174 #[.val (.int p0), .val (.int p1), .val (.long p2), .second, .val (.int p3), .val (.int vm), .val (.int p1), .val (.long nv), .second, .val (.int lm), .val (.long ls), .second, .val (.ref wq), .unset, .val (.long tb), .second] [(own_spec p1.toInt ls.toInt w_NONE w_TINY w_MEDIUM w_LARGE), (.ref wq)])) _
            rw [hv145]
            show Steps p.tables e below (T147.setTop (mkF m 174 #[.val (.int p0), .val (.int p1), .val (.long p2), .second, .val (.int p3), .val (.int vm), .val (.int p1), .val (.long nv), .second, .val (.int lm), .val (.long ls), .second, .val (.ref wq), .unset, .val (.long tb), .second] [(.ref wq), (.ref wq)])) _
            refine Jvm.RoadKit.acmp (g := (mkF m 174 #[.val (.int p0), .val (.int p1), .val (.long p2), .second, .val (.int p3), .val (.int vm), .val (.int p1), .val (.long nv), .second, .val (.int lm), .val (.long ls), .second, .val (.ref wq), .unset, .val (.long tb), .second] [(.ref wq), (.ref wq)])) X147 hx rfl rfl rfl (pc0 := 174) (pc' := 177) (same := true) rfl (hb hby at_174) rfl (decide_eq_true rfl) (by decide) (by decide) ?_
            show Steps p.tables e below (T147.setTop (mkF m 177 #[.val (.int p0), .val (.int p1), .val (.long p2), .second, .val (.int p3), .val (.int vm), .val (.int p1), .val (.long nv), .second, .val (.int lm), .val (.long ls), .second, .val (.ref wq), .unset, .val (.long tb), .second] [])) _
            refine XS.iconst X147.here hx rfl (hb hby at_177) ?_
            show Steps p.tables e below (T147.setTop (mkF m 178 #[.val (.int p0), .val (.int p1), .val (.long p2), .second, .val (.int p3), .val (.int vm), .val (.int p1), .val (.long nv), .second, .val (.int lm), .val (.long ls), .second, .val (.ref wq), .unset, .val (.long tb), .second] [(.int (1 : Int32))])) _
            refine XS.goto X147.here hx rfl (pc0 := 178) (pc' := 182) rfl (hb hby at_178) (by decide) (by decide) ?_
            show Steps p.tables e below (T147.setTop (mkF m 182 #[.val (.int p0), .val (.int p1), .val (.long p2), .second, .val (.int p3), .val (.int vm), .val (.int p1), .val (.long nv), .second, .val (.int lm), .val (.long ls), .second, .val (.ref wq), .unset, .val (.long tb), .second] [(.int (1 : Int32))])) _
            exact retN X147 hx (t := .boolean) Bd.returns (by simp) (hb hby at_182) hr
          · show own_Pure (some (.int 1)) h0 n0 _ T147.heap _
            rw [e147]
            exact ⟨rfl, N147, rfl⟩
        · -- null
          obtain ⟨_, _, ⟨T148, L148, k148, n148⟩, -, X148, ⟨Lc148, hQ148, l148, y148, z148⟩, st148⟩ := Jvm.LawKit.callS X143 hx (y := (⟨"com/example/rowstrata/rowstrata/row/VarTableSmallestPinLaw", "expected", "(IJ)Lcom/example/rowstrata/rowstrata/row/VarTable;"⟩ : MethodName)) hown (mvT hZ (hw _ (List.mem_of_getElem? (i := 25) rfl))) (mvT hZ (hw _ (List.mem_of_getElem? (i := 26) rfl))) (mvT hZ (hw _ (List.mem_of_getElem? (i := 27) rfl))) (mvT hZ (hw _ (List.mem_of_getElem? (i := 28) rfl))) (by decide) (backOf (W := 1) (rm_exp l Z a0 hw [] p1 ls h0 n0 Z0 w_TINY w_NONE w_MEDIUM w_LARGE hWd hls.1 hls.2) hZ (hw _ (List.mem_of_getElem? (i := 28) rfl)) (hw _ (List.mem_of_getElem? (i := 27) rfl)) (by decide) (by decide)) (g := (mkF m 171 #[.val (.int p0), .val (.int p1), .val (.long p2), .second, .val (.int p3), .val (.int vm), .val (.int p1), .val (.long nv), .second, .val (.int lm), .val (.long ls), .second, .val .null, .unset, .val (.long tb), .second] [(.long ls), (.int p1), .null])) rfl (by rw [hml]; rfl) (argsL := [(.int p1), (.long ls)]) (rest := [.null]) (lenOf pd_137 rfl) rfl (by show 2 * 0 + _ ≤ _; exact Nat.le_of_eq rfl) (hb hby at_171) (fun _ _ => ⟨rfl, e143, (by decide : 0 + 0 ≤ _), (by decide : 0 + 0 ≤ _)⟩)
          dsimp only [Pt.U, Pt.locs, Pt.cells, Pt.slots] at X148 l148 y148 z148 st148 hQ148
          subst l148 y148 z148
          obtain ⟨rfl, N148q, e148⟩ := hQ148
          have N148 := Fr.app N143 N148q
          obtain ⟨fs, hr, hrun, hended, hW, hsame⟩ := X148.leave (v := some (.int (1 : Int32))) (fun h => by rw [Bd.returns] at h; cases h)
          refine ⟨_, _, ck144 _ ?_, hrun, hended, _, _, rfl, ?_, ⟨_, rfl⟩, hW, hsame.mono (by decide) (by decide)⟩
          · show Steps p.tables e below (T143.setTop (mkF m 163 #[.val (.int p0), .val (.int p1), .val (.long p2), .second, .val (.int p3), .val (.int vm), .val (.int p1), .val (.long nv), .second, .val (.int lm), .val (.long ls), .second, .val (.long (255 : Int64)), .second, .val (.long tb), .second] [(own_spec p1.toInt ls.toInt w_NONE w_TINY w_MEDIUM w_LARGE)])) _
            rw [hv146]
            show Steps p.tables e below (T143.setTop (mkF m 163 #[.val (.int p0), .val (.int p1), .val (.long p2), .second, .val (.int p3), .val (.int vm), .val (.int p1), .val (.long nv), .second, .val (.int lm), .val (.long ls), .second, .val (.long (255 : Int64)), .second, .val (.long tb), .second] [.null])) _
            refine XS.astore X143.here hx rfl (hb hby at_163) rfl rfl (l' := #[.val (.int p0), .val (.int p1), .val (.long p2), .second, .val (.int p3), .val (.int vm), .val (.int p1), .val (.long nv), .second, .val (.int lm), .val (.long ls), .second, .val .null, .unset, .val (.long tb), .second]) rfl ?_
            show Steps p.tables e below (T143.setTop (mkF m 165 #[.val (.int p0), .val (.int p1), .val (.long p2), .second, .val (.int p3), .val (.int vm), .val (.int p1), .val (.long nv), .second, .val (.int lm), .val (.long ls), .second, .val .null, .unset, .val (.long tb), .second] [])) _
            refine XS.aload X143.here hx rfl (hb hby at_165) rfl rfl ?_
            show Steps p.tables e below (T143.setTop (mkF m 167 #[.val (.int p0), .val (.int p1), .val (.long p2), .second, .val (.int p3), .val (.int vm), .val (.int p1), .val (.long nv), .second, .val (.int lm), .val (.long ls), .second, .val .null, .unset, .val (.long tb), .second] [.null])) _
            refine XS.iload X143.here hx rfl (hb hby at_167) rfl ?_
            show Steps p.tables e below (T143.setTop (mkF m 169 #[.val (.int p0), .val (.int p1), .val (.long p2), .second, .val (.int p3), .val (.int vm), .val (.int p1), .val (.long nv), .second, .val (.int lm), .val (.long ls), .second, .val .null, .unset, .val (.long tb), .second] [(.int p1), .null])) _
            refine XS.lload X143.here hx rfl (hb hby at_169) rfl ?_
            show Steps p.tables e below (T143.setTop (mkF m 171 #[.val (.int p0), .val (.int p1), .val (.long p2), .second, .val (.int p3), .val (.int vm), .val (.int p1), .val (.long nv), .second, .val (.int lm), .val (.long ls), .second, .val .null, .unset, .val (.long tb), .second] [(.long ls), (.int p1), .null])) _
            refine st148 _ ?_
            show Steps p.tables e below (T148.setTop (mkF m 174 #[.val (.int p0), .val (.int p1), .val (.long p2), .second, .val (.int p3), .val (.int vm), .val (.int p1), .val (.long nv), .second, .val (.int lm), .val (.long ls), .second, .val .null, .unset, .val (.long tb), .second] [(own_spec p1.toInt ls.toInt w_NONE w_TINY w_MEDIUM w_LARGE), .null])) _
            rw [hv146]
            show Steps p.tables e below (T148.setTop (mkF m 174 #[.val (.int p0), .val (.int p1), .val (.long p2), .second, .val (.int p3), .val (.int vm), .val (.int p1), .val (.long nv), .second, .val (.int lm), .val (.long ls), .second, .val .null, .unset, .val (.long tb), .second] [.null, .null])) _
            refine Jvm.RoadKit.acmp (g := (mkF m 174 #[.val (.int p0), .val (.int p1), .val (.long p2), .second, .val (.int p3), .val (.int vm), .val (.int p1), .val (.long nv), .second, .val (.int lm), .val (.long ls), .second, .val .null, .unset, .val (.long tb), .second] [.null, .null])) X148 hx rfl rfl rfl (pc0 := 174) (pc' := 177) (same := true) rfl (hb hby at_174) rfl (decide_eq_true rfl) (by decide) (by decide) ?_
            show Steps p.tables e below (T148.setTop (mkF m 177 #[.val (.int p0), .val (.int p1), .val (.long p2), .second, .val (.int p3), .val (.int vm), .val (.int p1), .val (.long nv), .second, .val (.int lm), .val (.long ls), .second, .val .null, .unset, .val (.long tb), .second] [])) _
            refine XS.iconst X148.here hx rfl (hb hby at_177) ?_
            show Steps p.tables e below (T148.setTop (mkF m 178 #[.val (.int p0), .val (.int p1), .val (.long p2), .second, .val (.int p3), .val (.int vm), .val (.int p1), .val (.long nv), .second, .val (.int lm), .val (.long ls), .second, .val .null, .unset, .val (.long tb), .second] [(.int (1 : Int32))])) _
            refine XS.goto X148.here hx rfl (pc0 := 178) (pc' := 182) rfl (hb hby at_178) (by decide) (by decide) ?_
            show Steps p.tables e below (T148.setTop (mkF m 182 #[.val (.int p0), .val (.int p1), .val (.long p2), .second, .val (.int p3), .val (.int vm), .val (.int p1), .val (.long nv), .second, .val (.int lm), .val (.long ls), .second, .val .null, .unset, .val (.long tb), .second] [(.int (1 : Int32))])) _
            exact retN X148 hx (t := .boolean) Bd.returns (by simp) (hb hby at_182) hr
          · show own_Pure (some (.int 1)) h0 n0 _ T148.heap _
            rw [e148]
            exact ⟨rfl, N148, rfl⟩
      · -- pc 68: not lm = (1 : Int32)
        have ck150 : ∀ t, Steps p.tables e below (T132.setTop (mkF m 80 #[.val (.int p0), .val (.int p1), .val (.long p2), .second, .val (.int p3), .val (.int vm), .val (.int p1), .val (.long nv), .second, .val (.int lm), .unset, .unset, .unset, .unset, .unset, .unset] [(.int (2 : Int32)), (.int lm)])) t → Steps p.tables e below (s₁.setTop (entryFrame m #[(.int p0), (.int p1), (.long p2), (.int p3)] maxLocals)) t := by
          intro t kt
          refine ck134 _ ?_
          show Steps p.tables e below (T132.setTop (mkF m 54 #[.val (.int p0), .val (.int p1), .val (.long p2), .second, .val (.int p3), .val (.int vm), .val (.int p1), .val (.long nv), .second, .val (.int lm), .unset, .unset, .unset, .unset, .unset, .unset] [(.int lm)])) _
          refine XS.ifYes X132.here hx rfl (pc0 := 54) (pc' := 65) rfl (hb hby at_54) rfl ((if0 _ _).trans (feq hc54_133).2) (by decide) (by decide) ?_
          show Steps p.tables e below (T132.setTop (mkF m 65 #[.val (.int p0), .val (.int p1), .val (.long p2), .second, .val (.int p3), .val (.int vm), .val (.int p1), .val (.long nv), .second, .val (.int lm), .unset, .unset, .unset, .unset, .unset, .unset] [])) _
          refine XS.iload X132.here hx rfl (hb hby at_65) rfl ?_
          show Steps p.tables e below (T132.setTop (mkF m 67 #[.val (.int p0), .val (.int p1), .val (.long p2), .second, .val (.int p3), .val (.int vm), .val (.int p1), .val (.long nv), .second, .val (.int lm), .unset, .unset, .unset, .unset, .unset, .unset] [(.int lm)])) _
          refine XS.iconst X132.here hx rfl (hb hby at_67) ?_
          show Steps p.tables e below (T132.setTop (mkF m 68 #[.val (.int p0), .val (.int p1), .val (.long p2), .second, .val (.int p3), .val (.int vm), .val (.int p1), .val (.long nv), .second, .val (.int lm), .unset, .unset, .unset, .unset, .unset, .unset] [(.int (1 : Int32)), (.int lm)])) _
          refine XS.icmpYes X132.here hx rfl (pc0 := 68) (pc' := 77) rfl (hb hby at_68) rfl (feq hc68_141).2 (by decide) (by decide) ?_
          show Steps p.tables e below (T132.setTop (mkF m 77 #[.val (.int p0), .val (.int p1), .val (.long p2), .second, .val (.int p3), .val (.int vm), .val (.int p1), .val (.long nv), .second, .val (.int lm), .unset, .unset, .unset, .unset, .unset, .unset] [])) _
          refine XS.iload X132.here hx rfl (hb hby at_77) rfl ?_
          show Steps p.tables e below (T132.setTop (mkF m 79 #[.val (.int p0), .val (.int p1), .val (.long p2), .second, .val (.int p3), .val (.int vm), .val (.int p1), .val (.long nv), .second, .val (.int lm), .unset, .unset, .unset, .unset, .unset, .unset] [(.int lm)])) _
          refine XS.iconst X132.here hx rfl (hb hby at_79) ?_
          exact kt
        by_cases hc80_149 : lm = (2 : Int32)
        · -- pc 80: lm = (2 : Int32)
          obtain ⟨tb, h_tb⟩ : ∃ z : Int64, ((2 : Int64) + ((2 : Int64) * nv)) = z := ⟨_, rfl⟩
          have htb : 0 ≤ tb.toInt ∧ tb.toInt ≤ 8589934590 := by rw [← h_tb]; exact own_tb122 hnv.1 hnv.2
          obtain ⟨xx, h_xx⟩ : ∃ z : Int64, (((65535 : Int64) - tb) + ((p3 % (8 : Int32)).toInt64)) = z := ⟨_, rfl⟩
          have hxx : xx.toInt ≤ 4294967303 := by rw [← h_xx]; exact own_xx (by decide) htb.1 htb.2
          obtain ⟨_, _, ⟨T151, L151, k151, n151⟩, -, X151, ⟨Lc151, hQ151, l151, y151, z151⟩, st151⟩ := Jvm.LawKit.callS X132 hx (y := (⟨"java/lang/Math", "max", "(JJ)J"⟩ : MethodName)) hown (mvT hZ (hw _ (List.mem_of_getElem? (i := 0) rfl))) (mvT hZ (hw _ (List.mem_of_getElem? (i := 1) rfl))) (mvT hZ (hw _ (List.mem_of_getElem? (i := 2) rfl))) (mvT hZ (hw _ (List.mem_of_getElem? (i := 3) rfl))) (by decide) (backOf (W := 0) (rm_max l Z a0 hw [] (0 : Int64) xx h0 n0 Z0 (if (lcmpW (0 : Int64) xx) < (0 : Int32) then xx else (0 : Int64)) rfl) hZ (hw _ (List.mem_of_getElem? (i := 3) rfl)) (hw _ (List.mem_of_getElem? (i := 2) rfl)) (by decide) (by decide)) (g := (mkF m 151 #[.val (.int p0), .val (.int p1), .val (.long p2), .second, .val (.int p3), .val (.int vm), .val (.int p1), .val (.long nv), .second, .val (.int lm), .unset, .unset, .val (.long (65535 : Int64)), .second, .val (.long tb), .second] [(.long xx), (.long (0 : Int64))])) rfl (by rw [hml]; rfl) (argsL := [(.long (0 : Int64)), (.long xx)]) (rest := []) (lenOf pd_136 rfl) rfl (by show 2 * 0 + _ ≤ _; exact Nat.le_of_eq rfl) (hb hby at_151) (fun _ _ => ⟨rfl, e132, (by decide : 0 + 0 ≤ _), (by decide : 0 + 0 ≤ _)⟩)
          dsimp only [Pt.U, Pt.locs, Pt.cells, Pt.slots] at X151 l151 y151 z151 st151 hQ151
          subst l151 y151 z151
          obtain ⟨rfl, N151q, e151⟩ := hQ151
          have N151 := Fr.app N132 N151q
          obtain ⟨ls, h_ls⟩ : ∃ z : Int64, (if (lcmpW (0 : Int64) xx) < (0 : Int32) then xx else (0 : Int64)) = z := ⟨_, rfl⟩
          have hls : 0 ≤ ls.toInt ∧ ls.toInt ≤ 4611686018427387904 := by rw [← h_ls]; exact own_mx2 hxx
          obtain ⟨_, _, ⟨T152, L152, k152, n152⟩, -, X152, ⟨Lc152, hQ152, l152, y152, z152⟩, st152⟩ := Jvm.LawKit.callS X151 hx (y := (⟨"com/example/rowstrata/rowstrata/row/VarTable", "smallest", "(IJ)Lcom/example/rowstrata/rowstrata/row/VarTable;"⟩ : MethodName)) hown (mvT hZ (hw _ (List.mem_of_getElem? (i := 4) rfl))) (mvT hZ (hw _ (List.mem_of_getElem? (i := 5) rfl))) (mvT hZ (hw _ (List.mem_of_getElem? (i := 6) rfl))) (mvT hZ (hw _ (List.mem_of_getElem? (i := 7) rfl))) (by decide) (backOf (W := 0) (rm_sm l Z a0 hw [] p1 ls h0 n0 Z0 w_TINY w_NONE w_MEDIUM w_LARGE hWd w_WT kWT S_WT A_WT hls.1 hls.2) hZ (hw _ (List.mem_of_getElem? (i := 7) rfl)) (hw _ (List.mem_of_getElem? (i := 6) rfl)) (by decide) (by decide)) (g := (mkF m 160 #[.val (.int p0), .val (.int p1), .val (.long p2), .second, .val (.int p3), .val (.int vm), .val (.int p1), .val (.long nv), .second, .val (.int lm), .val (.long ls), .second, .val (.long (65535 : Int64)), .second, .val (.long tb), .second] [(.long ls), (.int p1)])) rfl (by rw [hml]; rfl) (argsL := [(.int p1), (.long ls)]) (rest := []) (lenOf pd_137 rfl) rfl (by show 2 * 0 + _ ≤ _; exact Nat.le_of_eq rfl) (hb hby at_160) (fun _ _ => ⟨rfl, e151, (by decide : 0 + 0 ≤ _), (by decide : 0 + 0 ≤ _)⟩)
          dsimp only [Pt.U, Pt.locs, Pt.cells, Pt.slots] at X152 l152 y152 z152 st152 hQ152
          subst l152 y152 z152
          obtain ⟨rfl, N152q, e152⟩ := hQ152
          have N152 := Fr.app N151 N152q
          have ck153 : ∀ t, Steps p.tables e below (T152.setTop (mkF m 163 #[.val (.int p0), .val (.int p1), .val (.long p2), .second, .val (.int p3), .val (.int vm), .val (.int p1), .val (.long nv), .second, .val (.int lm), .val (.long ls), .second, .val (.long (65535 : Int64)), .second, .val (.long tb), .second] [(own_spec p1.toInt ls.toInt w_NONE w_TINY w_MEDIUM w_LARGE)])) t → Steps p.tables e below (s₁.setTop (entryFrame m #[(.int p0), (.int p1), (.long p2), (.int p3)] maxLocals)) t := by
            intro t kt
            refine ck150 _ ?_
            show Steps p.tables e below (T132.setTop (mkF m 80 #[.val (.int p0), .val (.int p1), .val (.long p2), .second, .val (.int p3), .val (.int vm), .val (.int p1), .val (.long nv), .second, .val (.int lm), .unset, .unset, .unset, .unset, .unset, .unset] [(.int (2 : Int32)), (.int lm)])) _
            refine XS.icmpNo X132.here hx rfl (hb hby at_80) rfl (teq hc80_149).2 ?_
            show Steps p.tables e below (T132.setTop (mkF m 83 #[.val (.int p0), .val (.int p1), .val (.long p2), .second, .val (.int p3), .val (.int vm), .val (.int p1), .val (.long nv), .second, .val (.int lm), .unset, .unset, .unset, .unset, .unset, .unset] [])) _
            refine X132.ldc2Long hx hown (mvT hZ (hw _ (List.mem_of_getElem? (i := 32) rfl))) (g := (mkF m 83 #[.val (.int p0), .val (.int p1), .val (.long p2), .second, .val (.int p3), .val (.int vm), .val (.int p1), .val (.long nv), .second, .val (.int lm), .unset, .unset, .unset, .unset, .unset, .unset] [])) rfl (hb hby at_83) _ ?_
            show Steps p.tables e below (T132.setTop (mkF m 86 #[.val (.int p0), .val (.int p1), .val (.long p2), .second, .val (.int p3), .val (.int vm), .val (.int p1), .val (.long nv), .second, .val (.int lm), .unset, .unset, .unset, .unset, .unset, .unset] [(.long (65535 : Int64))])) _
            refine XS.goto X132.here hx rfl (pc0 := 86) (pc' := 92) rfl (hb hby at_86) (by decide) (by decide) ?_
            show Steps p.tables e below (T132.setTop (mkF m 92 #[.val (.int p0), .val (.int p1), .val (.long p2), .second, .val (.int p3), .val (.int vm), .val (.int p1), .val (.long nv), .second, .val (.int lm), .unset, .unset, .unset, .unset, .unset, .unset] [(.long (65535 : Int64))])) _
            refine XS.lstore X132.here hx rfl (hb hby at_92) rfl (l' := #[.val (.int p0), .val (.int p1), .val (.long p2), .second, .val (.int p3), .val (.int vm), .val (.int p1), .val (.long nv), .second, .val (.int lm), .unset, .unset, .val (.long (65535 : Int64)), .second, .unset, .unset]) rfl ?_
            show Steps p.tables e below (T132.setTop (mkF m 94 #[.val (.int p0), .val (.int p1), .val (.long p2), .second, .val (.int p3), .val (.int vm), .val (.int p1), .val (.long nv), .second, .val (.int lm), .unset, .unset, .val (.long (65535 : Int64)), .second, .unset, .unset] [])) _
            refine XS.iload X132.here hx rfl (hb hby at_94) rfl ?_
            show Steps p.tables e below (T132.setTop (mkF m 96 #[.val (.int p0), .val (.int p1), .val (.long p2), .second, .val (.int p3), .val (.int vm), .val (.int p1), .val (.long nv), .second, .val (.int lm), .unset, .unset, .val (.long (65535 : Int64)), .second, .unset, .unset] [(.int lm)])) _
            refine XS.iconst X132.here hx rfl (hb hby at_96) ?_
            show Steps p.tables e below (T132.setTop (mkF m 97 #[.val (.int p0), .val (.int p1), .val (.long p2), .second, .val (.int p3), .val (.int vm), .val (.int p1), .val (.long nv), .second, .val (.int lm), .unset, .unset, .val (.long (65535 : Int64)), .second, .unset, .unset] [(.int (1 : Int32)), (.int lm)])) _
            refine XS.icmpYes X132.here hx rfl (pc0 := 97) (pc' := 107) rfl (hb hby at_97) rfl (feq hc68_141).2 (by decide) (by decide) ?_
            show Steps p.tables e below (T132.setTop (mkF m 107 #[.val (.int p0), .val (.int p1), .val (.long p2), .second, .val (.int p3), .val (.int vm), .val (.int p1), .val (.long nv), .second, .val (.int lm), .unset, .unset, .val (.long (65535 : Int64)), .second, .unset, .unset] [])) _
            refine XS.iload X132.here hx rfl (hb hby at_107) rfl ?_
            show Steps p.tables e below (T132.setTop (mkF m 109 #[.val (.int p0), .val (.int p1), .val (.long p2), .second, .val (.int p3), .val (.int vm), .val (.int p1), .val (.long nv), .second, .val (.int lm), .unset, .unset, .val (.long (65535 : Int64)), .second, .unset, .unset] [(.int lm)])) _
            refine XS.iconst X132.here hx rfl (hb hby at_109) ?_
            show Steps p.tables e below (T132.setTop (mkF m 110 #[.val (.int p0), .val (.int p1), .val (.long p2), .second, .val (.int p3), .val (.int vm), .val (.int p1), .val (.long nv), .second, .val (.int lm), .unset, .unset, .val (.long (65535 : Int64)), .second, .unset, .unset] [(.int (2 : Int32)), (.int lm)])) _
            refine XS.icmpNo X132.here hx rfl (hb hby at_110) rfl (teq hc80_149).2 ?_
            show Steps p.tables e below (T132.setTop (mkF m 113 #[.val (.int p0), .val (.int p1), .val (.long p2), .second, .val (.int p3), .val (.int vm), .val (.int p1), .val (.long nv), .second, .val (.int lm), .unset, .unset, .val (.long (65535 : Int64)), .second, .unset, .unset] [])) _
            refine X132.ldc2Long hx hown (mvT hZ (hw _ (List.mem_of_getElem? (i := 33) rfl))) (g := (mkF m 113 #[.val (.int p0), .val (.int p1), .val (.long p2), .second, .val (.int p3), .val (.int vm), .val (.int p1), .val (.long nv), .second, .val (.int lm), .unset, .unset, .val (.long (65535 : Int64)), .second, .unset, .unset] [])) rfl (hb hby at_113) _ ?_
            show Steps p.tables e below (T132.setTop (mkF m 116 #[.val (.int p0), .val (.int p1), .val (.long p2), .second, .val (.int p3), .val (.int vm), .val (.int p1), .val (.long nv), .second, .val (.int lm), .unset, .unset, .val (.long (65535 : Int64)), .second, .unset, .unset] [(.long (2 : Int64))])) _
            refine X132.ldc2Long hx hown (mvT hZ (hw _ (List.mem_of_getElem? (i := 33) rfl))) (g := (mkF m 116 #[.val (.int p0), .val (.int p1), .val (.long p2), .second, .val (.int p3), .val (.int vm), .val (.int p1), .val (.long nv), .second, .val (.int lm), .unset, .unset, .val (.long (65535 : Int64)), .second, .unset, .unset] [(.long (2 : Int64))])) rfl (hb hby at_116) _ ?_
            show Steps p.tables e below (T132.setTop (mkF m 119 #[.val (.int p0), .val (.int p1), .val (.long p2), .second, .val (.int p3), .val (.int vm), .val (.int p1), .val (.long nv), .second, .val (.int lm), .unset, .unset, .val (.long (65535 : Int64)), .second, .unset, .unset] [(.long (2 : Int64)), (.long (2 : Int64))])) _
            refine XS.lload X132.here hx rfl (hb hby at_119) rfl ?_
            show Steps p.tables e below (T132.setTop (mkF m 121 #[.val (.int p0), .val (.int p1), .val (.long p2), .second, .val (.int p3), .val (.int vm), .val (.int p1), .val (.long nv), .second, .val (.int lm), .unset, .unset, .val (.long (65535 : Int64)), .second, .unset, .unset] [(.long nv), (.long (2 : Int64)), (.long (2 : Int64))])) _
            refine XS.lmul X132.here hx rfl (hb hby at_121) rfl ?_
            show Steps p.tables e below (T132.setTop (mkF m 122 #[.val (.int p0), .val (.int p1), .val (.long p2), .second, .val (.int p3), .val (.int vm), .val (.int p1), .val (.long nv), .second, .val (.int lm), .unset, .unset, .val (.long (65535 : Int64)), .second, .unset, .unset] [(.long ((2 : Int64) * nv)), (.long (2 : Int64))])) _
            refine XS.ladd X132.here hx rfl (hb hby at_122) rfl ?_
            show Steps p.tables e below (T132.setTop (mkF m 123 #[.val (.int p0), .val (.int p1), .val (.long p2), .second, .val (.int p3), .val (.int vm), .val (.int p1), .val (.long nv), .second, .val (.int lm), .unset, .unset, .val (.long (65535 : Int64)), .second, .unset, .unset] [(.long ((2 : Int64) + ((2 : Int64) * nv)))])) _
            rw [h_tb]
            show Steps p.tables e below (T132.setTop (mkF m 123 #[.val (.int p0), .val (.int p1), .val (.long p2), .second, .val (.int p3), .val (.int vm), .val (.int p1), .val (.long nv), .second, .val (.int lm), .unset, .unset, .val (.long (65535 : Int64)), .second, .unset, .unset] [(.long tb)])) _
            refine XS.goto X132.here hx rfl (pc0 := 123) (pc' := 136) rfl (hb hby at_123) (by decide) (by decide) ?_
            show Steps p.tables e below (T132.setTop (mkF m 136 #[.val (.int p0), .val (.int p1), .val (.long p2), .second, .val (.int p3), .val (.int vm), .val (.int p1), .val (.long nv), .second, .val (.int lm), .unset, .unset, .val (.long (65535 : Int64)), .second, .unset, .unset] [(.long tb)])) _
            refine XS.lstore X132.here hx rfl (hb hby at_136) rfl (l' := #[.val (.int p0), .val (.int p1), .val (.long p2), .second, .val (.int p3), .val (.int vm), .val (.int p1), .val (.long nv), .second, .val (.int lm), .unset, .unset, .val (.long (65535 : Int64)), .second, .val (.long tb), .second]) rfl ?_
            show Steps p.tables e below (T132.setTop (mkF m 138 #[.val (.int p0), .val (.int p1), .val (.long p2), .second, .val (.int p3), .val (.int vm), .val (.int p1), .val (.long nv), .second, .val (.int lm), .unset, .unset, .val (.long (65535 : Int64)), .second, .val (.long tb), .second] [])) _
            refine XS.lconst X132.here hx rfl (hb hby at_138) ?_
            show Steps p.tables e below (T132.setTop (mkF m 139 #[.val (.int p0), .val (.int p1), .val (.long p2), .second, .val (.int p3), .val (.int vm), .val (.int p1), .val (.long nv), .second, .val (.int lm), .unset, .unset, .val (.long (65535 : Int64)), .second, .val (.long tb), .second] [(.long (0 : Int64))])) _
            refine XS.lload X132.here hx rfl (hb hby at_139) rfl ?_
            show Steps p.tables e below (T132.setTop (mkF m 141 #[.val (.int p0), .val (.int p1), .val (.long p2), .second, .val (.int p3), .val (.int vm), .val (.int p1), .val (.long nv), .second, .val (.int lm), .unset, .unset, .val (.long (65535 : Int64)), .second, .val (.long tb), .second] [(.long (65535 : Int64)), (.long (0 : Int64))])) _
            refine XS.lload X132.here hx rfl (hb hby at_141) rfl ?_
            show Steps p.tables e below (T132.setTop (mkF m 143 #[.val (.int p0), .val (.int p1), .val (.long p2), .second, .val (.int p3), .val (.int vm), .val (.int p1), .val (.long nv), .second, .val (.int lm), .unset, .unset, .val (.long (65535 : Int64)), .second, .val (.long tb), .second] [(.long tb), (.long (65535 : Int64)), (.long (0 : Int64))])) _
            refine XS.lsub X132.here hx rfl (hb hby at_143) rfl ?_
            show Steps p.tables e below (T132.setTop (mkF m 144 #[.val (.int p0), .val (.int p1), .val (.long p2), .second, .val (.int p3), .val (.int vm), .val (.int p1), .val (.long nv), .second, .val (.int lm), .unset, .unset, .val (.long (65535 : Int64)), .second, .val (.long tb), .second] [(.long ((65535 : Int64) - tb)), (.long (0 : Int64))])) _
            refine XS.iload X132.here hx rfl (hb hby at_144) rfl ?_
            show Steps p.tables e below (T132.setTop (mkF m 146 #[.val (.int p0), .val (.int p1), .val (.long p2), .second, .val (.int p3), .val (.int vm), .val (.int p1), .val (.long nv), .second, .val (.int lm), .unset, .unset, .val (.long (65535 : Int64)), .second, .val (.long tb), .second] [(.int p3), (.long ((65535 : Int64) - tb)), (.long (0 : Int64))])) _
            refine XS.bipush X132.here hx rfl (hb hby at_146) ?_
            show Steps p.tables e below (T132.setTop (mkF m 148 #[.val (.int p0), .val (.int p1), .val (.long p2), .second, .val (.int p3), .val (.int vm), .val (.int p1), .val (.long nv), .second, .val (.int lm), .unset, .unset, .val (.long (65535 : Int64)), .second, .val (.long tb), .second] [(.int (8 : Int32)), (.int p3), (.long ((65535 : Int64) - tb)), (.long (0 : Int64))])) _
            refine Jvm.RoadKit.iremM (g := (mkF m 148 #[.val (.int p0), .val (.int p1), .val (.long p2), .second, .val (.int p3), .val (.int vm), .val (.int p1), .val (.long nv), .second, .val (.int lm), .unset, .unset, .val (.long (65535 : Int64)), .second, .val (.long tb), .second] [(.int (8 : Int32)), (.int p3), (.long ((65535 : Int64) - tb)), (.long (0 : Int64))])) X132 hx rfl (hb hby at_148) rfl (by decide) ?_
            show Steps p.tables e below (T132.setTop (mkF m 149 #[.val (.int p0), .val (.int p1), .val (.long p2), .second, .val (.int p3), .val (.int vm), .val (.int p1), .val (.long nv), .second, .val (.int lm), .unset, .unset, .val (.long (65535 : Int64)), .second, .val (.long tb), .second] [(.int (p3 % (8 : Int32))), (.long ((65535 : Int64) - tb)), (.long (0 : Int64))])) _
            refine XS.i2l X132.here hx rfl (hb hby at_149) rfl ?_
            show Steps p.tables e below (T132.setTop (mkF m 150 #[.val (.int p0), .val (.int p1), .val (.long p2), .second, .val (.int p3), .val (.int vm), .val (.int p1), .val (.long nv), .second, .val (.int lm), .unset, .unset, .val (.long (65535 : Int64)), .second, .val (.long tb), .second] [(.long ((p3 % (8 : Int32)).toInt64)), (.long ((65535 : Int64) - tb)), (.long (0 : Int64))])) _
            refine XS.ladd X132.here hx rfl (hb hby at_150) rfl ?_
            show Steps p.tables e below (T132.setTop (mkF m 151 #[.val (.int p0), .val (.int p1), .val (.long p2), .second, .val (.int p3), .val (.int vm), .val (.int p1), .val (.long nv), .second, .val (.int lm), .unset, .unset, .val (.long (65535 : Int64)), .second, .val (.long tb), .second] [(.long (((65535 : Int64) - tb) + ((p3 % (8 : Int32)).toInt64))), (.long (0 : Int64))])) _
            rw [h_xx]
            show Steps p.tables e below (T132.setTop (mkF m 151 #[.val (.int p0), .val (.int p1), .val (.long p2), .second, .val (.int p3), .val (.int vm), .val (.int p1), .val (.long nv), .second, .val (.int lm), .unset, .unset, .val (.long (65535 : Int64)), .second, .val (.long tb), .second] [(.long xx), (.long (0 : Int64))])) _
            refine st151 _ ?_
            show Steps p.tables e below (T151.setTop (mkF m 154 #[.val (.int p0), .val (.int p1), .val (.long p2), .second, .val (.int p3), .val (.int vm), .val (.int p1), .val (.long nv), .second, .val (.int lm), .unset, .unset, .val (.long (65535 : Int64)), .second, .val (.long tb), .second] [(.long (if (lcmpW (0 : Int64) xx) < (0 : Int32) then xx else (0 : Int64)))])) _
            rw [h_ls]
            show Steps p.tables e below (T151.setTop (mkF m 154 #[.val (.int p0), .val (.int p1), .val (.long p2), .second, .val (.int p3), .val (.int vm), .val (.int p1), .val (.long nv), .second, .val (.int lm), .unset, .unset, .val (.long (65535 : Int64)), .second, .val (.long tb), .second] [(.long ls)])) _
            refine XS.lstore X151.here hx rfl (hb hby at_154) rfl (l' := #[.val (.int p0), .val (.int p1), .val (.long p2), .second, .val (.int p3), .val (.int vm), .val (.int p1), .val (.long nv), .second, .val (.int lm), .val (.long ls), .second, .val (.long (65535 : Int64)), .second, .val (.long tb), .second]) rfl ?_
            show Steps p.tables e below (T151.setTop (mkF m 156 #[.val (.int p0), .val (.int p1), .val (.long p2), .second, .val (.int p3), .val (.int vm), .val (.int p1), .val (.long nv), .second, .val (.int lm), .val (.long ls), .second, .val (.long (65535 : Int64)), .second, .val (.long tb), .second] [])) _
            refine XS.iload X151.here hx rfl (hb hby at_156) rfl ?_
            show Steps p.tables e below (T151.setTop (mkF m 158 #[.val (.int p0), .val (.int p1), .val (.long p2), .second, .val (.int p3), .val (.int vm), .val (.int p1), .val (.long nv), .second, .val (.int lm), .val (.long ls), .second, .val (.long (65535 : Int64)), .second, .val (.long tb), .second] [(.int p1)])) _
            refine XS.lload X151.here hx rfl (hb hby at_158) rfl ?_
            show Steps p.tables e below (T151.setTop (mkF m 160 #[.val (.int p0), .val (.int p1), .val (.long p2), .second, .val (.int p3), .val (.int vm), .val (.int p1), .val (.long nv), .second, .val (.int lm), .val (.long ls), .second, .val (.long (65535 : Int64)), .second, .val (.long tb), .second] [(.long ls), (.int p1)])) _
            refine st152 _ ?_
            exact kt
          (try clear N152q); (try clear st152); (try clear Lc152); (try clear n152); (try clear k152); (try clear L152); (try clear N151); (try clear e151); (try clear N151q); (try clear st151); (try clear Lc151); (try clear X151); (try clear n151); (try clear k151); (try clear L151); (try clear T151)
          rcases own_spec_two p1.toInt ls.toInt w_NONE w_TINY w_MEDIUM w_LARGE with ⟨wq, hv154⟩ | hv155
          · -- wq
            obtain ⟨_, _, ⟨T156, L156, k156, n156⟩, -, X156, ⟨Lc156, hQ156, l156, y156, z156⟩, st156⟩ := Jvm.LawKit.callS X152 hx (y := (⟨"com/example/rowstrata/rowstrata/row/VarTableSmallestPinLaw", "expected", "(IJ)Lcom/example/rowstrata/rowstrata/row/VarTable;"⟩ : MethodName)) hown (mvT hZ (hw _ (List.mem_of_getElem? (i := 25) rfl))) (mvT hZ (hw _ (List.mem_of_getElem? (i := 26) rfl))) (mvT hZ (hw _ (List.mem_of_getElem? (i := 27) rfl))) (mvT hZ (hw _ (List.mem_of_getElem? (i := 28) rfl))) (by decide) (backOf (W := 1) (rm_exp l Z a0 hw [] p1 ls h0 n0 Z0 w_TINY w_NONE w_MEDIUM w_LARGE hWd hls.1 hls.2) hZ (hw _ (List.mem_of_getElem? (i := 28) rfl)) (hw _ (List.mem_of_getElem? (i := 27) rfl)) (by decide) (by decide)) (g := (mkF m 171 #[.val (.int p0), .val (.int p1), .val (.long p2), .second, .val (.int p3), .val (.int vm), .val (.int p1), .val (.long nv), .second, .val (.int lm), .val (.long ls), .second, .val (.ref wq), .unset, .val (.long tb), .second] [(.long ls), (.int p1), (.ref wq)])) rfl (by rw [hml]; rfl) (argsL := [(.int p1), (.long ls)]) (rest := [(.ref wq)]) (lenOf pd_137 rfl) rfl (by show 2 * 0 + _ ≤ _; exact Nat.le_of_eq rfl) (hb hby at_171) (fun _ _ => ⟨rfl, e152, (by decide : 0 + 0 ≤ _), (by decide : 0 + 0 ≤ _)⟩)
            dsimp only [Pt.U, Pt.locs, Pt.cells, Pt.slots] at X156 l156 y156 z156 st156 hQ156
            subst l156 y156 z156
            obtain ⟨rfl, N156q, e156⟩ := hQ156
            have N156 := Fr.app N152 N156q
            obtain ⟨fs, hr, hrun, hended, hW, hsame⟩ := X156.leave (v := some (.int (1 : Int32))) (fun h => by rw [Bd.returns] at h; cases h)
            refine ⟨_, _, ck153 _ ?_, hrun, hended, _, _, rfl, ?_, ⟨_, rfl⟩, hW, hsame.mono (by decide) (by decide)⟩
            · show Steps p.tables e below (T152.setTop (mkF m 163 #[.val (.int p0), .val (.int p1), .val (.long p2), .second, .val (.int p3), .val (.int vm), .val (.int p1), .val (.long nv), .second, .val (.int lm), .val (.long ls), .second, .val (.long (65535 : Int64)), .second, .val (.long tb), .second] [(own_spec p1.toInt ls.toInt w_NONE w_TINY w_MEDIUM w_LARGE)])) _
              rw [hv154]
              show Steps p.tables e below (T152.setTop (mkF m 163 #[.val (.int p0), .val (.int p1), .val (.long p2), .second, .val (.int p3), .val (.int vm), .val (.int p1), .val (.long nv), .second, .val (.int lm), .val (.long ls), .second, .val (.long (65535 : Int64)), .second, .val (.long tb), .second] [(.ref wq)])) _
              refine XS.astore X152.here hx rfl (hb hby at_163) rfl rfl (l' := #[.val (.int p0), .val (.int p1), .val (.long p2), .second, .val (.int p3), .val (.int vm), .val (.int p1), .val (.long nv), .second, .val (.int lm), .val (.long ls), .second, .val (.ref wq), .unset, .val (.long tb), .second]) rfl ?_
              show Steps p.tables e below (T152.setTop (mkF m 165 #[.val (.int p0), .val (.int p1), .val (.long p2), .second, .val (.int p3), .val (.int vm), .val (.int p1), .val (.long nv), .second, .val (.int lm), .val (.long ls), .second, .val (.ref wq), .unset, .val (.long tb), .second] [])) _
              refine XS.aload X152.here hx rfl (hb hby at_165) rfl rfl ?_
              show Steps p.tables e below (T152.setTop (mkF m 167 #[.val (.int p0), .val (.int p1), .val (.long p2), .second, .val (.int p3), .val (.int vm), .val (.int p1), .val (.long nv), .second, .val (.int lm), .val (.long ls), .second, .val (.ref wq), .unset, .val (.long tb), .second] [(.ref wq)])) _
              refine XS.iload X152.here hx rfl (hb hby at_167) rfl ?_
              show Steps p.tables e below (T152.setTop (mkF m 169 #[.val (.int p0), .val (.int p1), .val (.long p2), .second, .val (.int p3), .val (.int vm), .val (.int p1), .val (.long nv), .second, .val (.int lm), .val (.long ls), .second, .val (.ref wq), .unset, .val (.long tb), .second] [(.int p1), (.ref wq)])) _
              refine XS.lload X152.here hx rfl (hb hby at_169) rfl ?_
              show Steps p.tables e below (T152.setTop (mkF m 171 #[.val (.int p0), .val (.int p1), .val (.long p2), .second, .val (.int p3), .val (.int vm), .val (.int p1), .val (.long nv), .second, .val (.int lm), .val (.long ls), .second, .val (.ref wq), .unset, .val (.long tb), .second] [(.long ls), (.int p1), (.ref wq)])) _
              refine st156 _ ?_
              show Steps p.tables e below (T156.setTop (mkF m 174 #[.val (.int p0), .val (.int p1), .val (.long p2), .second, .val (.int p3), .val (.int vm), .val (.int p1), .val (.long nv), .second, .val (.int lm), .val (.long ls), .second, .val (.ref wq), .unset, .val (.long tb), .second] [(own_spec p1.toInt ls.toInt w_NONE w_TINY w_MEDIUM w_LARGE), (.ref wq)])) _
              rw [hv154]
              show Steps p.tables e below (T156.setTop (mkF m 174 #[.val (.int p0), .val (.int p1), .val (.long p2), .second, .val (.int p3), .val (.int vm), .val (.int p1), .val (.long nv), .second, .val (.int lm), .val (.long ls), .second, .val (.ref wq), .unset, .val (.long tb), .second] [(.ref wq), (.ref wq)])) _
              refine Jvm.RoadKit.acmp (g := (mkF m 174 #[.val (.int p0), .val (.int p1), .val (.long p2), .second, .val (.int p3), .val (.int vm), .val (.int p1), .val (.long nv), .second, .val (.int lm), .val (.long ls), .second, .val (.ref wq), .unset, .val (.long tb), .second] [(.ref wq), (.ref wq)])) X156 hx rfl rfl rfl (pc0 := 174) (pc' := 177) (same := true) rfl (hb hby at_174) rfl (decide_eq_true rfl) (by decide) (by decide) ?_
              show Steps p.tables e below (T156.setTop (mkF m 177 #[.val (.int p0), .val (.int p1), .val (.long p2), .second, .val (.int p3), .val (.int vm), .val (.int p1), .val (.long nv), .second, .val (.int lm), .val (.long ls), .second, .val (.ref wq), .unset, .val (.long tb), .second] [])) _
              refine XS.iconst X156.here hx rfl (hb hby at_177) ?_
              show Steps p.tables e below (T156.setTop (mkF m 178 #[.val (.int p0), .val (.int p1), .val (.long p2), .second, .val (.int p3), .val (.int vm), .val (.int p1), .val (.long nv), .second, .val (.int lm), .val (.long ls), .second, .val (.ref wq), .unset, .val (.long tb), .second] [(.int (1 : Int32))])) _
              refine XS.goto X156.here hx rfl (pc0 := 178) (pc' := 182) rfl (hb hby at_178) (by decide) (by decide) ?_
              show Steps p.tables e below (T156.setTop (mkF m 182 #[.val (.int p0), .val (.int p1), .val (.long p2), .second, .val (.int p3), .val (.int vm), .val (.int p1), .val (.long nv), .second, .val (.int lm), .val (.long ls), .second, .val (.ref wq), .unset, .val (.long tb), .second] [(.int (1 : Int32))])) _
              exact retN X156 hx (t := .boolean) Bd.returns (by simp) (hb hby at_182) hr
            · show own_Pure (some (.int 1)) h0 n0 _ T156.heap _
              rw [e156]
              exact ⟨rfl, N156, rfl⟩
          · -- null
            obtain ⟨_, _, ⟨T157, L157, k157, n157⟩, -, X157, ⟨Lc157, hQ157, l157, y157, z157⟩, st157⟩ := Jvm.LawKit.callS X152 hx (y := (⟨"com/example/rowstrata/rowstrata/row/VarTableSmallestPinLaw", "expected", "(IJ)Lcom/example/rowstrata/rowstrata/row/VarTable;"⟩ : MethodName)) hown (mvT hZ (hw _ (List.mem_of_getElem? (i := 25) rfl))) (mvT hZ (hw _ (List.mem_of_getElem? (i := 26) rfl))) (mvT hZ (hw _ (List.mem_of_getElem? (i := 27) rfl))) (mvT hZ (hw _ (List.mem_of_getElem? (i := 28) rfl))) (by decide) (backOf (W := 1) (rm_exp l Z a0 hw [] p1 ls h0 n0 Z0 w_TINY w_NONE w_MEDIUM w_LARGE hWd hls.1 hls.2) hZ (hw _ (List.mem_of_getElem? (i := 28) rfl)) (hw _ (List.mem_of_getElem? (i := 27) rfl)) (by decide) (by decide)) (g := (mkF m 171 #[.val (.int p0), .val (.int p1), .val (.long p2), .second, .val (.int p3), .val (.int vm), .val (.int p1), .val (.long nv), .second, .val (.int lm), .val (.long ls), .second, .val .null, .unset, .val (.long tb), .second] [(.long ls), (.int p1), .null])) rfl (by rw [hml]; rfl) (argsL := [(.int p1), (.long ls)]) (rest := [.null]) (lenOf pd_137 rfl) rfl (by show 2 * 0 + _ ≤ _; exact Nat.le_of_eq rfl) (hb hby at_171) (fun _ _ => ⟨rfl, e152, (by decide : 0 + 0 ≤ _), (by decide : 0 + 0 ≤ _)⟩)
            dsimp only [Pt.U, Pt.locs, Pt.cells, Pt.slots] at X157 l157 y157 z157 st157 hQ157
            subst l157 y157 z157
            obtain ⟨rfl, N157q, e157⟩ := hQ157
            have N157 := Fr.app N152 N157q
            obtain ⟨fs, hr, hrun, hended, hW, hsame⟩ := X157.leave (v := some (.int (1 : Int32))) (fun h => by rw [Bd.returns] at h; cases h)
            refine ⟨_, _, ck153 _ ?_, hrun, hended, _, _, rfl, ?_, ⟨_, rfl⟩, hW, hsame.mono (by decide) (by decide)⟩
            · show Steps p.tables e below (T152.setTop (mkF m 163 #[.val (.int p0), .val (.int p1), .val (.long p2), .second, .val (.int p3), .val (.int vm), .val (.int p1), .val (.long nv), .second, .val (.int lm), .val (.long ls), .second, .val (.long (65535 : Int64)), .second, .val (.long tb), .second] [(own_spec p1.toInt ls.toInt w_NONE w_TINY w_MEDIUM w_LARGE)])) _
              rw [hv155]
              show Steps p.tables e below (T152.setTop (mkF m 163 #[.val (.int p0), .val (.int p1), .val (.long p2), .second, .val (.int p3), .val (.int vm), .val (.int p1), .val (.long nv), .second, .val (.int lm), .val (.long ls), .second, .val (.long (65535 : Int64)), .second, .val (.long tb), .second] [.null])) _
              refine XS.astore X152.here hx rfl (hb hby at_163) rfl rfl (l' := #[.val (.int p0), .val (.int p1), .val (.long p2), .second, .val (.int p3), .val (.int vm), .val (.int p1), .val (.long nv), .second, .val (.int lm), .val (.long ls), .second, .val .null, .unset, .val (.long tb), .second]) rfl ?_
              show Steps p.tables e below (T152.setTop (mkF m 165 #[.val (.int p0), .val (.int p1), .val (.long p2), .second, .val (.int p3), .val (.int vm), .val (.int p1), .val (.long nv), .second, .val (.int lm), .val (.long ls), .second, .val .null, .unset, .val (.long tb), .second] [])) _
              refine XS.aload X152.here hx rfl (hb hby at_165) rfl rfl ?_
              show Steps p.tables e below (T152.setTop (mkF m 167 #[.val (.int p0), .val (.int p1), .val (.long p2), .second, .val (.int p3), .val (.int vm), .val (.int p1), .val (.long nv), .second, .val (.int lm), .val (.long ls), .second, .val .null, .unset, .val (.long tb), .second] [.null])) _
              refine XS.iload X152.here hx rfl (hb hby at_167) rfl ?_
              show Steps p.tables e below (T152.setTop (mkF m 169 #[.val (.int p0), .val (.int p1), .val (.long p2), .second, .val (.int p3), .val (.int vm), .val (.int p1), .val (.long nv), .second, .val (.int lm), .val (.long ls), .second, .val .null, .unset, .val (.long tb), .second] [(.int p1), .null])) _
              refine XS.lload X152.here hx rfl (hb hby at_169) rfl ?_
              show Steps p.tables e below (T152.setTop (mkF m 171 #[.val (.int p0), .val (.int p1), .val (.long p2), .second, .val (.int p3), .val (.int vm), .val (.int p1), .val (.long nv), .second, .val (.int lm), .val (.long ls), .second, .val .null, .unset, .val (.long tb), .second] [(.long ls), (.int p1), .null])) _
              refine st157 _ ?_
              show Steps p.tables e below (T157.setTop (mkF m 174 #[.val (.int p0), .val (.int p1), .val (.long p2), .second, .val (.int p3), .val (.int vm), .val (.int p1), .val (.long nv), .second, .val (.int lm), .val (.long ls), .second, .val .null, .unset, .val (.long tb), .second] [(own_spec p1.toInt ls.toInt w_NONE w_TINY w_MEDIUM w_LARGE), .null])) _
              rw [hv155]
              show Steps p.tables e below (T157.setTop (mkF m 174 #[.val (.int p0), .val (.int p1), .val (.long p2), .second, .val (.int p3), .val (.int vm), .val (.int p1), .val (.long nv), .second, .val (.int lm), .val (.long ls), .second, .val .null, .unset, .val (.long tb), .second] [.null, .null])) _
              refine Jvm.RoadKit.acmp (g := (mkF m 174 #[.val (.int p0), .val (.int p1), .val (.long p2), .second, .val (.int p3), .val (.int vm), .val (.int p1), .val (.long nv), .second, .val (.int lm), .val (.long ls), .second, .val .null, .unset, .val (.long tb), .second] [.null, .null])) X157 hx rfl rfl rfl (pc0 := 174) (pc' := 177) (same := true) rfl (hb hby at_174) rfl (decide_eq_true rfl) (by decide) (by decide) ?_
              show Steps p.tables e below (T157.setTop (mkF m 177 #[.val (.int p0), .val (.int p1), .val (.long p2), .second, .val (.int p3), .val (.int vm), .val (.int p1), .val (.long nv), .second, .val (.int lm), .val (.long ls), .second, .val .null, .unset, .val (.long tb), .second] [])) _
              refine XS.iconst X157.here hx rfl (hb hby at_177) ?_
              show Steps p.tables e below (T157.setTop (mkF m 178 #[.val (.int p0), .val (.int p1), .val (.long p2), .second, .val (.int p3), .val (.int vm), .val (.int p1), .val (.long nv), .second, .val (.int lm), .val (.long ls), .second, .val .null, .unset, .val (.long tb), .second] [(.int (1 : Int32))])) _
              refine XS.goto X157.here hx rfl (pc0 := 178) (pc' := 182) rfl (hb hby at_178) (by decide) (by decide) ?_
              show Steps p.tables e below (T157.setTop (mkF m 182 #[.val (.int p0), .val (.int p1), .val (.long p2), .second, .val (.int p3), .val (.int vm), .val (.int p1), .val (.long nv), .second, .val (.int lm), .val (.long ls), .second, .val .null, .unset, .val (.long tb), .second] [(.int (1 : Int32))])) _
              exact retN X157 hx (t := .boolean) Bd.returns (by simp) (hb hby at_182) hr
            · show own_Pure (some (.int 1)) h0 n0 _ T157.heap _
              rw [e157]
              exact ⟨rfl, N157, rfl⟩
        · -- pc 80: not lm = (2 : Int32)
          obtain ⟨tb, h_tb⟩ : ∃ z : Int64, ((2 : Int64) + ((4 : Int64) * nv)) = z := ⟨_, rfl⟩
          have htb : 0 ≤ tb.toInt ∧ tb.toInt ≤ 8589934590 := by rw [← h_tb]; exact own_tb135 hnv.1 hnv.2
          obtain ⟨xx, h_xx⟩ : ∃ z : Int64, (((4294967295 : Int64) - tb) + ((p3 % (8 : Int32)).toInt64)) = z := ⟨_, rfl⟩
          have hxx : xx.toInt ≤ 4294967303 := by rw [← h_xx]; exact own_xx (by decide) htb.1 htb.2
          obtain ⟨_, _, ⟨T158, L158, k158, n158⟩, -, X158, ⟨Lc158, hQ158, l158, y158, z158⟩, st158⟩ := Jvm.LawKit.callS X132 hx (y := (⟨"java/lang/Math", "max", "(JJ)J"⟩ : MethodName)) hown (mvT hZ (hw _ (List.mem_of_getElem? (i := 0) rfl))) (mvT hZ (hw _ (List.mem_of_getElem? (i := 1) rfl))) (mvT hZ (hw _ (List.mem_of_getElem? (i := 2) rfl))) (mvT hZ (hw _ (List.mem_of_getElem? (i := 3) rfl))) (by decide) (backOf (W := 0) (rm_max l Z a0 hw [] (0 : Int64) xx h0 n0 Z0 (if (lcmpW (0 : Int64) xx) < (0 : Int32) then xx else (0 : Int64)) rfl) hZ (hw _ (List.mem_of_getElem? (i := 3) rfl)) (hw _ (List.mem_of_getElem? (i := 2) rfl)) (by decide) (by decide)) (g := (mkF m 151 #[.val (.int p0), .val (.int p1), .val (.long p2), .second, .val (.int p3), .val (.int vm), .val (.int p1), .val (.long nv), .second, .val (.int lm), .unset, .unset, .val (.long (4294967295 : Int64)), .second, .val (.long tb), .second] [(.long xx), (.long (0 : Int64))])) rfl (by rw [hml]; rfl) (argsL := [(.long (0 : Int64)), (.long xx)]) (rest := []) (lenOf pd_136 rfl) rfl (by show 2 * 0 + _ ≤ _; exact Nat.le_of_eq rfl) (hb hby at_151) (fun _ _ => ⟨rfl, e132, (by decide : 0 + 0 ≤ _), (by decide : 0 + 0 ≤ _)⟩)
          dsimp only [Pt.U, Pt.locs, Pt.cells, Pt.slots] at X158 l158 y158 z158 st158 hQ158
          subst l158 y158 z158
          obtain ⟨rfl, N158q, e158⟩ := hQ158
          have N158 := Fr.app N132 N158q
          obtain ⟨ls, h_ls⟩ : ∃ z : Int64, (if (lcmpW (0 : Int64) xx) < (0 : Int32) then xx else (0 : Int64)) = z := ⟨_, rfl⟩
          have hls : 0 ≤ ls.toInt ∧ ls.toInt ≤ 4611686018427387904 := by rw [← h_ls]; exact own_mx2 hxx
          obtain ⟨_, _, ⟨T159, L159, k159, n159⟩, -, X159, ⟨Lc159, hQ159, l159, y159, z159⟩, st159⟩ := Jvm.LawKit.callS X158 hx (y := (⟨"com/example/rowstrata/rowstrata/row/VarTable", "smallest", "(IJ)Lcom/example/rowstrata/rowstrata/row/VarTable;"⟩ : MethodName)) hown (mvT hZ (hw _ (List.mem_of_getElem? (i := 4) rfl))) (mvT hZ (hw _ (List.mem_of_getElem? (i := 5) rfl))) (mvT hZ (hw _ (List.mem_of_getElem? (i := 6) rfl))) (mvT hZ (hw _ (List.mem_of_getElem? (i := 7) rfl))) (by decide) (backOf (W := 0) (rm_sm l Z a0 hw [] p1 ls h0 n0 Z0 w_TINY w_NONE w_MEDIUM w_LARGE hWd w_WT kWT S_WT A_WT hls.1 hls.2) hZ (hw _ (List.mem_of_getElem? (i := 7) rfl)) (hw _ (List.mem_of_getElem? (i := 6) rfl)) (by decide) (by decide)) (g := (mkF m 160 #[.val (.int p0), .val (.int p1), .val (.long p2), .second, .val (.int p3), .val (.int vm), .val (.int p1), .val (.long nv), .second, .val (.int lm), .val (.long ls), .second, .val (.long (4294967295 : Int64)), .second, .val (.long tb), .second] [(.long ls), (.int p1)])) rfl (by rw [hml]; rfl) (argsL := [(.int p1), (.long ls)]) (rest := []) (lenOf pd_137 rfl) rfl (by show 2 * 0 + _ ≤ _; exact Nat.le_of_eq rfl) (hb hby at_160) (fun _ _ => ⟨rfl, e158, (by decide : 0 + 0 ≤ _), (by decide : 0 + 0 ≤ _)⟩)
          dsimp only [Pt.U, Pt.locs, Pt.cells, Pt.slots] at X159 l159 y159 z159 st159 hQ159
          subst l159 y159 z159
          obtain ⟨rfl, N159q, e159⟩ := hQ159
          have N159 := Fr.app N158 N159q
          have ck160 : ∀ t, Steps p.tables e below (T159.setTop (mkF m 163 #[.val (.int p0), .val (.int p1), .val (.long p2), .second, .val (.int p3), .val (.int vm), .val (.int p1), .val (.long nv), .second, .val (.int lm), .val (.long ls), .second, .val (.long (4294967295 : Int64)), .second, .val (.long tb), .second] [(own_spec p1.toInt ls.toInt w_NONE w_TINY w_MEDIUM w_LARGE)])) t → Steps p.tables e below (s₁.setTop (entryFrame m #[(.int p0), (.int p1), (.long p2), (.int p3)] maxLocals)) t := by
            intro t kt
            refine ck150 _ ?_
            show Steps p.tables e below (T132.setTop (mkF m 80 #[.val (.int p0), .val (.int p1), .val (.long p2), .second, .val (.int p3), .val (.int vm), .val (.int p1), .val (.long nv), .second, .val (.int lm), .unset, .unset, .unset, .unset, .unset, .unset] [(.int (2 : Int32)), (.int lm)])) _
            refine XS.icmpYes X132.here hx rfl (pc0 := 80) (pc' := 89) rfl (hb hby at_80) rfl (feq hc80_149).2 (by decide) (by decide) ?_
            show Steps p.tables e below (T132.setTop (mkF m 89 #[.val (.int p0), .val (.int p1), .val (.long p2), .second, .val (.int p3), .val (.int vm), .val (.int p1), .val (.long nv), .second, .val (.int lm), .unset, .unset, .unset, .unset, .unset, .unset] [])) _
            refine X132.ldc2Long hx hown (mvT hZ (hw _ (List.mem_of_getElem? (i := 37) rfl))) (g := (mkF m 89 #[.val (.int p0), .val (.int p1), .val (.long p2), .second, .val (.int p3), .val (.int vm), .val (.int p1), .val (.long nv), .second, .val (.int lm), .unset, .unset, .unset, .unset, .unset, .unset] [])) rfl (hb hby at_89) _ ?_
            show Steps p.tables e below (T132.setTop (mkF m 92 #[.val (.int p0), .val (.int p1), .val (.long p2), .second, .val (.int p3), .val (.int vm), .val (.int p1), .val (.long nv), .second, .val (.int lm), .unset, .unset, .unset, .unset, .unset, .unset] [(.long (4294967295 : Int64))])) _
            refine XS.lstore X132.here hx rfl (hb hby at_92) rfl (l' := #[.val (.int p0), .val (.int p1), .val (.long p2), .second, .val (.int p3), .val (.int vm), .val (.int p1), .val (.long nv), .second, .val (.int lm), .unset, .unset, .val (.long (4294967295 : Int64)), .second, .unset, .unset]) rfl ?_
            show Steps p.tables e below (T132.setTop (mkF m 94 #[.val (.int p0), .val (.int p1), .val (.long p2), .second, .val (.int p3), .val (.int vm), .val (.int p1), .val (.long nv), .second, .val (.int lm), .unset, .unset, .val (.long (4294967295 : Int64)), .second, .unset, .unset] [])) _
            refine XS.iload X132.here hx rfl (hb hby at_94) rfl ?_
            show Steps p.tables e below (T132.setTop (mkF m 96 #[.val (.int p0), .val (.int p1), .val (.long p2), .second, .val (.int p3), .val (.int vm), .val (.int p1), .val (.long nv), .second, .val (.int lm), .unset, .unset, .val (.long (4294967295 : Int64)), .second, .unset, .unset] [(.int lm)])) _
            refine XS.iconst X132.here hx rfl (hb hby at_96) ?_
            show Steps p.tables e below (T132.setTop (mkF m 97 #[.val (.int p0), .val (.int p1), .val (.long p2), .second, .val (.int p3), .val (.int vm), .val (.int p1), .val (.long nv), .second, .val (.int lm), .unset, .unset, .val (.long (4294967295 : Int64)), .second, .unset, .unset] [(.int (1 : Int32)), (.int lm)])) _
            refine XS.icmpYes X132.here hx rfl (pc0 := 97) (pc' := 107) rfl (hb hby at_97) rfl (feq hc68_141).2 (by decide) (by decide) ?_
            show Steps p.tables e below (T132.setTop (mkF m 107 #[.val (.int p0), .val (.int p1), .val (.long p2), .second, .val (.int p3), .val (.int vm), .val (.int p1), .val (.long nv), .second, .val (.int lm), .unset, .unset, .val (.long (4294967295 : Int64)), .second, .unset, .unset] [])) _
            refine XS.iload X132.here hx rfl (hb hby at_107) rfl ?_
            show Steps p.tables e below (T132.setTop (mkF m 109 #[.val (.int p0), .val (.int p1), .val (.long p2), .second, .val (.int p3), .val (.int vm), .val (.int p1), .val (.long nv), .second, .val (.int lm), .unset, .unset, .val (.long (4294967295 : Int64)), .second, .unset, .unset] [(.int lm)])) _
            refine XS.iconst X132.here hx rfl (hb hby at_109) ?_
            show Steps p.tables e below (T132.setTop (mkF m 110 #[.val (.int p0), .val (.int p1), .val (.long p2), .second, .val (.int p3), .val (.int vm), .val (.int p1), .val (.long nv), .second, .val (.int lm), .unset, .unset, .val (.long (4294967295 : Int64)), .second, .unset, .unset] [(.int (2 : Int32)), (.int lm)])) _
            refine XS.icmpYes X132.here hx rfl (pc0 := 110) (pc' := 126) rfl (hb hby at_110) rfl (feq hc80_149).2 (by decide) (by decide) ?_
            show Steps p.tables e below (T132.setTop (mkF m 126 #[.val (.int p0), .val (.int p1), .val (.long p2), .second, .val (.int p3), .val (.int vm), .val (.int p1), .val (.long nv), .second, .val (.int lm), .unset, .unset, .val (.long (4294967295 : Int64)), .second, .unset, .unset] [])) _
            refine X132.ldc2Long hx hown (mvT hZ (hw _ (List.mem_of_getElem? (i := 33) rfl))) (g := (mkF m 126 #[.val (.int p0), .val (.int p1), .val (.long p2), .second, .val (.int p3), .val (.int vm), .val (.int p1), .val (.long nv), .second, .val (.int lm), .unset, .unset, .val (.long (4294967295 : Int64)), .second, .unset, .unset] [])) rfl (hb hby at_126) _ ?_
            show Steps p.tables e below (T132.setTop (mkF m 129 #[.val (.int p0), .val (.int p1), .val (.long p2), .second, .val (.int p3), .val (.int vm), .val (.int p1), .val (.long nv), .second, .val (.int lm), .unset, .unset, .val (.long (4294967295 : Int64)), .second, .unset, .unset] [(.long (2 : Int64))])) _
            refine X132.ldc2Long hx hown (mvT hZ (hw _ (List.mem_of_getElem? (i := 36) rfl))) (g := (mkF m 129 #[.val (.int p0), .val (.int p1), .val (.long p2), .second, .val (.int p3), .val (.int vm), .val (.int p1), .val (.long nv), .second, .val (.int lm), .unset, .unset, .val (.long (4294967295 : Int64)), .second, .unset, .unset] [(.long (2 : Int64))])) rfl (hb hby at_129) _ ?_
            show Steps p.tables e below (T132.setTop (mkF m 132 #[.val (.int p0), .val (.int p1), .val (.long p2), .second, .val (.int p3), .val (.int vm), .val (.int p1), .val (.long nv), .second, .val (.int lm), .unset, .unset, .val (.long (4294967295 : Int64)), .second, .unset, .unset] [(.long (4 : Int64)), (.long (2 : Int64))])) _
            refine XS.lload X132.here hx rfl (hb hby at_132) rfl ?_
            show Steps p.tables e below (T132.setTop (mkF m 134 #[.val (.int p0), .val (.int p1), .val (.long p2), .second, .val (.int p3), .val (.int vm), .val (.int p1), .val (.long nv), .second, .val (.int lm), .unset, .unset, .val (.long (4294967295 : Int64)), .second, .unset, .unset] [(.long nv), (.long (4 : Int64)), (.long (2 : Int64))])) _
            refine XS.lmul X132.here hx rfl (hb hby at_134) rfl ?_
            show Steps p.tables e below (T132.setTop (mkF m 135 #[.val (.int p0), .val (.int p1), .val (.long p2), .second, .val (.int p3), .val (.int vm), .val (.int p1), .val (.long nv), .second, .val (.int lm), .unset, .unset, .val (.long (4294967295 : Int64)), .second, .unset, .unset] [(.long ((4 : Int64) * nv)), (.long (2 : Int64))])) _
            refine XS.ladd X132.here hx rfl (hb hby at_135) rfl ?_
            show Steps p.tables e below (T132.setTop (mkF m 136 #[.val (.int p0), .val (.int p1), .val (.long p2), .second, .val (.int p3), .val (.int vm), .val (.int p1), .val (.long nv), .second, .val (.int lm), .unset, .unset, .val (.long (4294967295 : Int64)), .second, .unset, .unset] [(.long ((2 : Int64) + ((4 : Int64) * nv)))])) _
            rw [h_tb]
            show Steps p.tables e below (T132.setTop (mkF m 136 #[.val (.int p0), .val (.int p1), .val (.long p2), .second, .val (.int p3), .val (.int vm), .val (.int p1), .val (.long nv), .second, .val (.int lm), .unset, .unset, .val (.long (4294967295 : Int64)), .second, .unset, .unset] [(.long tb)])) _
            refine XS.lstore X132.here hx rfl (hb hby at_136) rfl (l' := #[.val (.int p0), .val (.int p1), .val (.long p2), .second, .val (.int p3), .val (.int vm), .val (.int p1), .val (.long nv), .second, .val (.int lm), .unset, .unset, .val (.long (4294967295 : Int64)), .second, .val (.long tb), .second]) rfl ?_
            show Steps p.tables e below (T132.setTop (mkF m 138 #[.val (.int p0), .val (.int p1), .val (.long p2), .second, .val (.int p3), .val (.int vm), .val (.int p1), .val (.long nv), .second, .val (.int lm), .unset, .unset, .val (.long (4294967295 : Int64)), .second, .val (.long tb), .second] [])) _
            refine XS.lconst X132.here hx rfl (hb hby at_138) ?_
            show Steps p.tables e below (T132.setTop (mkF m 139 #[.val (.int p0), .val (.int p1), .val (.long p2), .second, .val (.int p3), .val (.int vm), .val (.int p1), .val (.long nv), .second, .val (.int lm), .unset, .unset, .val (.long (4294967295 : Int64)), .second, .val (.long tb), .second] [(.long (0 : Int64))])) _
            refine XS.lload X132.here hx rfl (hb hby at_139) rfl ?_
            show Steps p.tables e below (T132.setTop (mkF m 141 #[.val (.int p0), .val (.int p1), .val (.long p2), .second, .val (.int p3), .val (.int vm), .val (.int p1), .val (.long nv), .second, .val (.int lm), .unset, .unset, .val (.long (4294967295 : Int64)), .second, .val (.long tb), .second] [(.long (4294967295 : Int64)), (.long (0 : Int64))])) _
            refine XS.lload X132.here hx rfl (hb hby at_141) rfl ?_
            show Steps p.tables e below (T132.setTop (mkF m 143 #[.val (.int p0), .val (.int p1), .val (.long p2), .second, .val (.int p3), .val (.int vm), .val (.int p1), .val (.long nv), .second, .val (.int lm), .unset, .unset, .val (.long (4294967295 : Int64)), .second, .val (.long tb), .second] [(.long tb), (.long (4294967295 : Int64)), (.long (0 : Int64))])) _
            refine XS.lsub X132.here hx rfl (hb hby at_143) rfl ?_
            show Steps p.tables e below (T132.setTop (mkF m 144 #[.val (.int p0), .val (.int p1), .val (.long p2), .second, .val (.int p3), .val (.int vm), .val (.int p1), .val (.long nv), .second, .val (.int lm), .unset, .unset, .val (.long (4294967295 : Int64)), .second, .val (.long tb), .second] [(.long ((4294967295 : Int64) - tb)), (.long (0 : Int64))])) _
            refine XS.iload X132.here hx rfl (hb hby at_144) rfl ?_
            show Steps p.tables e below (T132.setTop (mkF m 146 #[.val (.int p0), .val (.int p1), .val (.long p2), .second, .val (.int p3), .val (.int vm), .val (.int p1), .val (.long nv), .second, .val (.int lm), .unset, .unset, .val (.long (4294967295 : Int64)), .second, .val (.long tb), .second] [(.int p3), (.long ((4294967295 : Int64) - tb)), (.long (0 : Int64))])) _
            refine XS.bipush X132.here hx rfl (hb hby at_146) ?_
            show Steps p.tables e below (T132.setTop (mkF m 148 #[.val (.int p0), .val (.int p1), .val (.long p2), .second, .val (.int p3), .val (.int vm), .val (.int p1), .val (.long nv), .second, .val (.int lm), .unset, .unset, .val (.long (4294967295 : Int64)), .second, .val (.long tb), .second] [(.int (8 : Int32)), (.int p3), (.long ((4294967295 : Int64) - tb)), (.long (0 : Int64))])) _
            refine Jvm.RoadKit.iremM (g := (mkF m 148 #[.val (.int p0), .val (.int p1), .val (.long p2), .second, .val (.int p3), .val (.int vm), .val (.int p1), .val (.long nv), .second, .val (.int lm), .unset, .unset, .val (.long (4294967295 : Int64)), .second, .val (.long tb), .second] [(.int (8 : Int32)), (.int p3), (.long ((4294967295 : Int64) - tb)), (.long (0 : Int64))])) X132 hx rfl (hb hby at_148) rfl (by decide) ?_
            show Steps p.tables e below (T132.setTop (mkF m 149 #[.val (.int p0), .val (.int p1), .val (.long p2), .second, .val (.int p3), .val (.int vm), .val (.int p1), .val (.long nv), .second, .val (.int lm), .unset, .unset, .val (.long (4294967295 : Int64)), .second, .val (.long tb), .second] [(.int (p3 % (8 : Int32))), (.long ((4294967295 : Int64) - tb)), (.long (0 : Int64))])) _
            refine XS.i2l X132.here hx rfl (hb hby at_149) rfl ?_
            show Steps p.tables e below (T132.setTop (mkF m 150 #[.val (.int p0), .val (.int p1), .val (.long p2), .second, .val (.int p3), .val (.int vm), .val (.int p1), .val (.long nv), .second, .val (.int lm), .unset, .unset, .val (.long (4294967295 : Int64)), .second, .val (.long tb), .second] [(.long ((p3 % (8 : Int32)).toInt64)), (.long ((4294967295 : Int64) - tb)), (.long (0 : Int64))])) _
            refine XS.ladd X132.here hx rfl (hb hby at_150) rfl ?_
            show Steps p.tables e below (T132.setTop (mkF m 151 #[.val (.int p0), .val (.int p1), .val (.long p2), .second, .val (.int p3), .val (.int vm), .val (.int p1), .val (.long nv), .second, .val (.int lm), .unset, .unset, .val (.long (4294967295 : Int64)), .second, .val (.long tb), .second] [(.long (((4294967295 : Int64) - tb) + ((p3 % (8 : Int32)).toInt64))), (.long (0 : Int64))])) _
            rw [h_xx]
            show Steps p.tables e below (T132.setTop (mkF m 151 #[.val (.int p0), .val (.int p1), .val (.long p2), .second, .val (.int p3), .val (.int vm), .val (.int p1), .val (.long nv), .second, .val (.int lm), .unset, .unset, .val (.long (4294967295 : Int64)), .second, .val (.long tb), .second] [(.long xx), (.long (0 : Int64))])) _
            refine st158 _ ?_
            show Steps p.tables e below (T158.setTop (mkF m 154 #[.val (.int p0), .val (.int p1), .val (.long p2), .second, .val (.int p3), .val (.int vm), .val (.int p1), .val (.long nv), .second, .val (.int lm), .unset, .unset, .val (.long (4294967295 : Int64)), .second, .val (.long tb), .second] [(.long (if (lcmpW (0 : Int64) xx) < (0 : Int32) then xx else (0 : Int64)))])) _
            rw [h_ls]
            show Steps p.tables e below (T158.setTop (mkF m 154 #[.val (.int p0), .val (.int p1), .val (.long p2), .second, .val (.int p3), .val (.int vm), .val (.int p1), .val (.long nv), .second, .val (.int lm), .unset, .unset, .val (.long (4294967295 : Int64)), .second, .val (.long tb), .second] [(.long ls)])) _
            refine XS.lstore X158.here hx rfl (hb hby at_154) rfl (l' := #[.val (.int p0), .val (.int p1), .val (.long p2), .second, .val (.int p3), .val (.int vm), .val (.int p1), .val (.long nv), .second, .val (.int lm), .val (.long ls), .second, .val (.long (4294967295 : Int64)), .second, .val (.long tb), .second]) rfl ?_
            show Steps p.tables e below (T158.setTop (mkF m 156 #[.val (.int p0), .val (.int p1), .val (.long p2), .second, .val (.int p3), .val (.int vm), .val (.int p1), .val (.long nv), .second, .val (.int lm), .val (.long ls), .second, .val (.long (4294967295 : Int64)), .second, .val (.long tb), .second] [])) _
            refine XS.iload X158.here hx rfl (hb hby at_156) rfl ?_
            show Steps p.tables e below (T158.setTop (mkF m 158 #[.val (.int p0), .val (.int p1), .val (.long p2), .second, .val (.int p3), .val (.int vm), .val (.int p1), .val (.long nv), .second, .val (.int lm), .val (.long ls), .second, .val (.long (4294967295 : Int64)), .second, .val (.long tb), .second] [(.int p1)])) _
            refine XS.lload X158.here hx rfl (hb hby at_158) rfl ?_
            show Steps p.tables e below (T158.setTop (mkF m 160 #[.val (.int p0), .val (.int p1), .val (.long p2), .second, .val (.int p3), .val (.int vm), .val (.int p1), .val (.long nv), .second, .val (.int lm), .val (.long ls), .second, .val (.long (4294967295 : Int64)), .second, .val (.long tb), .second] [(.long ls), (.int p1)])) _
            refine st159 _ ?_
            exact kt
          (try clear N159q); (try clear st159); (try clear Lc159); (try clear n159); (try clear k159); (try clear L159); (try clear N158); (try clear e158); (try clear N158q); (try clear st158); (try clear Lc158); (try clear X158); (try clear n158); (try clear k158); (try clear L158); (try clear T158)
          rcases own_spec_two p1.toInt ls.toInt w_NONE w_TINY w_MEDIUM w_LARGE with ⟨wq, hv161⟩ | hv162
          · -- wq
            obtain ⟨_, _, ⟨T163, L163, k163, n163⟩, -, X163, ⟨Lc163, hQ163, l163, y163, z163⟩, st163⟩ := Jvm.LawKit.callS X159 hx (y := (⟨"com/example/rowstrata/rowstrata/row/VarTableSmallestPinLaw", "expected", "(IJ)Lcom/example/rowstrata/rowstrata/row/VarTable;"⟩ : MethodName)) hown (mvT hZ (hw _ (List.mem_of_getElem? (i := 25) rfl))) (mvT hZ (hw _ (List.mem_of_getElem? (i := 26) rfl))) (mvT hZ (hw _ (List.mem_of_getElem? (i := 27) rfl))) (mvT hZ (hw _ (List.mem_of_getElem? (i := 28) rfl))) (by decide) (backOf (W := 1) (rm_exp l Z a0 hw [] p1 ls h0 n0 Z0 w_TINY w_NONE w_MEDIUM w_LARGE hWd hls.1 hls.2) hZ (hw _ (List.mem_of_getElem? (i := 28) rfl)) (hw _ (List.mem_of_getElem? (i := 27) rfl)) (by decide) (by decide)) (g := (mkF m 171 #[.val (.int p0), .val (.int p1), .val (.long p2), .second, .val (.int p3), .val (.int vm), .val (.int p1), .val (.long nv), .second, .val (.int lm), .val (.long ls), .second, .val (.ref wq), .unset, .val (.long tb), .second] [(.long ls), (.int p1), (.ref wq)])) rfl (by rw [hml]; rfl) (argsL := [(.int p1), (.long ls)]) (rest := [(.ref wq)]) (lenOf pd_137 rfl) rfl (by show 2 * 0 + _ ≤ _; exact Nat.le_of_eq rfl) (hb hby at_171) (fun _ _ => ⟨rfl, e159, (by decide : 0 + 0 ≤ _), (by decide : 0 + 0 ≤ _)⟩)
            dsimp only [Pt.U, Pt.locs, Pt.cells, Pt.slots] at X163 l163 y163 z163 st163 hQ163
            subst l163 y163 z163
            obtain ⟨rfl, N163q, e163⟩ := hQ163
            have N163 := Fr.app N159 N163q
            obtain ⟨fs, hr, hrun, hended, hW, hsame⟩ := X163.leave (v := some (.int (1 : Int32))) (fun h => by rw [Bd.returns] at h; cases h)
            refine ⟨_, _, ck160 _ ?_, hrun, hended, _, _, rfl, ?_, ⟨_, rfl⟩, hW, hsame.mono (by decide) (by decide)⟩
            · show Steps p.tables e below (T159.setTop (mkF m 163 #[.val (.int p0), .val (.int p1), .val (.long p2), .second, .val (.int p3), .val (.int vm), .val (.int p1), .val (.long nv), .second, .val (.int lm), .val (.long ls), .second, .val (.long (4294967295 : Int64)), .second, .val (.long tb), .second] [(own_spec p1.toInt ls.toInt w_NONE w_TINY w_MEDIUM w_LARGE)])) _
              rw [hv161]
              show Steps p.tables e below (T159.setTop (mkF m 163 #[.val (.int p0), .val (.int p1), .val (.long p2), .second, .val (.int p3), .val (.int vm), .val (.int p1), .val (.long nv), .second, .val (.int lm), .val (.long ls), .second, .val (.long (4294967295 : Int64)), .second, .val (.long tb), .second] [(.ref wq)])) _
              refine XS.astore X159.here hx rfl (hb hby at_163) rfl rfl (l' := #[.val (.int p0), .val (.int p1), .val (.long p2), .second, .val (.int p3), .val (.int vm), .val (.int p1), .val (.long nv), .second, .val (.int lm), .val (.long ls), .second, .val (.ref wq), .unset, .val (.long tb), .second]) rfl ?_
              show Steps p.tables e below (T159.setTop (mkF m 165 #[.val (.int p0), .val (.int p1), .val (.long p2), .second, .val (.int p3), .val (.int vm), .val (.int p1), .val (.long nv), .second, .val (.int lm), .val (.long ls), .second, .val (.ref wq), .unset, .val (.long tb), .second] [])) _
              refine XS.aload X159.here hx rfl (hb hby at_165) rfl rfl ?_
              show Steps p.tables e below (T159.setTop (mkF m 167 #[.val (.int p0), .val (.int p1), .val (.long p2), .second, .val (.int p3), .val (.int vm), .val (.int p1), .val (.long nv), .second, .val (.int lm), .val (.long ls), .second, .val (.ref wq), .unset, .val (.long tb), .second] [(.ref wq)])) _
              refine XS.iload X159.here hx rfl (hb hby at_167) rfl ?_
              show Steps p.tables e below (T159.setTop (mkF m 169 #[.val (.int p0), .val (.int p1), .val (.long p2), .second, .val (.int p3), .val (.int vm), .val (.int p1), .val (.long nv), .second, .val (.int lm), .val (.long ls), .second, .val (.ref wq), .unset, .val (.long tb), .second] [(.int p1), (.ref wq)])) _
              refine XS.lload X159.here hx rfl (hb hby at_169) rfl ?_
              show Steps p.tables e below (T159.setTop (mkF m 171 #[.val (.int p0), .val (.int p1), .val (.long p2), .second, .val (.int p3), .val (.int vm), .val (.int p1), .val (.long nv), .second, .val (.int lm), .val (.long ls), .second, .val (.ref wq), .unset, .val (.long tb), .second] [(.long ls), (.int p1), (.ref wq)])) _
              refine st163 _ ?_
              show Steps p.tables e below (T163.setTop (mkF m 174 #[.val (.int p0), .val (.int p1), .val (.long p2), .second, .val (.int p3), .val (.int vm), .val (.int p1), .val (.long nv), .second, .val (.int lm), .val (.long ls), .second, .val (.ref wq), .unset, .val (.long tb), .second] [(own_spec p1.toInt ls.toInt w_NONE w_TINY w_MEDIUM w_LARGE), (.ref wq)])) _
              rw [hv161]
              show Steps p.tables e below (T163.setTop (mkF m 174 #[.val (.int p0), .val (.int p1), .val (.long p2), .second, .val (.int p3), .val (.int vm), .val (.int p1), .val (.long nv), .second, .val (.int lm), .val (.long ls), .second, .val (.ref wq), .unset, .val (.long tb), .second] [(.ref wq), (.ref wq)])) _
              refine Jvm.RoadKit.acmp (g := (mkF m 174 #[.val (.int p0), .val (.int p1), .val (.long p2), .second, .val (.int p3), .val (.int vm), .val (.int p1), .val (.long nv), .second, .val (.int lm), .val (.long ls), .second, .val (.ref wq), .unset, .val (.long tb), .second] [(.ref wq), (.ref wq)])) X163 hx rfl rfl rfl (pc0 := 174) (pc' := 177) (same := true) rfl (hb hby at_174) rfl (decide_eq_true rfl) (by decide) (by decide) ?_
              show Steps p.tables e below (T163.setTop (mkF m 177 #[.val (.int p0), .val (.int p1), .val (.long p2), .second, .val (.int p3), .val (.int vm), .val (.int p1), .val (.long nv), .second, .val (.int lm), .val (.long ls), .second, .val (.ref wq), .unset, .val (.long tb), .second] [])) _
              refine XS.iconst X163.here hx rfl (hb hby at_177) ?_
              show Steps p.tables e below (T163.setTop (mkF m 178 #[.val (.int p0), .val (.int p1), .val (.long p2), .second, .val (.int p3), .val (.int vm), .val (.int p1), .val (.long nv), .second, .val (.int lm), .val (.long ls), .second, .val (.ref wq), .unset, .val (.long tb), .second] [(.int (1 : Int32))])) _
              refine XS.goto X163.here hx rfl (pc0 := 178) (pc' := 182) rfl (hb hby at_178) (by decide) (by decide) ?_
              show Steps p.tables e below (T163.setTop (mkF m 182 #[.val (.int p0), .val (.int p1), .val (.long p2), .second, .val (.int p3), .val (.int vm), .val (.int p1), .val (.long nv), .second, .val (.int lm), .val (.long ls), .second, .val (.ref wq), .unset, .val (.long tb), .second] [(.int (1 : Int32))])) _
              exact retN X163 hx (t := .boolean) Bd.returns (by simp) (hb hby at_182) hr
            · show own_Pure (some (.int 1)) h0 n0 _ T163.heap _
              rw [e163]
              exact ⟨rfl, N163, rfl⟩
          · -- null
            obtain ⟨_, _, ⟨T164, L164, k164, n164⟩, -, X164, ⟨Lc164, hQ164, l164, y164, z164⟩, st164⟩ := Jvm.LawKit.callS X159 hx (y := (⟨"com/example/rowstrata/rowstrata/row/VarTableSmallestPinLaw", "expected", "(IJ)Lcom/example/rowstrata/rowstrata/row/VarTable;"⟩ : MethodName)) hown (mvT hZ (hw _ (List.mem_of_getElem? (i := 25) rfl))) (mvT hZ (hw _ (List.mem_of_getElem? (i := 26) rfl))) (mvT hZ (hw _ (List.mem_of_getElem? (i := 27) rfl))) (mvT hZ (hw _ (List.mem_of_getElem? (i := 28) rfl))) (by decide) (backOf (W := 1) (rm_exp l Z a0 hw [] p1 ls h0 n0 Z0 w_TINY w_NONE w_MEDIUM w_LARGE hWd hls.1 hls.2) hZ (hw _ (List.mem_of_getElem? (i := 28) rfl)) (hw _ (List.mem_of_getElem? (i := 27) rfl)) (by decide) (by decide)) (g := (mkF m 171 #[.val (.int p0), .val (.int p1), .val (.long p2), .second, .val (.int p3), .val (.int vm), .val (.int p1), .val (.long nv), .second, .val (.int lm), .val (.long ls), .second, .val .null, .unset, .val (.long tb), .second] [(.long ls), (.int p1), .null])) rfl (by rw [hml]; rfl) (argsL := [(.int p1), (.long ls)]) (rest := [.null]) (lenOf pd_137 rfl) rfl (by show 2 * 0 + _ ≤ _; exact Nat.le_of_eq rfl) (hb hby at_171) (fun _ _ => ⟨rfl, e159, (by decide : 0 + 0 ≤ _), (by decide : 0 + 0 ≤ _)⟩)
            dsimp only [Pt.U, Pt.locs, Pt.cells, Pt.slots] at X164 l164 y164 z164 st164 hQ164
            subst l164 y164 z164
            obtain ⟨rfl, N164q, e164⟩ := hQ164
            have N164 := Fr.app N159 N164q
            obtain ⟨fs, hr, hrun, hended, hW, hsame⟩ := X164.leave (v := some (.int (1 : Int32))) (fun h => by rw [Bd.returns] at h; cases h)
            refine ⟨_, _, ck160 _ ?_, hrun, hended, _, _, rfl, ?_, ⟨_, rfl⟩, hW, hsame.mono (by decide) (by decide)⟩
            · show Steps p.tables e below (T159.setTop (mkF m 163 #[.val (.int p0), .val (.int p1), .val (.long p2), .second, .val (.int p3), .val (.int vm), .val (.int p1), .val (.long nv), .second, .val (.int lm), .val (.long ls), .second, .val (.long (4294967295 : Int64)), .second, .val (.long tb), .second] [(own_spec p1.toInt ls.toInt w_NONE w_TINY w_MEDIUM w_LARGE)])) _
              rw [hv162]
              show Steps p.tables e below (T159.setTop (mkF m 163 #[.val (.int p0), .val (.int p1), .val (.long p2), .second, .val (.int p3), .val (.int vm), .val (.int p1), .val (.long nv), .second, .val (.int lm), .val (.long ls), .second, .val (.long (4294967295 : Int64)), .second, .val (.long tb), .second] [.null])) _
              refine XS.astore X159.here hx rfl (hb hby at_163) rfl rfl (l' := #[.val (.int p0), .val (.int p1), .val (.long p2), .second, .val (.int p3), .val (.int vm), .val (.int p1), .val (.long nv), .second, .val (.int lm), .val (.long ls), .second, .val .null, .unset, .val (.long tb), .second]) rfl ?_
              show Steps p.tables e below (T159.setTop (mkF m 165 #[.val (.int p0), .val (.int p1), .val (.long p2), .second, .val (.int p3), .val (.int vm), .val (.int p1), .val (.long nv), .second, .val (.int lm), .val (.long ls), .second, .val .null, .unset, .val (.long tb), .second] [])) _
              refine XS.aload X159.here hx rfl (hb hby at_165) rfl rfl ?_
              show Steps p.tables e below (T159.setTop (mkF m 167 #[.val (.int p0), .val (.int p1), .val (.long p2), .second, .val (.int p3), .val (.int vm), .val (.int p1), .val (.long nv), .second, .val (.int lm), .val (.long ls), .second, .val .null, .unset, .val (.long tb), .second] [.null])) _
              refine XS.iload X159.here hx rfl (hb hby at_167) rfl ?_
              show Steps p.tables e below (T159.setTop (mkF m 169 #[.val (.int p0), .val (.int p1), .val (.long p2), .second, .val (.int p3), .val (.int vm), .val (.int p1), .val (.long nv), .second, .val (.int lm), .val (.long ls), .second, .val .null, .unset, .val (.long tb), .second] [(.int p1), .null])) _
              refine XS.lload X159.here hx rfl (hb hby at_169) rfl ?_
              show Steps p.tables e below (T159.setTop (mkF m 171 #[.val (.int p0), .val (.int p1), .val (.long p2), .second, .val (.int p3), .val (.int vm), .val (.int p1), .val (.long nv), .second, .val (.int lm), .val (.long ls), .second, .val .null, .unset, .val (.long tb), .second] [(.long ls), (.int p1), .null])) _
              refine st164 _ ?_
              show Steps p.tables e below (T164.setTop (mkF m 174 #[.val (.int p0), .val (.int p1), .val (.long p2), .second, .val (.int p3), .val (.int vm), .val (.int p1), .val (.long nv), .second, .val (.int lm), .val (.long ls), .second, .val .null, .unset, .val (.long tb), .second] [(own_spec p1.toInt ls.toInt w_NONE w_TINY w_MEDIUM w_LARGE), .null])) _
              rw [hv162]
              show Steps p.tables e below (T164.setTop (mkF m 174 #[.val (.int p0), .val (.int p1), .val (.long p2), .second, .val (.int p3), .val (.int vm), .val (.int p1), .val (.long nv), .second, .val (.int lm), .val (.long ls), .second, .val .null, .unset, .val (.long tb), .second] [.null, .null])) _
              refine Jvm.RoadKit.acmp (g := (mkF m 174 #[.val (.int p0), .val (.int p1), .val (.long p2), .second, .val (.int p3), .val (.int vm), .val (.int p1), .val (.long nv), .second, .val (.int lm), .val (.long ls), .second, .val .null, .unset, .val (.long tb), .second] [.null, .null])) X164 hx rfl rfl rfl (pc0 := 174) (pc' := 177) (same := true) rfl (hb hby at_174) rfl (decide_eq_true rfl) (by decide) (by decide) ?_
              show Steps p.tables e below (T164.setTop (mkF m 177 #[.val (.int p0), .val (.int p1), .val (.long p2), .second, .val (.int p3), .val (.int vm), .val (.int p1), .val (.long nv), .second, .val (.int lm), .val (.long ls), .second, .val .null, .unset, .val (.long tb), .second] [])) _
              refine XS.iconst X164.here hx rfl (hb hby at_177) ?_
              show Steps p.tables e below (T164.setTop (mkF m 178 #[.val (.int p0), .val (.int p1), .val (.long p2), .second, .val (.int p3), .val (.int vm), .val (.int p1), .val (.long nv), .second, .val (.int lm), .val (.long ls), .second, .val .null, .unset, .val (.long tb), .second] [(.int (1 : Int32))])) _
              refine XS.goto X164.here hx rfl (pc0 := 178) (pc' := 182) rfl (hb hby at_178) (by decide) (by decide) ?_
              show Steps p.tables e below (T164.setTop (mkF m 182 #[.val (.int p0), .val (.int p1), .val (.long p2), .second, .val (.int p3), .val (.int vm), .val (.int p1), .val (.long nv), .second, .val (.int lm), .val (.long ls), .second, .val .null, .unset, .val (.long tb), .second] [(.int (1 : Int32))])) _
              exact retN X164 hx (t := .boolean) Bd.returns (by simp) (hb hby at_182) hr
            · show own_Pure (some (.int 1)) h0 n0 _ T164.heap _
              rw [e164]
              exact ⟨rfl, N164, rfl⟩
  · -- pc 7: not vm = (0 : Int32)
    by_cases hc17_165 : vm = (1 : Int32)
    · -- pc 17: vm = (1 : Int32)
      obtain ⟨vv, h_vv⟩ : ∃ z : Int32, (p1 &&& (511 : Int32)) = z := ⟨_, rfl⟩
      obtain ⟨v1, h_v1⟩ : ∃ z : Int64, ((vv.toInt64) - (1 : Int64)) = z := ⟨_, rfl⟩
      have hv1 : -2147483649 ≤ v1.toInt ∧ v1.toInt ≤ 2147483646 := by rw [← h_v1]; exact own_v1 vv
      obtain ⟨_, _, ⟨T166, L166, k166, n166⟩, -, X166, ⟨Lc166, hQ166, l166, y166, z166⟩, st166⟩ := Jvm.LawKit.callS X0 hx (y := (⟨"java/lang/Math", "max", "(JJ)J"⟩ : MethodName)) hown (mvT hZ (hw _ (List.mem_of_getElem? (i := 0) rfl))) (mvT hZ (hw _ (List.mem_of_getElem? (i := 1) rfl))) (mvT hZ (hw _ (List.mem_of_getElem? (i := 2) rfl))) (mvT hZ (hw _ (List.mem_of_getElem? (i := 3) rfl))) (by decide) (backOf (W := 0) (rm_max l Z a0 hw [] (0 : Int64) v1 h0 n0 Z0 (if (lcmpW (0 : Int64) v1) < (0 : Int32) then v1 else (0 : Int64)) rfl) hZ (hw _ (List.mem_of_getElem? (i := 3) rfl)) (hw _ (List.mem_of_getElem? (i := 2) rfl)) (by decide) (by decide)) (g := (mkF m 40 #[.val (.int p0), .val (.int p1), .val (.long p2), .second, .val (.int p3), .val (.int vm), .val (.int vv), .unset, .unset, .unset, .unset, .unset, .unset, .unset, .unset, .unset] [(.long v1), (.long (0 : Int64))])) rfl (by rw [hml]; rfl) (argsL := [(.long (0 : Int64)), (.long v1)]) (rest := []) (lenOf pd_136 rfl) rfl (by show 2 * 0 + _ ≤ _; exact Nat.le_of_eq rfl) (hb hby at_40) (fun _ _ => ⟨rfl, e0, (by decide : 0 + 0 ≤ _), (by decide : 0 + 0 ≤ _)⟩)
      dsimp only [Pt.U, Pt.locs, Pt.cells, Pt.slots] at X166 l166 y166 z166 st166 hQ166
      subst l166 y166 z166
      obtain ⟨rfl, N166q, e166⟩ := hQ166
      have N166 := Fr.app N0 N166q
      obtain ⟨nv, h_nv⟩ : ∃ z : Int64, (if (lcmpW (0 : Int64) v1) < (0 : Int32) then v1 else (0 : Int64)) = z := ⟨_, rfl⟩
      have hnv : 0 ≤ nv.toInt ∧ nv.toInt ≤ 2147483646 := by rw [← h_nv]; exact own_mx hv1.2
      obtain ⟨lm, h_lm⟩ : ∃ z : Int32, (((p0.toUInt32 >>> ((2 : Int32) &&& 31).toUInt32).toInt32) &&& (3 : Int32)) = z := ⟨_, rfl⟩
      have ck168 : ∀ t, Steps p.tables e below (T166.setTop (mkF m 54 #[.val (.int p0), .val (.int p1), .val (.long p2), .second, .val (.int p3), .val (.int vm), .val (.int vv), .val (.long nv), .second, .val (.int lm), .unset, .unset, .unset, .unset, .unset, .unset] [(.int lm)])) t → Steps p.tables e below (s₁.setTop (entryFrame m #[(.int p0), (.int p1), (.long p2), (.int p3)] maxLocals)) t := by
        intro t kt
        refine ck131 _ ?_
        show Steps p.tables e below (s₁.setTop (mkF m 7 #[.val (.int p0), .val (.int p1), .val (.long p2), .second, .val (.int p3), .val (.int vm), .unset, .unset, .unset, .unset, .unset, .unset, .unset, .unset, .unset, .unset] [(.int vm)])) _
        refine XS.ifYes X0.here hx rfl (pc0 := 7) (pc' := 14) rfl (hb hby at_7) rfl ((if0 _ _).trans (feq hc7_130).2) (by decide) (by decide) ?_
        show Steps p.tables e below (s₁.setTop (mkF m 14 #[.val (.int p0), .val (.int p1), .val (.long p2), .second, .val (.int p3), .val (.int vm), .unset, .unset, .unset, .unset, .unset, .unset, .unset, .unset, .unset, .unset] [])) _
        refine XS.iload X0.here hx rfl (hb hby at_14) rfl ?_
        show Steps p.tables e below (s₁.setTop (mkF m 16 #[.val (.int p0), .val (.int p1), .val (.long p2), .second, .val (.int p3), .val (.int vm), .unset, .unset, .unset, .unset, .unset, .unset, .unset, .unset, .unset, .unset] [(.int vm)])) _
        refine XS.iconst X0.here hx rfl (hb hby at_16) ?_
        show Steps p.tables e below (s₁.setTop (mkF m 17 #[.val (.int p0), .val (.int p1), .val (.long p2), .second, .val (.int p3), .val (.int vm), .unset, .unset, .unset, .unset, .unset, .unset, .unset, .unset, .unset, .unset] [(.int (1 : Int32)), (.int vm)])) _
        refine XS.icmpNo X0.here hx rfl (hb hby at_17) rfl (teq hc17_165).2 ?_
        show Steps p.tables e below (s₁.setTop (mkF m 20 #[.val (.int p0), .val (.int p1), .val (.long p2), .second, .val (.int p3), .val (.int vm), .unset, .unset, .unset, .unset, .unset, .unset, .unset, .unset, .unset, .unset] [])) _
        refine XS.iloadN X0.here hx rfl (hb hby at_20) rfl ?_
        show Steps p.tables e below (s₁.setTop (mkF m 21 #[.val (.int p0), .val (.int p1), .val (.long p2), .second, .val (.int p3), .val (.int vm), .unset, .unset, .unset, .unset, .unset, .unset, .unset, .unset, .unset, .unset] [(.int p1)])) _
        refine XS.sipush X0.here hx rfl (hb hby at_21) ?_
        show Steps p.tables e below (s₁.setTop (mkF m 24 #[.val (.int p0), .val (.int p1), .val (.long p2), .second, .val (.int p3), .val (.int vm), .unset, .unset, .unset, .unset, .unset, .unset, .unset, .unset, .unset, .unset] [(.int (511 : Int32)), (.int p1)])) _
        refine XS.iand X0.here hx rfl (hb hby at_24) rfl ?_
        show Steps p.tables e below (s₁.setTop (mkF m 25 #[.val (.int p0), .val (.int p1), .val (.long p2), .second, .val (.int p3), .val (.int vm), .unset, .unset, .unset, .unset, .unset, .unset, .unset, .unset, .unset, .unset] [(.int (p1 &&& (511 : Int32)))])) _
        rw [h_vv]
        show Steps p.tables e below (s₁.setTop (mkF m 25 #[.val (.int p0), .val (.int p1), .val (.long p2), .second, .val (.int p3), .val (.int vm), .unset, .unset, .unset, .unset, .unset, .unset, .unset, .unset, .unset, .unset] [(.int vv)])) _
        refine XS.goto X0.here hx rfl (pc0 := 25) (pc' := 32) rfl (hb hby at_25) (by decide) (by decide) ?_
        show Steps p.tables e below (s₁.setTop (mkF m 32 #[.val (.int p0), .val (.int p1), .val (.long p2), .second, .val (.int p3), .val (.int vm), .unset, .unset, .unset, .unset, .unset, .unset, .unset, .unset, .unset, .unset] [(.int vv)])) _
        refine XS.istore X0.here hx rfl (hb hby at_32) rfl (l' := #[.val (.int p0), .val (.int p1), .val (.long p2), .second, .val (.int p3), .val (.int vm), .val (.int vv), .unset, .unset, .unset, .unset, .unset, .unset, .unset, .unset, .unset]) rfl ?_
        show Steps p.tables e below (s₁.setTop (mkF m 34 #[.val (.int p0), .val (.int p1), .val (.long p2), .second, .val (.int p3), .val (.int vm), .val (.int vv), .unset, .unset, .unset, .unset, .unset, .unset, .unset, .unset, .unset] [])) _
        refine XS.lconst X0.here hx rfl (hb hby at_34) ?_
        show Steps p.tables e below (s₁.setTop (mkF m 35 #[.val (.int p0), .val (.int p1), .val (.long p2), .second, .val (.int p3), .val (.int vm), .val (.int vv), .unset, .unset, .unset, .unset, .unset, .unset, .unset, .unset, .unset] [(.long (0 : Int64))])) _
        refine XS.iload X0.here hx rfl (hb hby at_35) rfl ?_
        show Steps p.tables e below (s₁.setTop (mkF m 37 #[.val (.int p0), .val (.int p1), .val (.long p2), .second, .val (.int p3), .val (.int vm), .val (.int vv), .unset, .unset, .unset, .unset, .unset, .unset, .unset, .unset, .unset] [(.int vv), (.long (0 : Int64))])) _
        refine XS.i2l X0.here hx rfl (hb hby at_37) rfl ?_
        show Steps p.tables e below (s₁.setTop (mkF m 38 #[.val (.int p0), .val (.int p1), .val (.long p2), .second, .val (.int p3), .val (.int vm), .val (.int vv), .unset, .unset, .unset, .unset, .unset, .unset, .unset, .unset, .unset] [(.long (vv.toInt64)), (.long (0 : Int64))])) _
        refine XS.lconst X0.here hx rfl (hb hby at_38) ?_
        show Steps p.tables e below (s₁.setTop (mkF m 39 #[.val (.int p0), .val (.int p1), .val (.long p2), .second, .val (.int p3), .val (.int vm), .val (.int vv), .unset, .unset, .unset, .unset, .unset, .unset, .unset, .unset, .unset] [(.long (1 : Int64)), (.long (vv.toInt64)), (.long (0 : Int64))])) _
        refine XS.lsub X0.here hx rfl (hb hby at_39) rfl ?_
        show Steps p.tables e below (s₁.setTop (mkF m 40 #[.val (.int p0), .val (.int p1), .val (.long p2), .second, .val (.int p3), .val (.int vm), .val (.int vv), .unset, .unset, .unset, .unset, .unset, .unset, .unset, .unset, .unset] [(.long ((vv.toInt64) - (1 : Int64))), (.long (0 : Int64))])) _
        rw [h_v1]
        show Steps p.tables e below (s₁.setTop (mkF m 40 #[.val (.int p0), .val (.int p1), .val (.long p2), .second, .val (.int p3), .val (.int vm), .val (.int vv), .unset, .unset, .unset, .unset, .unset, .unset, .unset, .unset, .unset] [(.long v1), (.long (0 : Int64))])) _
        refine st166 _ ?_
        show Steps p.tables e below (T166.setTop (mkF m 43 #[.val (.int p0), .val (.int p1), .val (.long p2), .second, .val (.int p3), .val (.int vm), .val (.int vv), .unset, .unset, .unset, .unset, .unset, .unset, .unset, .unset, .unset] [(.long (if (lcmpW (0 : Int64) v1) < (0 : Int32) then v1 else (0 : Int64)))])) _
        rw [h_nv]
        show Steps p.tables e below (T166.setTop (mkF m 43 #[.val (.int p0), .val (.int p1), .val (.long p2), .second, .val (.int p3), .val (.int vm), .val (.int vv), .unset, .unset, .unset, .unset, .unset, .unset, .unset, .unset, .unset] [(.long nv)])) _
        refine XS.lstore X166.here hx rfl (hb hby at_43) rfl (l' := #[.val (.int p0), .val (.int p1), .val (.long p2), .second, .val (.int p3), .val (.int vm), .val (.int vv), .val (.long nv), .second, .unset, .unset, .unset, .unset, .unset, .unset, .unset]) rfl ?_
        show Steps p.tables e below (T166.setTop (mkF m 45 #[.val (.int p0), .val (.int p1), .val (.long p2), .second, .val (.int p3), .val (.int vm), .val (.int vv), .val (.long nv), .second, .unset, .unset, .unset, .unset, .unset, .unset, .unset] [])) _
        refine XS.iloadN X166.here hx rfl (hb hby at_45) rfl ?_
        show Steps p.tables e below (T166.setTop (mkF m 46 #[.val (.int p0), .val (.int p1), .val (.long p2), .second, .val (.int p3), .val (.int vm), .val (.int vv), .val (.long nv), .second, .unset, .unset, .unset, .unset, .unset, .unset, .unset] [(.int p0)])) _
        refine XS.iconst X166.here hx rfl (hb hby at_46) ?_
        show Steps p.tables e below (T166.setTop (mkF m 47 #[.val (.int p0), .val (.int p1), .val (.long p2), .second, .val (.int p3), .val (.int vm), .val (.int vv), .val (.long nv), .second, .unset, .unset, .unset, .unset, .unset, .unset, .unset] [(.int (2 : Int32)), (.int p0)])) _
        refine XS.iushr X166.here hx rfl (hb hby at_47) rfl ?_
        show Steps p.tables e below (T166.setTop (mkF m 48 #[.val (.int p0), .val (.int p1), .val (.long p2), .second, .val (.int p3), .val (.int vm), .val (.int vv), .val (.long nv), .second, .unset, .unset, .unset, .unset, .unset, .unset, .unset] [(.int ((p0.toUInt32 >>> ((2 : Int32) &&& 31).toUInt32).toInt32))])) _
        refine XS.iconst X166.here hx rfl (hb hby at_48) ?_
        show Steps p.tables e below (T166.setTop (mkF m 49 #[.val (.int p0), .val (.int p1), .val (.long p2), .second, .val (.int p3), .val (.int vm), .val (.int vv), .val (.long nv), .second, .unset, .unset, .unset, .unset, .unset, .unset, .unset] [(.int (3 : Int32)), (.int ((p0.toUInt32 >>> ((2 : Int32) &&& 31).toUInt32).toInt32))])) _
        refine XS.iand X166.here hx rfl (hb hby at_49) rfl ?_
        show Steps p.tables e below (T166.setTop (mkF m 50 #[.val (.int p0), .val (.int p1), .val (.long p2), .second, .val (.int p3), .val (.int vm), .val (.int vv), .val (.long nv), .second, .unset, .unset, .unset, .unset, .unset, .unset, .unset] [(.int (((p0.toUInt32 >>> ((2 : Int32) &&& 31).toUInt32).toInt32) &&& (3 : Int32)))])) _
        rw [h_lm]
        show Steps p.tables e below (T166.setTop (mkF m 50 #[.val (.int p0), .val (.int p1), .val (.long p2), .second, .val (.int p3), .val (.int vm), .val (.int vv), .val (.long nv), .second, .unset, .unset, .unset, .unset, .unset, .unset, .unset] [(.int lm)])) _
        refine XS.istore X166.here hx rfl (hb hby at_50) rfl (l' := #[.val (.int p0), .val (.int p1), .val (.long p2), .second, .val (.int p3), .val (.int vm), .val (.int vv), .val (.long nv), .second, .val (.int lm), .unset, .unset, .unset, .unset, .unset, .unset]) rfl ?_
        show Steps p.tables e below (T166.setTop (mkF m 52 #[.val (.int p0), .val (.int p1), .val (.long p2), .second, .val (.int p3), .val (.int vm), .val (.int vv), .val (.long nv), .second, .val (.int lm), .unset, .unset, .unset, .unset, .unset, .unset] [])) _
        refine XS.iload X166.here hx rfl (hb hby at_52) rfl ?_
        exact kt
      (try clear N166q); (try clear st166); (try clear Lc166); (try clear n166); (try clear k166); (try clear L166)
      by_cases hc54_167 : lm = (0 : Int32)
      · -- pc 54: lm = (0 : Int32)
        obtain ⟨ls, h_ls⟩ : ∃ z : Int64, ((p2.toUInt64 >>> ((2 : Int32) &&& 0x3f).toInt64.toUInt64).toInt64) = z := ⟨_, rfl⟩
        have hls : 0 ≤ ls.toInt ∧ ls.toInt ≤ 4611686018427387904 := by rw [← h_ls]; exact own_ush p2
        obtain ⟨_, _, ⟨T169, L169, k169, n169⟩, -, X169, ⟨Lc169, hQ169, l169, y169, z169⟩, st169⟩ := Jvm.LawKit.callS X166 hx (y := (⟨"com/example/rowstrata/rowstrata/row/VarTable", "smallest", "(IJ)Lcom/example/rowstrata/rowstrata/row/VarTable;"⟩ : MethodName)) hown (mvT hZ (hw _ (List.mem_of_getElem? (i := 4) rfl))) (mvT hZ (hw _ (List.mem_of_getElem? (i := 5) rfl))) (mvT hZ (hw _ (List.mem_of_getElem? (i := 6) rfl))) (mvT hZ (hw _ (List.mem_of_getElem? (i := 7) rfl))) (by decide) (backOf (W := 0) (rm_sm l Z a0 hw [] vv ls h0 n0 Z0 w_TINY w_NONE w_MEDIUM w_LARGE hWd w_WT kWT S_WT A_WT hls.1 hls.2) hZ (hw _ (List.mem_of_getElem? (i := 7) rfl)) (hw _ (List.mem_of_getElem? (i := 6) rfl)) (by decide) (by decide)) (g := (mkF m 160 #[.val (.int p0), .val (.int p1), .val (.long p2), .second, .val (.int p3), .val (.int vm), .val (.int vv), .val (.long nv), .second, .val (.int lm), .val (.long ls), .second, .unset, .unset, .unset, .unset] [(.long ls), (.int vv)])) rfl (by rw [hml]; rfl) (argsL := [(.int vv), (.long ls)]) (rest := []) (lenOf pd_137 rfl) rfl (by show 2 * 0 + _ ≤ _; exact Nat.le_of_eq rfl) (hb hby at_160) (fun _ _ => ⟨rfl, e166, (by decide : 0 + 0 ≤ _), (by decide : 0 + 0 ≤ _)⟩)
        dsimp only [Pt.U, Pt.locs, Pt.cells, Pt.slots] at X169 l169 y169 z169 st169 hQ169
        subst l169 y169 z169
        obtain ⟨rfl, N169q, e169⟩ := hQ169
        have N169 := Fr.app N166 N169q
        have ck170 : ∀ t, Steps p.tables e below (T169.setTop (mkF m 163 #[.val (.int p0), .val (.int p1), .val (.long p2), .second, .val (.int p3), .val (.int vm), .val (.int vv), .val (.long nv), .second, .val (.int lm), .val (.long ls), .second, .unset, .unset, .unset, .unset] [(own_spec vv.toInt ls.toInt w_NONE w_TINY w_MEDIUM w_LARGE)])) t → Steps p.tables e below (s₁.setTop (entryFrame m #[(.int p0), (.int p1), (.long p2), (.int p3)] maxLocals)) t := by
          intro t kt
          refine ck168 _ ?_
          show Steps p.tables e below (T166.setTop (mkF m 54 #[.val (.int p0), .val (.int p1), .val (.long p2), .second, .val (.int p3), .val (.int vm), .val (.int vv), .val (.long nv), .second, .val (.int lm), .unset, .unset, .unset, .unset, .unset, .unset] [(.int lm)])) _
          refine XS.ifNo X166.here hx rfl (hb hby at_54) rfl ((if0 _ _).trans (teq hc54_167).2) ?_
          show Steps p.tables e below (T166.setTop (mkF m 57 #[.val (.int p0), .val (.int p1), .val (.long p2), .second, .val (.int p3), .val (.int vm), .val (.int vv), .val (.long nv), .second, .val (.int lm), .unset, .unset, .unset, .unset, .unset, .unset] [])) _
          refine XS.lloadN X166.here hx rfl (hb hby at_57) rfl ?_
          show Steps p.tables e below (T166.setTop (mkF m 58 #[.val (.int p0), .val (.int p1), .val (.long p2), .second, .val (.int p3), .val (.int vm), .val (.int vv), .val (.long nv), .second, .val (.int lm), .unset, .unset, .unset, .unset, .unset, .unset] [(.long p2)])) _
          refine XS.iconst X166.here hx rfl (hb hby at_58) ?_
          show Steps p.tables e below (T166.setTop (mkF m 59 #[.val (.int p0), .val (.int p1), .val (.long p2), .second, .val (.int p3), .val (.int vm), .val (.int vv), .val (.long nv), .second, .val (.int lm), .unset, .unset, .unset, .unset, .unset, .unset] [(.int (2 : Int32)), (.long p2)])) _
          refine XS.lushr X166.here hx rfl (hb hby at_59) rfl ?_
          show Steps p.tables e below (T166.setTop (mkF m 60 #[.val (.int p0), .val (.int p1), .val (.long p2), .second, .val (.int p3), .val (.int vm), .val (.int vv), .val (.long nv), .second, .val (.int lm), .unset, .unset, .unset, .unset, .unset, .unset] [(.long ((p2.toUInt64 >>> ((2 : Int32) &&& 0x3f).toInt64.toUInt64).toInt64))])) _
          rw [h_ls]
          show Steps p.tables e below (T166.setTop (mkF m 60 #[.val (.int p0), .val (.int p1), .val (.long p2), .second, .val (.int p3), .val (.int vm), .val (.int vv), .val (.long nv), .second, .val (.int lm), .unset, .unset, .unset, .unset, .unset, .unset] [(.long ls)])) _
          refine XS.lstore X166.here hx rfl (hb hby at_60) rfl (l' := #[.val (.int p0), .val (.int p1), .val (.long p2), .second, .val (.int p3), .val (.int vm), .val (.int vv), .val (.long nv), .second, .val (.int lm), .val (.long ls), .second, .unset, .unset, .unset, .unset]) rfl ?_
          show Steps p.tables e below (T166.setTop (mkF m 62 #[.val (.int p0), .val (.int p1), .val (.long p2), .second, .val (.int p3), .val (.int vm), .val (.int vv), .val (.long nv), .second, .val (.int lm), .val (.long ls), .second, .unset, .unset, .unset, .unset] [])) _
          refine XS.goto X166.here hx rfl (pc0 := 62) (pc' := 156) rfl (hb hby at_62) (by decide) (by decide) ?_
          show Steps p.tables e below (T166.setTop (mkF m 156 #[.val (.int p0), .val (.int p1), .val (.long p2), .second, .val (.int p3), .val (.int vm), .val (.int vv), .val (.long nv), .second, .val (.int lm), .val (.long ls), .second, .unset, .unset, .unset, .unset] [])) _
          refine XS.iload X166.here hx rfl (hb hby at_156) rfl ?_
          show Steps p.tables e below (T166.setTop (mkF m 158 #[.val (.int p0), .val (.int p1), .val (.long p2), .second, .val (.int p3), .val (.int vm), .val (.int vv), .val (.long nv), .second, .val (.int lm), .val (.long ls), .second, .unset, .unset, .unset, .unset] [(.int vv)])) _
          refine XS.lload X166.here hx rfl (hb hby at_158) rfl ?_
          show Steps p.tables e below (T166.setTop (mkF m 160 #[.val (.int p0), .val (.int p1), .val (.long p2), .second, .val (.int p3), .val (.int vm), .val (.int vv), .val (.long nv), .second, .val (.int lm), .val (.long ls), .second, .unset, .unset, .unset, .unset] [(.long ls), (.int vv)])) _
          refine st169 _ ?_
          exact kt
        (try clear N169q); (try clear st169); (try clear Lc169); (try clear n169); (try clear k169); (try clear L169)
        rcases own_spec_two vv.toInt ls.toInt w_NONE w_TINY w_MEDIUM w_LARGE with ⟨wq, hv171⟩ | hv172
        · -- wq
          obtain ⟨_, _, ⟨T173, L173, k173, n173⟩, -, X173, ⟨Lc173, hQ173, l173, y173, z173⟩, st173⟩ := Jvm.LawKit.callS X169 hx (y := (⟨"com/example/rowstrata/rowstrata/row/VarTableSmallestPinLaw", "expected", "(IJ)Lcom/example/rowstrata/rowstrata/row/VarTable;"⟩ : MethodName)) hown (mvT hZ (hw _ (List.mem_of_getElem? (i := 25) rfl))) (mvT hZ (hw _ (List.mem_of_getElem? (i := 26) rfl))) (mvT hZ (hw _ (List.mem_of_getElem? (i := 27) rfl))) (mvT hZ (hw _ (List.mem_of_getElem? (i := 28) rfl))) (by decide) (backOf (W := 1) (rm_exp l Z a0 hw [] vv ls h0 n0 Z0 w_TINY w_NONE w_MEDIUM w_LARGE hWd hls.1 hls.2) hZ (hw _ (List.mem_of_getElem? (i := 28) rfl)) (hw _ (List.mem_of_getElem? (i := 27) rfl)) (by decide) (by decide)) (g := (mkF m 171 #[.val (.int p0), .val (.int p1), .val (.long p2), .second, .val (.int p3), .val (.int vm), .val (.int vv), .val (.long nv), .second, .val (.int lm), .val (.long ls), .second, .val (.ref wq), .unset, .unset, .unset] [(.long ls), (.int vv), (.ref wq)])) rfl (by rw [hml]; rfl) (argsL := [(.int vv), (.long ls)]) (rest := [(.ref wq)]) (lenOf pd_137 rfl) rfl (by show 2 * 0 + _ ≤ _; exact Nat.le_of_eq rfl) (hb hby at_171) (fun _ _ => ⟨rfl, e169, (by decide : 0 + 0 ≤ _), (by decide : 0 + 0 ≤ _)⟩)
          dsimp only [Pt.U, Pt.locs, Pt.cells, Pt.slots] at X173 l173 y173 z173 st173 hQ173
          subst l173 y173 z173
          obtain ⟨rfl, N173q, e173⟩ := hQ173
          have N173 := Fr.app N169 N173q
          obtain ⟨fs, hr, hrun, hended, hW, hsame⟩ := X173.leave (v := some (.int (1 : Int32))) (fun h => by rw [Bd.returns] at h; cases h)
          refine ⟨_, _, ck170 _ ?_, hrun, hended, _, _, rfl, ?_, ⟨_, rfl⟩, hW, hsame.mono (by decide) (by decide)⟩
          · show Steps p.tables e below (T169.setTop (mkF m 163 #[.val (.int p0), .val (.int p1), .val (.long p2), .second, .val (.int p3), .val (.int vm), .val (.int vv), .val (.long nv), .second, .val (.int lm), .val (.long ls), .second, .unset, .unset, .unset, .unset] [(own_spec vv.toInt ls.toInt w_NONE w_TINY w_MEDIUM w_LARGE)])) _
            rw [hv171]
            show Steps p.tables e below (T169.setTop (mkF m 163 #[.val (.int p0), .val (.int p1), .val (.long p2), .second, .val (.int p3), .val (.int vm), .val (.int vv), .val (.long nv), .second, .val (.int lm), .val (.long ls), .second, .unset, .unset, .unset, .unset] [(.ref wq)])) _
            refine XS.astore X169.here hx rfl (hb hby at_163) rfl rfl (l' := #[.val (.int p0), .val (.int p1), .val (.long p2), .second, .val (.int p3), .val (.int vm), .val (.int vv), .val (.long nv), .second, .val (.int lm), .val (.long ls), .second, .val (.ref wq), .unset, .unset, .unset]) rfl ?_
            show Steps p.tables e below (T169.setTop (mkF m 165 #[.val (.int p0), .val (.int p1), .val (.long p2), .second, .val (.int p3), .val (.int vm), .val (.int vv), .val (.long nv), .second, .val (.int lm), .val (.long ls), .second, .val (.ref wq), .unset, .unset, .unset] [])) _
            refine XS.aload X169.here hx rfl (hb hby at_165) rfl rfl ?_
            show Steps p.tables e below (T169.setTop (mkF m 167 #[.val (.int p0), .val (.int p1), .val (.long p2), .second, .val (.int p3), .val (.int vm), .val (.int vv), .val (.long nv), .second, .val (.int lm), .val (.long ls), .second, .val (.ref wq), .unset, .unset, .unset] [(.ref wq)])) _
            refine XS.iload X169.here hx rfl (hb hby at_167) rfl ?_
            show Steps p.tables e below (T169.setTop (mkF m 169 #[.val (.int p0), .val (.int p1), .val (.long p2), .second, .val (.int p3), .val (.int vm), .val (.int vv), .val (.long nv), .second, .val (.int lm), .val (.long ls), .second, .val (.ref wq), .unset, .unset, .unset] [(.int vv), (.ref wq)])) _
            refine XS.lload X169.here hx rfl (hb hby at_169) rfl ?_
            show Steps p.tables e below (T169.setTop (mkF m 171 #[.val (.int p0), .val (.int p1), .val (.long p2), .second, .val (.int p3), .val (.int vm), .val (.int vv), .val (.long nv), .second, .val (.int lm), .val (.long ls), .second, .val (.ref wq), .unset, .unset, .unset] [(.long ls), (.int vv), (.ref wq)])) _
            refine st173 _ ?_
            show Steps p.tables e below (T173.setTop (mkF m 174 #[.val (.int p0), .val (.int p1), .val (.long p2), .second, .val (.int p3), .val (.int vm), .val (.int vv), .val (.long nv), .second, .val (.int lm), .val (.long ls), .second, .val (.ref wq), .unset, .unset, .unset] [(own_spec vv.toInt ls.toInt w_NONE w_TINY w_MEDIUM w_LARGE), (.ref wq)])) _
            rw [hv171]
            show Steps p.tables e below (T173.setTop (mkF m 174 #[.val (.int p0), .val (.int p1), .val (.long p2), .second, .val (.int p3), .val (.int vm), .val (.int vv), .val (.long nv), .second, .val (.int lm), .val (.long ls), .second, .val (.ref wq), .unset, .unset, .unset] [(.ref wq), (.ref wq)])) _
            refine Jvm.RoadKit.acmp (g := (mkF m 174 #[.val (.int p0), .val (.int p1), .val (.long p2), .second, .val (.int p3), .val (.int vm), .val (.int vv), .val (.long nv), .second, .val (.int lm), .val (.long ls), .second, .val (.ref wq), .unset, .unset, .unset] [(.ref wq), (.ref wq)])) X173 hx rfl rfl rfl (pc0 := 174) (pc' := 177) (same := true) rfl (hb hby at_174) rfl (decide_eq_true rfl) (by decide) (by decide) ?_
            show Steps p.tables e below (T173.setTop (mkF m 177 #[.val (.int p0), .val (.int p1), .val (.long p2), .second, .val (.int p3), .val (.int vm), .val (.int vv), .val (.long nv), .second, .val (.int lm), .val (.long ls), .second, .val (.ref wq), .unset, .unset, .unset] [])) _
            refine XS.iconst X173.here hx rfl (hb hby at_177) ?_
            show Steps p.tables e below (T173.setTop (mkF m 178 #[.val (.int p0), .val (.int p1), .val (.long p2), .second, .val (.int p3), .val (.int vm), .val (.int vv), .val (.long nv), .second, .val (.int lm), .val (.long ls), .second, .val (.ref wq), .unset, .unset, .unset] [(.int (1 : Int32))])) _
            refine XS.goto X173.here hx rfl (pc0 := 178) (pc' := 182) rfl (hb hby at_178) (by decide) (by decide) ?_
            show Steps p.tables e below (T173.setTop (mkF m 182 #[.val (.int p0), .val (.int p1), .val (.long p2), .second, .val (.int p3), .val (.int vm), .val (.int vv), .val (.long nv), .second, .val (.int lm), .val (.long ls), .second, .val (.ref wq), .unset, .unset, .unset] [(.int (1 : Int32))])) _
            exact retN X173 hx (t := .boolean) Bd.returns (by simp) (hb hby at_182) hr
          · show own_Pure (some (.int 1)) h0 n0 _ T173.heap _
            rw [e173]
            exact ⟨rfl, N173, rfl⟩
        · -- null
          obtain ⟨_, _, ⟨T174, L174, k174, n174⟩, -, X174, ⟨Lc174, hQ174, l174, y174, z174⟩, st174⟩ := Jvm.LawKit.callS X169 hx (y := (⟨"com/example/rowstrata/rowstrata/row/VarTableSmallestPinLaw", "expected", "(IJ)Lcom/example/rowstrata/rowstrata/row/VarTable;"⟩ : MethodName)) hown (mvT hZ (hw _ (List.mem_of_getElem? (i := 25) rfl))) (mvT hZ (hw _ (List.mem_of_getElem? (i := 26) rfl))) (mvT hZ (hw _ (List.mem_of_getElem? (i := 27) rfl))) (mvT hZ (hw _ (List.mem_of_getElem? (i := 28) rfl))) (by decide) (backOf (W := 1) (rm_exp l Z a0 hw [] vv ls h0 n0 Z0 w_TINY w_NONE w_MEDIUM w_LARGE hWd hls.1 hls.2) hZ (hw _ (List.mem_of_getElem? (i := 28) rfl)) (hw _ (List.mem_of_getElem? (i := 27) rfl)) (by decide) (by decide)) (g := (mkF m 171 #[.val (.int p0), .val (.int p1), .val (.long p2), .second, .val (.int p3), .val (.int vm), .val (.int vv), .val (.long nv), .second, .val (.int lm), .val (.long ls), .second, .val .null, .unset, .unset, .unset] [(.long ls), (.int vv), .null])) rfl (by rw [hml]; rfl) (argsL := [(.int vv), (.long ls)]) (rest := [.null]) (lenOf pd_137 rfl) rfl (by show 2 * 0 + _ ≤ _; exact Nat.le_of_eq rfl) (hb hby at_171) (fun _ _ => ⟨rfl, e169, (by decide : 0 + 0 ≤ _), (by decide : 0 + 0 ≤ _)⟩)
          dsimp only [Pt.U, Pt.locs, Pt.cells, Pt.slots] at X174 l174 y174 z174 st174 hQ174
          subst l174 y174 z174
          obtain ⟨rfl, N174q, e174⟩ := hQ174
          have N174 := Fr.app N169 N174q
          obtain ⟨fs, hr, hrun, hended, hW, hsame⟩ := X174.leave (v := some (.int (1 : Int32))) (fun h => by rw [Bd.returns] at h; cases h)
          refine ⟨_, _, ck170 _ ?_, hrun, hended, _, _, rfl, ?_, ⟨_, rfl⟩, hW, hsame.mono (by decide) (by decide)⟩
          · show Steps p.tables e below (T169.setTop (mkF m 163 #[.val (.int p0), .val (.int p1), .val (.long p2), .second, .val (.int p3), .val (.int vm), .val (.int vv), .val (.long nv), .second, .val (.int lm), .val (.long ls), .second, .unset, .unset, .unset, .unset] [(own_spec vv.toInt ls.toInt w_NONE w_TINY w_MEDIUM w_LARGE)])) _
            rw [hv172]
            show Steps p.tables e below (T169.setTop (mkF m 163 #[.val (.int p0), .val (.int p1), .val (.long p2), .second, .val (.int p3), .val (.int vm), .val (.int vv), .val (.long nv), .second, .val (.int lm), .val (.long ls), .second, .unset, .unset, .unset, .unset] [.null])) _
            refine XS.astore X169.here hx rfl (hb hby at_163) rfl rfl (l' := #[.val (.int p0), .val (.int p1), .val (.long p2), .second, .val (.int p3), .val (.int vm), .val (.int vv), .val (.long nv), .second, .val (.int lm), .val (.long ls), .second, .val .null, .unset, .unset, .unset]) rfl ?_
            show Steps p.tables e below (T169.setTop (mkF m 165 #[.val (.int p0), .val (.int p1), .val (.long p2), .second, .val (.int p3), .val (.int vm), .val (.int vv), .val (.long nv), .second, .val (.int lm), .val (.long ls), .second, .val .null, .unset, .unset, .unset] [])) _
            refine XS.aload X169.here hx rfl (hb hby at_165) rfl rfl ?_
            show Steps p.tables e below (T169.setTop (mkF m 167 #[.val (.int p0), .val (.int p1), .val (.long p2), .second, .val (.int p3), .val (.int vm), .val (.int vv), .val (.long nv), .second, .val (.int lm), .val (.long ls), .second, .val .null, .unset, .unset, .unset] [.null])) _
            refine XS.iload X169.here hx rfl (hb hby at_167) rfl ?_
            show Steps p.tables e below (T169.setTop (mkF m 169 #[.val (.int p0), .val (.int p1), .val (.long p2), .second, .val (.int p3), .val (.int vm), .val (.int vv), .val (.long nv), .second, .val (.int lm), .val (.long ls), .second, .val .null, .unset, .unset, .unset] [(.int vv), .null])) _
            refine XS.lload X169.here hx rfl (hb hby at_169) rfl ?_
            show Steps p.tables e below (T169.setTop (mkF m 171 #[.val (.int p0), .val (.int p1), .val (.long p2), .second, .val (.int p3), .val (.int vm), .val (.int vv), .val (.long nv), .second, .val (.int lm), .val (.long ls), .second, .val .null, .unset, .unset, .unset] [(.long ls), (.int vv), .null])) _
            refine st174 _ ?_
            show Steps p.tables e below (T174.setTop (mkF m 174 #[.val (.int p0), .val (.int p1), .val (.long p2), .second, .val (.int p3), .val (.int vm), .val (.int vv), .val (.long nv), .second, .val (.int lm), .val (.long ls), .second, .val .null, .unset, .unset, .unset] [(own_spec vv.toInt ls.toInt w_NONE w_TINY w_MEDIUM w_LARGE), .null])) _
            rw [hv172]
            show Steps p.tables e below (T174.setTop (mkF m 174 #[.val (.int p0), .val (.int p1), .val (.long p2), .second, .val (.int p3), .val (.int vm), .val (.int vv), .val (.long nv), .second, .val (.int lm), .val (.long ls), .second, .val .null, .unset, .unset, .unset] [.null, .null])) _
            refine Jvm.RoadKit.acmp (g := (mkF m 174 #[.val (.int p0), .val (.int p1), .val (.long p2), .second, .val (.int p3), .val (.int vm), .val (.int vv), .val (.long nv), .second, .val (.int lm), .val (.long ls), .second, .val .null, .unset, .unset, .unset] [.null, .null])) X174 hx rfl rfl rfl (pc0 := 174) (pc' := 177) (same := true) rfl (hb hby at_174) rfl (decide_eq_true rfl) (by decide) (by decide) ?_
            show Steps p.tables e below (T174.setTop (mkF m 177 #[.val (.int p0), .val (.int p1), .val (.long p2), .second, .val (.int p3), .val (.int vm), .val (.int vv), .val (.long nv), .second, .val (.int lm), .val (.long ls), .second, .val .null, .unset, .unset, .unset] [])) _
            refine XS.iconst X174.here hx rfl (hb hby at_177) ?_
            show Steps p.tables e below (T174.setTop (mkF m 178 #[.val (.int p0), .val (.int p1), .val (.long p2), .second, .val (.int p3), .val (.int vm), .val (.int vv), .val (.long nv), .second, .val (.int lm), .val (.long ls), .second, .val .null, .unset, .unset, .unset] [(.int (1 : Int32))])) _
            refine XS.goto X174.here hx rfl (pc0 := 178) (pc' := 182) rfl (hb hby at_178) (by decide) (by decide) ?_
            show Steps p.tables e below (T174.setTop (mkF m 182 #[.val (.int p0), .val (.int p1), .val (.long p2), .second, .val (.int p3), .val (.int vm), .val (.int vv), .val (.long nv), .second, .val (.int lm), .val (.long ls), .second, .val .null, .unset, .unset, .unset] [(.int (1 : Int32))])) _
            exact retN X174 hx (t := .boolean) Bd.returns (by simp) (hb hby at_182) hr
          · show own_Pure (some (.int 1)) h0 n0 _ T174.heap _
            rw [e174]
            exact ⟨rfl, N174, rfl⟩
      · -- pc 54: not lm = (0 : Int32)
        by_cases hc68_175 : lm = (1 : Int32)
        · -- pc 68: lm = (1 : Int32)
          obtain ⟨tb, h_tb⟩ : ∃ z : Int64, ((1 : Int64) + nv) = z := ⟨_, rfl⟩
          have htb : 0 ≤ tb.toInt ∧ tb.toInt ≤ 8589934590 := by rw [← h_tb]; exact own_tb103 hnv.1 hnv.2
          obtain ⟨xx, h_xx⟩ : ∃ z : Int64, (((255 : Int64) - tb) + ((p3 % (8 : Int32)).toInt64)) = z := ⟨_, rfl⟩
          have hxx : xx.toInt ≤ 4294967303 := by rw [← h_xx]; exact own_xx (by decide) htb.1 htb.2
          obtain ⟨_, _, ⟨T176, L176, k176, n176⟩, -, X176, ⟨Lc176, hQ176, l176, y176, z176⟩, st176⟩ := Jvm.LawKit.callS X166 hx (y := (⟨"java/lang/Math", "max", "(JJ)J"⟩ : MethodName)) hown (mvT hZ (hw _ (List.mem_of_getElem? (i := 0) rfl))) (mvT hZ (hw _ (List.mem_of_getElem? (i := 1) rfl))) (mvT hZ (hw _ (List.mem_of_getElem? (i := 2) rfl))) (mvT hZ (hw _ (List.mem_of_getElem? (i := 3) rfl))) (by decide) (backOf (W := 0) (rm_max l Z a0 hw [] (0 : Int64) xx h0 n0 Z0 (if (lcmpW (0 : Int64) xx) < (0 : Int32) then xx else (0 : Int64)) rfl) hZ (hw _ (List.mem_of_getElem? (i := 3) rfl)) (hw _ (List.mem_of_getElem? (i := 2) rfl)) (by decide) (by decide)) (g := (mkF m 151 #[.val (.int p0), .val (.int p1), .val (.long p2), .second, .val (.int p3), .val (.int vm), .val (.int vv), .val (.long nv), .second, .val (.int lm), .unset, .unset, .val (.long (255 : Int64)), .second, .val (.long tb), .second] [(.long xx), (.long (0 : Int64))])) rfl (by rw [hml]; rfl) (argsL := [(.long (0 : Int64)), (.long xx)]) (rest := []) (lenOf pd_136 rfl) rfl (by show 2 * 0 + _ ≤ _; exact Nat.le_of_eq rfl) (hb hby at_151) (fun _ _ => ⟨rfl, e166, (by decide : 0 + 0 ≤ _), (by decide : 0 + 0 ≤ _)⟩)
          dsimp only [Pt.U, Pt.locs, Pt.cells, Pt.slots] at X176 l176 y176 z176 st176 hQ176
          subst l176 y176 z176
          obtain ⟨rfl, N176q, e176⟩ := hQ176
          have N176 := Fr.app N166 N176q
          obtain ⟨ls, h_ls⟩ : ∃ z : Int64, (if (lcmpW (0 : Int64) xx) < (0 : Int32) then xx else (0 : Int64)) = z := ⟨_, rfl⟩
          have hls : 0 ≤ ls.toInt ∧ ls.toInt ≤ 4611686018427387904 := by rw [← h_ls]; exact own_mx2 hxx
          obtain ⟨_, _, ⟨T177, L177, k177, n177⟩, -, X177, ⟨Lc177, hQ177, l177, y177, z177⟩, st177⟩ := Jvm.LawKit.callS X176 hx (y := (⟨"com/example/rowstrata/rowstrata/row/VarTable", "smallest", "(IJ)Lcom/example/rowstrata/rowstrata/row/VarTable;"⟩ : MethodName)) hown (mvT hZ (hw _ (List.mem_of_getElem? (i := 4) rfl))) (mvT hZ (hw _ (List.mem_of_getElem? (i := 5) rfl))) (mvT hZ (hw _ (List.mem_of_getElem? (i := 6) rfl))) (mvT hZ (hw _ (List.mem_of_getElem? (i := 7) rfl))) (by decide) (backOf (W := 0) (rm_sm l Z a0 hw [] vv ls h0 n0 Z0 w_TINY w_NONE w_MEDIUM w_LARGE hWd w_WT kWT S_WT A_WT hls.1 hls.2) hZ (hw _ (List.mem_of_getElem? (i := 7) rfl)) (hw _ (List.mem_of_getElem? (i := 6) rfl)) (by decide) (by decide)) (g := (mkF m 160 #[.val (.int p0), .val (.int p1), .val (.long p2), .second, .val (.int p3), .val (.int vm), .val (.int vv), .val (.long nv), .second, .val (.int lm), .val (.long ls), .second, .val (.long (255 : Int64)), .second, .val (.long tb), .second] [(.long ls), (.int vv)])) rfl (by rw [hml]; rfl) (argsL := [(.int vv), (.long ls)]) (rest := []) (lenOf pd_137 rfl) rfl (by show 2 * 0 + _ ≤ _; exact Nat.le_of_eq rfl) (hb hby at_160) (fun _ _ => ⟨rfl, e176, (by decide : 0 + 0 ≤ _), (by decide : 0 + 0 ≤ _)⟩)
          dsimp only [Pt.U, Pt.locs, Pt.cells, Pt.slots] at X177 l177 y177 z177 st177 hQ177
          subst l177 y177 z177
          obtain ⟨rfl, N177q, e177⟩ := hQ177
          have N177 := Fr.app N176 N177q
          have ck178 : ∀ t, Steps p.tables e below (T177.setTop (mkF m 163 #[.val (.int p0), .val (.int p1), .val (.long p2), .second, .val (.int p3), .val (.int vm), .val (.int vv), .val (.long nv), .second, .val (.int lm), .val (.long ls), .second, .val (.long (255 : Int64)), .second, .val (.long tb), .second] [(own_spec vv.toInt ls.toInt w_NONE w_TINY w_MEDIUM w_LARGE)])) t → Steps p.tables e below (s₁.setTop (entryFrame m #[(.int p0), (.int p1), (.long p2), (.int p3)] maxLocals)) t := by
            intro t kt
            refine ck168 _ ?_
            show Steps p.tables e below (T166.setTop (mkF m 54 #[.val (.int p0), .val (.int p1), .val (.long p2), .second, .val (.int p3), .val (.int vm), .val (.int vv), .val (.long nv), .second, .val (.int lm), .unset, .unset, .unset, .unset, .unset, .unset] [(.int lm)])) _
            refine XS.ifYes X166.here hx rfl (pc0 := 54) (pc' := 65) rfl (hb hby at_54) rfl ((if0 _ _).trans (feq hc54_167).2) (by decide) (by decide) ?_
            show Steps p.tables e below (T166.setTop (mkF m 65 #[.val (.int p0), .val (.int p1), .val (.long p2), .second, .val (.int p3), .val (.int vm), .val (.int vv), .val (.long nv), .second, .val (.int lm), .unset, .unset, .unset, .unset, .unset, .unset] [])) _
            refine XS.iload X166.here hx rfl (hb hby at_65) rfl ?_
            show Steps p.tables e below (T166.setTop (mkF m 67 #[.val (.int p0), .val (.int p1), .val (.long p2), .second, .val (.int p3), .val (.int vm), .val (.int vv), .val (.long nv), .second, .val (.int lm), .unset, .unset, .unset, .unset, .unset, .unset] [(.int lm)])) _
            refine XS.iconst X166.here hx rfl (hb hby at_67) ?_
            show Steps p.tables e below (T166.setTop (mkF m 68 #[.val (.int p0), .val (.int p1), .val (.long p2), .second, .val (.int p3), .val (.int vm), .val (.int vv), .val (.long nv), .second, .val (.int lm), .unset, .unset, .unset, .unset, .unset, .unset] [(.int (1 : Int32)), (.int lm)])) _
            refine XS.icmpNo X166.here hx rfl (hb hby at_68) rfl (teq hc68_175).2 ?_
            show Steps p.tables e below (T166.setTop (mkF m 71 #[.val (.int p0), .val (.int p1), .val (.long p2), .second, .val (.int p3), .val (.int vm), .val (.int vv), .val (.long nv), .second, .val (.int lm), .unset, .unset, .unset, .unset, .unset, .unset] [])) _
            refine X166.ldc2Long hx hown (mvT hZ (hw _ (List.mem_of_getElem? (i := 29) rfl))) (g := (mkF m 71 #[.val (.int p0), .val (.int p1), .val (.long p2), .second, .val (.int p3), .val (.int vm), .val (.int vv), .val (.long nv), .second, .val (.int lm), .unset, .unset, .unset, .unset, .unset, .unset] [])) rfl (hb hby at_71) _ ?_
            show Steps p.tables e below (T166.setTop (mkF m 74 #[.val (.int p0), .val (.int p1), .val (.long p2), .second, .val (.int p3), .val (.int vm), .val (.int vv), .val (.long nv), .second, .val (.int lm), .unset, .unset, .unset, .unset, .unset, .unset] [(.long (255 : Int64))])) _
            refine XS.goto X166.here hx rfl (pc0 := 74) (pc' := 92) rfl (hb hby at_74) (by decide) (by decide) ?_
            show Steps p.tables e below (T166.setTop (mkF m 92 #[.val (.int p0), .val (.int p1), .val (.long p2), .second, .val (.int p3), .val (.int vm), .val (.int vv), .val (.long nv), .second, .val (.int lm), .unset, .unset, .unset, .unset, .unset, .unset] [(.long (255 : Int64))])) _
            refine XS.lstore X166.here hx rfl (hb hby at_92) rfl (l' := #[.val (.int p0), .val (.int p1), .val (.long p2), .second, .val (.int p3), .val (.int vm), .val (.int vv), .val (.long nv), .second, .val (.int lm), .unset, .unset, .val (.long (255 : Int64)), .second, .unset, .unset]) rfl ?_
            show Steps p.tables e below (T166.setTop (mkF m 94 #[.val (.int p0), .val (.int p1), .val (.long p2), .second, .val (.int p3), .val (.int vm), .val (.int vv), .val (.long nv), .second, .val (.int lm), .unset, .unset, .val (.long (255 : Int64)), .second, .unset, .unset] [])) _
            refine XS.iload X166.here hx rfl (hb hby at_94) rfl ?_
            show Steps p.tables e below (T166.setTop (mkF m 96 #[.val (.int p0), .val (.int p1), .val (.long p2), .second, .val (.int p3), .val (.int vm), .val (.int vv), .val (.long nv), .second, .val (.int lm), .unset, .unset, .val (.long (255 : Int64)), .second, .unset, .unset] [(.int lm)])) _
            refine XS.iconst X166.here hx rfl (hb hby at_96) ?_
            show Steps p.tables e below (T166.setTop (mkF m 97 #[.val (.int p0), .val (.int p1), .val (.long p2), .second, .val (.int p3), .val (.int vm), .val (.int vv), .val (.long nv), .second, .val (.int lm), .unset, .unset, .val (.long (255 : Int64)), .second, .unset, .unset] [(.int (1 : Int32)), (.int lm)])) _
            refine XS.icmpNo X166.here hx rfl (hb hby at_97) rfl (teq hc68_175).2 ?_
            show Steps p.tables e below (T166.setTop (mkF m 100 #[.val (.int p0), .val (.int p1), .val (.long p2), .second, .val (.int p3), .val (.int vm), .val (.int vv), .val (.long nv), .second, .val (.int lm), .unset, .unset, .val (.long (255 : Int64)), .second, .unset, .unset] [])) _
            refine XS.lconst X166.here hx rfl (hb hby at_100) ?_
            show Steps p.tables e below (T166.setTop (mkF m 101 #[.val (.int p0), .val (.int p1), .val (.long p2), .second, .val (.int p3), .val (.int vm), .val (.int vv), .val (.long nv), .second, .val (.int lm), .unset, .unset, .val (.long (255 : Int64)), .second, .unset, .unset] [(.long (1 : Int64))])) _
            refine XS.lload X166.here hx rfl (hb hby at_101) rfl ?_
            show Steps p.tables e below (T166.setTop (mkF m 103 #[.val (.int p0), .val (.int p1), .val (.long p2), .second, .val (.int p3), .val (.int vm), .val (.int vv), .val (.long nv), .second, .val (.int lm), .unset, .unset, .val (.long (255 : Int64)), .second, .unset, .unset] [(.long nv), (.long (1 : Int64))])) _
            refine XS.ladd X166.here hx rfl (hb hby at_103) rfl ?_
            show Steps p.tables e below (T166.setTop (mkF m 104 #[.val (.int p0), .val (.int p1), .val (.long p2), .second, .val (.int p3), .val (.int vm), .val (.int vv), .val (.long nv), .second, .val (.int lm), .unset, .unset, .val (.long (255 : Int64)), .second, .unset, .unset] [(.long ((1 : Int64) + nv))])) _
            rw [h_tb]
            show Steps p.tables e below (T166.setTop (mkF m 104 #[.val (.int p0), .val (.int p1), .val (.long p2), .second, .val (.int p3), .val (.int vm), .val (.int vv), .val (.long nv), .second, .val (.int lm), .unset, .unset, .val (.long (255 : Int64)), .second, .unset, .unset] [(.long tb)])) _
            refine XS.goto X166.here hx rfl (pc0 := 104) (pc' := 136) rfl (hb hby at_104) (by decide) (by decide) ?_
            show Steps p.tables e below (T166.setTop (mkF m 136 #[.val (.int p0), .val (.int p1), .val (.long p2), .second, .val (.int p3), .val (.int vm), .val (.int vv), .val (.long nv), .second, .val (.int lm), .unset, .unset, .val (.long (255 : Int64)), .second, .unset, .unset] [(.long tb)])) _
            refine XS.lstore X166.here hx rfl (hb hby at_136) rfl (l' := #[.val (.int p0), .val (.int p1), .val (.long p2), .second, .val (.int p3), .val (.int vm), .val (.int vv), .val (.long nv), .second, .val (.int lm), .unset, .unset, .val (.long (255 : Int64)), .second, .val (.long tb), .second]) rfl ?_
            show Steps p.tables e below (T166.setTop (mkF m 138 #[.val (.int p0), .val (.int p1), .val (.long p2), .second, .val (.int p3), .val (.int vm), .val (.int vv), .val (.long nv), .second, .val (.int lm), .unset, .unset, .val (.long (255 : Int64)), .second, .val (.long tb), .second] [])) _
            refine XS.lconst X166.here hx rfl (hb hby at_138) ?_
            show Steps p.tables e below (T166.setTop (mkF m 139 #[.val (.int p0), .val (.int p1), .val (.long p2), .second, .val (.int p3), .val (.int vm), .val (.int vv), .val (.long nv), .second, .val (.int lm), .unset, .unset, .val (.long (255 : Int64)), .second, .val (.long tb), .second] [(.long (0 : Int64))])) _
            refine XS.lload X166.here hx rfl (hb hby at_139) rfl ?_
            show Steps p.tables e below (T166.setTop (mkF m 141 #[.val (.int p0), .val (.int p1), .val (.long p2), .second, .val (.int p3), .val (.int vm), .val (.int vv), .val (.long nv), .second, .val (.int lm), .unset, .unset, .val (.long (255 : Int64)), .second, .val (.long tb), .second] [(.long (255 : Int64)), (.long (0 : Int64))])) _
            refine XS.lload X166.here hx rfl (hb hby at_141) rfl ?_
            show Steps p.tables e below (T166.setTop (mkF m 143 #[.val (.int p0), .val (.int p1), .val (.long p2), .second, .val (.int p3), .val (.int vm), .val (.int vv), .val (.long nv), .second, .val (.int lm), .unset, .unset, .val (.long (255 : Int64)), .second, .val (.long tb), .second] [(.long tb), (.long (255 : Int64)), (.long (0 : Int64))])) _
            refine XS.lsub X166.here hx rfl (hb hby at_143) rfl ?_
            show Steps p.tables e below (T166.setTop (mkF m 144 #[.val (.int p0), .val (.int p1), .val (.long p2), .second, .val (.int p3), .val (.int vm), .val (.int vv), .val (.long nv), .second, .val (.int lm), .unset, .unset, .val (.long (255 : Int64)), .second, .val (.long tb), .second] [(.long ((255 : Int64) - tb)), (.long (0 : Int64))])) _
            refine XS.iload X166.here hx rfl (hb hby at_144) rfl ?_
            show Steps p.tables e below (T166.setTop (mkF m 146 #[.val (.int p0), .val (.int p1), .val (.long p2), .second, .val (.int p3), .val (.int vm), .val (.int vv), .val (.long nv), .second, .val (.int lm), .unset, .unset, .val (.long (255 : Int64)), .second, .val (.long tb), .second] [(.int p3), (.long ((255 : Int64) - tb)), (.long (0 : Int64))])) _
            refine XS.bipush X166.here hx rfl (hb hby at_146) ?_
            show Steps p.tables e below (T166.setTop (mkF m 148 #[.val (.int p0), .val (.int p1), .val (.long p2), .second, .val (.int p3), .val (.int vm), .val (.int vv), .val (.long nv), .second, .val (.int lm), .unset, .unset, .val (.long (255 : Int64)), .second, .val (.long tb), .second] [(.int (8 : Int32)), (.int p3), (.long ((255 : Int64) - tb)), (.long (0 : Int64))])) _
            refine Jvm.RoadKit.iremM (g := (mkF m 148 #[.val (.int p0), .val (.int p1), .val (.long p2), .second, .val (.int p3), .val (.int vm), .val (.int vv), .val (.long nv), .second, .val (.int lm), .unset, .unset, .val (.long (255 : Int64)), .second, .val (.long tb), .second] [(.int (8 : Int32)), (.int p3), (.long ((255 : Int64) - tb)), (.long (0 : Int64))])) X166 hx rfl (hb hby at_148) rfl (by decide) ?_
            show Steps p.tables e below (T166.setTop (mkF m 149 #[.val (.int p0), .val (.int p1), .val (.long p2), .second, .val (.int p3), .val (.int vm), .val (.int vv), .val (.long nv), .second, .val (.int lm), .unset, .unset, .val (.long (255 : Int64)), .second, .val (.long tb), .second] [(.int (p3 % (8 : Int32))), (.long ((255 : Int64) - tb)), (.long (0 : Int64))])) _
            refine XS.i2l X166.here hx rfl (hb hby at_149) rfl ?_
            show Steps p.tables e below (T166.setTop (mkF m 150 #[.val (.int p0), .val (.int p1), .val (.long p2), .second, .val (.int p3), .val (.int vm), .val (.int vv), .val (.long nv), .second, .val (.int lm), .unset, .unset, .val (.long (255 : Int64)), .second, .val (.long tb), .second] [(.long ((p3 % (8 : Int32)).toInt64)), (.long ((255 : Int64) - tb)), (.long (0 : Int64))])) _
            refine XS.ladd X166.here hx rfl (hb hby at_150) rfl ?_
            show Steps p.tables e below (T166.setTop (mkF m 151 #[.val (.int p0), .val (.int p1), .val (.long p2), .second, .val (.int p3), .val (.int vm), .val (.int vv), .val (.long nv), .second, .val (.int lm), .unset, .unset, .val (.long (255 : Int64)), .second, .val (.long tb), .second] [(.long (((255 : Int64) - tb) + ((p3 % (8 : Int32)).toInt64))), (.long (0 : Int64))])) _
            rw [h_xx]
            show Steps p.tables e below (T166.setTop (mkF m 151 #[.val (.int p0), .val (.int p1), .val (.long p2), .second, .val (.int p3), .val (.int vm), .val (.int vv), .val (.long nv), .second, .val (.int lm), .unset, .unset, .val (.long (255 : Int64)), .second, .val (.long tb), .second] [(.long xx), (.long (0 : Int64))])) _
            refine st176 _ ?_
            show Steps p.tables e below (T176.setTop (mkF m 154 #[.val (.int p0), .val (.int p1), .val (.long p2), .second, .val (.int p3), .val (.int vm), .val (.int vv), .val (.long nv), .second, .val (.int lm), .unset, .unset, .val (.long (255 : Int64)), .second, .val (.long tb), .second] [(.long (if (lcmpW (0 : Int64) xx) < (0 : Int32) then xx else (0 : Int64)))])) _
            rw [h_ls]
            show Steps p.tables e below (T176.setTop (mkF m 154 #[.val (.int p0), .val (.int p1), .val (.long p2), .second, .val (.int p3), .val (.int vm), .val (.int vv), .val (.long nv), .second, .val (.int lm), .unset, .unset, .val (.long (255 : Int64)), .second, .val (.long tb), .second] [(.long ls)])) _
            refine XS.lstore X176.here hx rfl (hb hby at_154) rfl (l' := #[.val (.int p0), .val (.int p1), .val (.long p2), .second, .val (.int p3), .val (.int vm), .val (.int vv), .val (.long nv), .second, .val (.int lm), .val (.long ls), .second, .val (.long (255 : Int64)), .second, .val (.long tb), .second]) rfl ?_
            show Steps p.tables e below (T176.setTop (mkF m 156 #[.val (.int p0), .val (.int p1), .val (.long p2), .second, .val (.int p3), .val (.int vm), .val (.int vv), .val (.long nv), .second, .val (.int lm), .val (.long ls), .second, .val (.long (255 : Int64)), .second, .val (.long tb), .second] [])) _
            refine XS.iload X176.here hx rfl (hb hby at_156) rfl ?_
            show Steps p.tables e below (T176.setTop (mkF m 158 #[.val (.int p0), .val (.int p1), .val (.long p2), .second, .val (.int p3), .val (.int vm), .val (.int vv), .val (.long nv), .second, .val (.int lm), .val (.long ls), .second, .val (.long (255 : Int64)), .second, .val (.long tb), .second] [(.int vv)])) _
            refine XS.lload X176.here hx rfl (hb hby at_158) rfl ?_
            show Steps p.tables e below (T176.setTop (mkF m 160 #[.val (.int p0), .val (.int p1), .val (.long p2), .second, .val (.int p3), .val (.int vm), .val (.int vv), .val (.long nv), .second, .val (.int lm), .val (.long ls), .second, .val (.long (255 : Int64)), .second, .val (.long tb), .second] [(.long ls), (.int vv)])) _
            refine st177 _ ?_
            exact kt
          (try clear N177q); (try clear st177); (try clear Lc177); (try clear n177); (try clear k177); (try clear L177); (try clear N176); (try clear e176); (try clear N176q); (try clear st176); (try clear Lc176); (try clear X176); (try clear n176); (try clear k176); (try clear L176); (try clear T176)
          rcases own_spec_two vv.toInt ls.toInt w_NONE w_TINY w_MEDIUM w_LARGE with ⟨wq, hv179⟩ | hv180
          · -- wq
            obtain ⟨_, _, ⟨T181, L181, k181, n181⟩, -, X181, ⟨Lc181, hQ181, l181, y181, z181⟩, st181⟩ := Jvm.LawKit.callS X177 hx (y := (⟨"com/example/rowstrata/rowstrata/row/VarTableSmallestPinLaw", "expected", "(IJ)Lcom/example/rowstrata/rowstrata/row/VarTable;"⟩ : MethodName)) hown (mvT hZ (hw _ (List.mem_of_getElem? (i := 25) rfl))) (mvT hZ (hw _ (List.mem_of_getElem? (i := 26) rfl))) (mvT hZ (hw _ (List.mem_of_getElem? (i := 27) rfl))) (mvT hZ (hw _ (List.mem_of_getElem? (i := 28) rfl))) (by decide) (backOf (W := 1) (rm_exp l Z a0 hw [] vv ls h0 n0 Z0 w_TINY w_NONE w_MEDIUM w_LARGE hWd hls.1 hls.2) hZ (hw _ (List.mem_of_getElem? (i := 28) rfl)) (hw _ (List.mem_of_getElem? (i := 27) rfl)) (by decide) (by decide)) (g := (mkF m 171 #[.val (.int p0), .val (.int p1), .val (.long p2), .second, .val (.int p3), .val (.int vm), .val (.int vv), .val (.long nv), .second, .val (.int lm), .val (.long ls), .second, .val (.ref wq), .unset, .val (.long tb), .second] [(.long ls), (.int vv), (.ref wq)])) rfl (by rw [hml]; rfl) (argsL := [(.int vv), (.long ls)]) (rest := [(.ref wq)]) (lenOf pd_137 rfl) rfl (by show 2 * 0 + _ ≤ _; exact Nat.le_of_eq rfl) (hb hby at_171) (fun _ _ => ⟨rfl, e177, (by decide : 0 + 0 ≤ _), (by decide : 0 + 0 ≤ _)⟩)
            dsimp only [Pt.U, Pt.locs, Pt.cells, Pt.slots] at X181 l181 y181 z181 st181 hQ181
            subst l181 y181 z181
            obtain ⟨rfl, N181q, e181⟩ := hQ181
            have N181 := Fr.app N177 N181q
            obtain ⟨fs, hr, hrun, hended, hW, hsame⟩ := X181.leave (v := some (.int (1 : Int32))) (fun h => by rw [Bd.returns] at h; cases h)
            refine ⟨_, _, ck178 _ ?_, hrun, hended, _, _, rfl, ?_, ⟨_, rfl⟩, hW, hsame.mono (by decide) (by decide)⟩
            · show Steps p.tables e below (T177.setTop (mkF m 163 #[.val (.int p0), .val (.int p1), .val (.long p2), .second, .val (.int p3), .val (.int vm), .val (.int vv), .val (.long nv), .second, .val (.int lm), .val (.long ls), .second, .val (.long (255 : Int64)), .second, .val (.long tb), .second] [(own_spec vv.toInt ls.toInt w_NONE w_TINY w_MEDIUM w_LARGE)])) _
              rw [hv179]
              show Steps p.tables e below (T177.setTop (mkF m 163 #[.val (.int p0), .val (.int p1), .val (.long p2), .second, .val (.int p3), .val (.int vm), .val (.int vv), .val (.long nv), .second, .val (.int lm), .val (.long ls), .second, .val (.long (255 : Int64)), .second, .val (.long tb), .second] [(.ref wq)])) _
              refine XS.astore X177.here hx rfl (hb hby at_163) rfl rfl (l' := #[.val (.int p0), .val (.int p1), .val (.long p2), .second, .val (.int p3), .val (.int vm), .val (.int vv), .val (.long nv), .second, .val (.int lm), .val (.long ls), .second, .val (.ref wq), .unset, .val (.long tb), .second]) rfl ?_
              show Steps p.tables e below (T177.setTop (mkF m 165 #[.val (.int p0), .val (.int p1), .val (.long p2), .second, .val (.int p3), .val (.int vm), .val (.int vv), .val (.long nv), .second, .val (.int lm), .val (.long ls), .second, .val (.ref wq), .unset, .val (.long tb), .second] [])) _
              refine XS.aload X177.here hx rfl (hb hby at_165) rfl rfl ?_
              show Steps p.tables e below (T177.setTop (mkF m 167 #[.val (.int p0), .val (.int p1), .val (.long p2), .second, .val (.int p3), .val (.int vm), .val (.int vv), .val (.long nv), .second, .val (.int lm), .val (.long ls), .second, .val (.ref wq), .unset, .val (.long tb), .second] [(.ref wq)])) _
              refine XS.iload X177.here hx rfl (hb hby at_167) rfl ?_
              show Steps p.tables e below (T177.setTop (mkF m 169 #[.val (.int p0), .val (.int p1), .val (.long p2), .second, .val (.int p3), .val (.int vm), .val (.int vv), .val (.long nv), .second, .val (.int lm), .val (.long ls), .second, .val (.ref wq), .unset, .val (.long tb), .second] [(.int vv), (.ref wq)])) _
              refine XS.lload X177.here hx rfl (hb hby at_169) rfl ?_
              show Steps p.tables e below (T177.setTop (mkF m 171 #[.val (.int p0), .val (.int p1), .val (.long p2), .second, .val (.int p3), .val (.int vm), .val (.int vv), .val (.long nv), .second, .val (.int lm), .val (.long ls), .second, .val (.ref wq), .unset, .val (.long tb), .second] [(.long ls), (.int vv), (.ref wq)])) _
              refine st181 _ ?_
              show Steps p.tables e below (T181.setTop (mkF m 174 #[.val (.int p0), .val (.int p1), .val (.long p2), .second, .val (.int p3), .val (.int vm), .val (.int vv), .val (.long nv), .second, .val (.int lm), .val (.long ls), .second, .val (.ref wq), .unset, .val (.long tb), .second] [(own_spec vv.toInt ls.toInt w_NONE w_TINY w_MEDIUM w_LARGE), (.ref wq)])) _
              rw [hv179]
              show Steps p.tables e below (T181.setTop (mkF m 174 #[.val (.int p0), .val (.int p1), .val (.long p2), .second, .val (.int p3), .val (.int vm), .val (.int vv), .val (.long nv), .second, .val (.int lm), .val (.long ls), .second, .val (.ref wq), .unset, .val (.long tb), .second] [(.ref wq), (.ref wq)])) _
              refine Jvm.RoadKit.acmp (g := (mkF m 174 #[.val (.int p0), .val (.int p1), .val (.long p2), .second, .val (.int p3), .val (.int vm), .val (.int vv), .val (.long nv), .second, .val (.int lm), .val (.long ls), .second, .val (.ref wq), .unset, .val (.long tb), .second] [(.ref wq), (.ref wq)])) X181 hx rfl rfl rfl (pc0 := 174) (pc' := 177) (same := true) rfl (hb hby at_174) rfl (decide_eq_true rfl) (by decide) (by decide) ?_
              show Steps p.tables e below (T181.setTop (mkF m 177 #[.val (.int p0), .val (.int p1), .val (.long p2), .second, .val (.int p3), .val (.int vm), .val (.int vv), .val (.long nv), .second, .val (.int lm), .val (.long ls), .second, .val (.ref wq), .unset, .val (.long tb), .second] [])) _
              refine XS.iconst X181.here hx rfl (hb hby at_177) ?_
              show Steps p.tables e below (T181.setTop (mkF m 178 #[.val (.int p0), .val (.int p1), .val (.long p2), .second, .val (.int p3), .val (.int vm), .val (.int vv), .val (.long nv), .second, .val (.int lm), .val (.long ls), .second, .val (.ref wq), .unset, .val (.long tb), .second] [(.int (1 : Int32))])) _
              refine XS.goto X181.here hx rfl (pc0 := 178) (pc' := 182) rfl (hb hby at_178) (by decide) (by decide) ?_
              show Steps p.tables e below (T181.setTop (mkF m 182 #[.val (.int p0), .val (.int p1), .val (.long p2), .second, .val (.int p3), .val (.int vm), .val (.int vv), .val (.long nv), .second, .val (.int lm), .val (.long ls), .second, .val (.ref wq), .unset, .val (.long tb), .second] [(.int (1 : Int32))])) _
              exact retN X181 hx (t := .boolean) Bd.returns (by simp) (hb hby at_182) hr
            · show own_Pure (some (.int 1)) h0 n0 _ T181.heap _
              rw [e181]
              exact ⟨rfl, N181, rfl⟩
          · -- null
            obtain ⟨_, _, ⟨T182, L182, k182, n182⟩, -, X182, ⟨Lc182, hQ182, l182, y182, z182⟩, st182⟩ := Jvm.LawKit.callS X177 hx (y := (⟨"com/example/rowstrata/rowstrata/row/VarTableSmallestPinLaw", "expected", "(IJ)Lcom/example/rowstrata/rowstrata/row/VarTable;"⟩ : MethodName)) hown (mvT hZ (hw _ (List.mem_of_getElem? (i := 25) rfl))) (mvT hZ (hw _ (List.mem_of_getElem? (i := 26) rfl))) (mvT hZ (hw _ (List.mem_of_getElem? (i := 27) rfl))) (mvT hZ (hw _ (List.mem_of_getElem? (i := 28) rfl))) (by decide) (backOf (W := 1) (rm_exp l Z a0 hw [] vv ls h0 n0 Z0 w_TINY w_NONE w_MEDIUM w_LARGE hWd hls.1 hls.2) hZ (hw _ (List.mem_of_getElem? (i := 28) rfl)) (hw _ (List.mem_of_getElem? (i := 27) rfl)) (by decide) (by decide)) (g := (mkF m 171 #[.val (.int p0), .val (.int p1), .val (.long p2), .second, .val (.int p3), .val (.int vm), .val (.int vv), .val (.long nv), .second, .val (.int lm), .val (.long ls), .second, .val .null, .unset, .val (.long tb), .second] [(.long ls), (.int vv), .null])) rfl (by rw [hml]; rfl) (argsL := [(.int vv), (.long ls)]) (rest := [.null]) (lenOf pd_137 rfl) rfl (by show 2 * 0 + _ ≤ _; exact Nat.le_of_eq rfl) (hb hby at_171) (fun _ _ => ⟨rfl, e177, (by decide : 0 + 0 ≤ _), (by decide : 0 + 0 ≤ _)⟩)
            dsimp only [Pt.U, Pt.locs, Pt.cells, Pt.slots] at X182 l182 y182 z182 st182 hQ182
            subst l182 y182 z182
            obtain ⟨rfl, N182q, e182⟩ := hQ182
            have N182 := Fr.app N177 N182q
            obtain ⟨fs, hr, hrun, hended, hW, hsame⟩ := X182.leave (v := some (.int (1 : Int32))) (fun h => by rw [Bd.returns] at h; cases h)
            refine ⟨_, _, ck178 _ ?_, hrun, hended, _, _, rfl, ?_, ⟨_, rfl⟩, hW, hsame.mono (by decide) (by decide)⟩
            · show Steps p.tables e below (T177.setTop (mkF m 163 #[.val (.int p0), .val (.int p1), .val (.long p2), .second, .val (.int p3), .val (.int vm), .val (.int vv), .val (.long nv), .second, .val (.int lm), .val (.long ls), .second, .val (.long (255 : Int64)), .second, .val (.long tb), .second] [(own_spec vv.toInt ls.toInt w_NONE w_TINY w_MEDIUM w_LARGE)])) _
              rw [hv180]
              show Steps p.tables e below (T177.setTop (mkF m 163 #[.val (.int p0), .val (.int p1), .val (.long p2), .second, .val (.int p3), .val (.int vm), .val (.int vv), .val (.long nv), .second, .val (.int lm), .val (.long ls), .second, .val (.long (255 : Int64)), .second, .val (.long tb), .second] [.null])) _
              refine XS.astore X177.here hx rfl (hb hby at_163) rfl rfl (l' := #[.val (.int p0), .val (.int p1), .val (.long p2), .second, .val (.int p3), .val (.int vm), .val (.int vv), .val (.long nv), .second, .val (.int lm), .val (.long ls), .second, .val .null, .unset, .val (.long tb), .second]) rfl ?_
              show Steps p.tables e below (T177.setTop (mkF m 165 #[.val (.int p0), .val (.int p1), .val (.long p2), .second, .val (.int p3), .val (.int vm), .val (.int vv), .val (.long nv), .second, .val (.int lm), .val (.long ls), .second, .val .null, .unset, .val (.long tb), .second] [])) _
              refine XS.aload X177.here hx rfl (hb hby at_165) rfl rfl ?_
              show Steps p.tables e below (T177.setTop (mkF m 167 #[.val (.int p0), .val (.int p1), .val (.long p2), .second, .val (.int p3), .val (.int vm), .val (.int vv), .val (.long nv), .second, .val (.int lm), .val (.long ls), .second, .val .null, .unset, .val (.long tb), .second] [.null])) _
              refine XS.iload X177.here hx rfl (hb hby at_167) rfl ?_
              show Steps p.tables e below (T177.setTop (mkF m 169 #[.val (.int p0), .val (.int p1), .val (.long p2), .second, .val (.int p3), .val (.int vm), .val (.int vv), .val (.long nv), .second, .val (.int lm), .val (.long ls), .second, .val .null, .unset, .val (.long tb), .second] [(.int vv), .null])) _
              refine XS.lload X177.here hx rfl (hb hby at_169) rfl ?_
              show Steps p.tables e below (T177.setTop (mkF m 171 #[.val (.int p0), .val (.int p1), .val (.long p2), .second, .val (.int p3), .val (.int vm), .val (.int vv), .val (.long nv), .second, .val (.int lm), .val (.long ls), .second, .val .null, .unset, .val (.long tb), .second] [(.long ls), (.int vv), .null])) _
              refine st182 _ ?_
              show Steps p.tables e below (T182.setTop (mkF m 174 #[.val (.int p0), .val (.int p1), .val (.long p2), .second, .val (.int p3), .val (.int vm), .val (.int vv), .val (.long nv), .second, .val (.int lm), .val (.long ls), .second, .val .null, .unset, .val (.long tb), .second] [(own_spec vv.toInt ls.toInt w_NONE w_TINY w_MEDIUM w_LARGE), .null])) _
              rw [hv180]
              show Steps p.tables e below (T182.setTop (mkF m 174 #[.val (.int p0), .val (.int p1), .val (.long p2), .second, .val (.int p3), .val (.int vm), .val (.int vv), .val (.long nv), .second, .val (.int lm), .val (.long ls), .second, .val .null, .unset, .val (.long tb), .second] [.null, .null])) _
              refine Jvm.RoadKit.acmp (g := (mkF m 174 #[.val (.int p0), .val (.int p1), .val (.long p2), .second, .val (.int p3), .val (.int vm), .val (.int vv), .val (.long nv), .second, .val (.int lm), .val (.long ls), .second, .val .null, .unset, .val (.long tb), .second] [.null, .null])) X182 hx rfl rfl rfl (pc0 := 174) (pc' := 177) (same := true) rfl (hb hby at_174) rfl (decide_eq_true rfl) (by decide) (by decide) ?_
              show Steps p.tables e below (T182.setTop (mkF m 177 #[.val (.int p0), .val (.int p1), .val (.long p2), .second, .val (.int p3), .val (.int vm), .val (.int vv), .val (.long nv), .second, .val (.int lm), .val (.long ls), .second, .val .null, .unset, .val (.long tb), .second] [])) _
              refine XS.iconst X182.here hx rfl (hb hby at_177) ?_
              show Steps p.tables e below (T182.setTop (mkF m 178 #[.val (.int p0), .val (.int p1), .val (.long p2), .second, .val (.int p3), .val (.int vm), .val (.int vv), .val (.long nv), .second, .val (.int lm), .val (.long ls), .second, .val .null, .unset, .val (.long tb), .second] [(.int (1 : Int32))])) _
              refine XS.goto X182.here hx rfl (pc0 := 178) (pc' := 182) rfl (hb hby at_178) (by decide) (by decide) ?_
              show Steps p.tables e below (T182.setTop (mkF m 182 #[.val (.int p0), .val (.int p1), .val (.long p2), .second, .val (.int p3), .val (.int vm), .val (.int vv), .val (.long nv), .second, .val (.int lm), .val (.long ls), .second, .val .null, .unset, .val (.long tb), .second] [(.int (1 : Int32))])) _
              exact retN X182 hx (t := .boolean) Bd.returns (by simp) (hb hby at_182) hr
            · show own_Pure (some (.int 1)) h0 n0 _ T182.heap _
              rw [e182]
              exact ⟨rfl, N182, rfl⟩
        · -- pc 68: not lm = (1 : Int32)
          have ck184 : ∀ t, Steps p.tables e below (T166.setTop (mkF m 80 #[.val (.int p0), .val (.int p1), .val (.long p2), .second, .val (.int p3), .val (.int vm), .val (.int vv), .val (.long nv), .second, .val (.int lm), .unset, .unset, .unset, .unset, .unset, .unset] [(.int (2 : Int32)), (.int lm)])) t → Steps p.tables e below (s₁.setTop (entryFrame m #[(.int p0), (.int p1), (.long p2), (.int p3)] maxLocals)) t := by
            intro t kt
            refine ck168 _ ?_
            show Steps p.tables e below (T166.setTop (mkF m 54 #[.val (.int p0), .val (.int p1), .val (.long p2), .second, .val (.int p3), .val (.int vm), .val (.int vv), .val (.long nv), .second, .val (.int lm), .unset, .unset, .unset, .unset, .unset, .unset] [(.int lm)])) _
            refine XS.ifYes X166.here hx rfl (pc0 := 54) (pc' := 65) rfl (hb hby at_54) rfl ((if0 _ _).trans (feq hc54_167).2) (by decide) (by decide) ?_
            show Steps p.tables e below (T166.setTop (mkF m 65 #[.val (.int p0), .val (.int p1), .val (.long p2), .second, .val (.int p3), .val (.int vm), .val (.int vv), .val (.long nv), .second, .val (.int lm), .unset, .unset, .unset, .unset, .unset, .unset] [])) _
            refine XS.iload X166.here hx rfl (hb hby at_65) rfl ?_
            show Steps p.tables e below (T166.setTop (mkF m 67 #[.val (.int p0), .val (.int p1), .val (.long p2), .second, .val (.int p3), .val (.int vm), .val (.int vv), .val (.long nv), .second, .val (.int lm), .unset, .unset, .unset, .unset, .unset, .unset] [(.int lm)])) _
            refine XS.iconst X166.here hx rfl (hb hby at_67) ?_
            show Steps p.tables e below (T166.setTop (mkF m 68 #[.val (.int p0), .val (.int p1), .val (.long p2), .second, .val (.int p3), .val (.int vm), .val (.int vv), .val (.long nv), .second, .val (.int lm), .unset, .unset, .unset, .unset, .unset, .unset] [(.int (1 : Int32)), (.int lm)])) _
            refine XS.icmpYes X166.here hx rfl (pc0 := 68) (pc' := 77) rfl (hb hby at_68) rfl (feq hc68_175).2 (by decide) (by decide) ?_
            show Steps p.tables e below (T166.setTop (mkF m 77 #[.val (.int p0), .val (.int p1), .val (.long p2), .second, .val (.int p3), .val (.int vm), .val (.int vv), .val (.long nv), .second, .val (.int lm), .unset, .unset, .unset, .unset, .unset, .unset] [])) _
            refine XS.iload X166.here hx rfl (hb hby at_77) rfl ?_
            show Steps p.tables e below (T166.setTop (mkF m 79 #[.val (.int p0), .val (.int p1), .val (.long p2), .second, .val (.int p3), .val (.int vm), .val (.int vv), .val (.long nv), .second, .val (.int lm), .unset, .unset, .unset, .unset, .unset, .unset] [(.int lm)])) _
            refine XS.iconst X166.here hx rfl (hb hby at_79) ?_
            exact kt
          by_cases hc80_183 : lm = (2 : Int32)
          · -- pc 80: lm = (2 : Int32)
            obtain ⟨tb, h_tb⟩ : ∃ z : Int64, ((2 : Int64) + ((2 : Int64) * nv)) = z := ⟨_, rfl⟩
            have htb : 0 ≤ tb.toInt ∧ tb.toInt ≤ 8589934590 := by rw [← h_tb]; exact own_tb122 hnv.1 hnv.2
            obtain ⟨xx, h_xx⟩ : ∃ z : Int64, (((65535 : Int64) - tb) + ((p3 % (8 : Int32)).toInt64)) = z := ⟨_, rfl⟩
            have hxx : xx.toInt ≤ 4294967303 := by rw [← h_xx]; exact own_xx (by decide) htb.1 htb.2
            obtain ⟨_, _, ⟨T185, L185, k185, n185⟩, -, X185, ⟨Lc185, hQ185, l185, y185, z185⟩, st185⟩ := Jvm.LawKit.callS X166 hx (y := (⟨"java/lang/Math", "max", "(JJ)J"⟩ : MethodName)) hown (mvT hZ (hw _ (List.mem_of_getElem? (i := 0) rfl))) (mvT hZ (hw _ (List.mem_of_getElem? (i := 1) rfl))) (mvT hZ (hw _ (List.mem_of_getElem? (i := 2) rfl))) (mvT hZ (hw _ (List.mem_of_getElem? (i := 3) rfl))) (by decide) (backOf (W := 0) (rm_max l Z a0 hw [] (0 : Int64) xx h0 n0 Z0 (if (lcmpW (0 : Int64) xx) < (0 : Int32) then xx else (0 : Int64)) rfl) hZ (hw _ (List.mem_of_getElem? (i := 3) rfl)) (hw _ (List.mem_of_getElem? (i := 2) rfl)) (by decide) (by decide)) (g := (mkF m 151 #[.val (.int p0), .val (.int p1), .val (.long p2), .second, .val (.int p3), .val (.int vm), .val (.int vv), .val (.long nv), .second, .val (.int lm), .unset, .unset, .val (.long (65535 : Int64)), .second, .val (.long tb), .second] [(.long xx), (.long (0 : Int64))])) rfl (by rw [hml]; rfl) (argsL := [(.long (0 : Int64)), (.long xx)]) (rest := []) (lenOf pd_136 rfl) rfl (by show 2 * 0 + _ ≤ _; exact Nat.le_of_eq rfl) (hb hby at_151) (fun _ _ => ⟨rfl, e166, (by decide : 0 + 0 ≤ _), (by decide : 0 + 0 ≤ _)⟩)
            dsimp only [Pt.U, Pt.locs, Pt.cells, Pt.slots] at X185 l185 y185 z185 st185 hQ185
            subst l185 y185 z185
            obtain ⟨rfl, N185q, e185⟩ := hQ185
            have N185 := Fr.app N166 N185q
            obtain ⟨ls, h_ls⟩ : ∃ z : Int64, (if (lcmpW (0 : Int64) xx) < (0 : Int32) then xx else (0 : Int64)) = z := ⟨_, rfl⟩
            have hls : 0 ≤ ls.toInt ∧ ls.toInt ≤ 4611686018427387904 := by rw [← h_ls]; exact own_mx2 hxx
            obtain ⟨_, _, ⟨T186, L186, k186, n186⟩, -, X186, ⟨Lc186, hQ186, l186, y186, z186⟩, st186⟩ := Jvm.LawKit.callS X185 hx (y := (⟨"com/example/rowstrata/rowstrata/row/VarTable", "smallest", "(IJ)Lcom/example/rowstrata/rowstrata/row/VarTable;"⟩ : MethodName)) hown (mvT hZ (hw _ (List.mem_of_getElem? (i := 4) rfl))) (mvT hZ (hw _ (List.mem_of_getElem? (i := 5) rfl))) (mvT hZ (hw _ (List.mem_of_getElem? (i := 6) rfl))) (mvT hZ (hw _ (List.mem_of_getElem? (i := 7) rfl))) (by decide) (backOf (W := 0) (rm_sm l Z a0 hw [] vv ls h0 n0 Z0 w_TINY w_NONE w_MEDIUM w_LARGE hWd w_WT kWT S_WT A_WT hls.1 hls.2) hZ (hw _ (List.mem_of_getElem? (i := 7) rfl)) (hw _ (List.mem_of_getElem? (i := 6) rfl)) (by decide) (by decide)) (g := (mkF m 160 #[.val (.int p0), .val (.int p1), .val (.long p2), .second, .val (.int p3), .val (.int vm), .val (.int vv), .val (.long nv), .second, .val (.int lm), .val (.long ls), .second, .val (.long (65535 : Int64)), .second, .val (.long tb), .second] [(.long ls), (.int vv)])) rfl (by rw [hml]; rfl) (argsL := [(.int vv), (.long ls)]) (rest := []) (lenOf pd_137 rfl) rfl (by show 2 * 0 + _ ≤ _; exact Nat.le_of_eq rfl) (hb hby at_160) (fun _ _ => ⟨rfl, e185, (by decide : 0 + 0 ≤ _), (by decide : 0 + 0 ≤ _)⟩)
            dsimp only [Pt.U, Pt.locs, Pt.cells, Pt.slots] at X186 l186 y186 z186 st186 hQ186
            subst l186 y186 z186
            obtain ⟨rfl, N186q, e186⟩ := hQ186
            have N186 := Fr.app N185 N186q
            have ck187 : ∀ t, Steps p.tables e below (T186.setTop (mkF m 163 #[.val (.int p0), .val (.int p1), .val (.long p2), .second, .val (.int p3), .val (.int vm), .val (.int vv), .val (.long nv), .second, .val (.int lm), .val (.long ls), .second, .val (.long (65535 : Int64)), .second, .val (.long tb), .second] [(own_spec vv.toInt ls.toInt w_NONE w_TINY w_MEDIUM w_LARGE)])) t → Steps p.tables e below (s₁.setTop (entryFrame m #[(.int p0), (.int p1), (.long p2), (.int p3)] maxLocals)) t := by
              intro t kt
              refine ck184 _ ?_
              show Steps p.tables e below (T166.setTop (mkF m 80 #[.val (.int p0), .val (.int p1), .val (.long p2), .second, .val (.int p3), .val (.int vm), .val (.int vv), .val (.long nv), .second, .val (.int lm), .unset, .unset, .unset, .unset, .unset, .unset] [(.int (2 : Int32)), (.int lm)])) _
              refine XS.icmpNo X166.here hx rfl (hb hby at_80) rfl (teq hc80_183).2 ?_
              show Steps p.tables e below (T166.setTop (mkF m 83 #[.val (.int p0), .val (.int p1), .val (.long p2), .second, .val (.int p3), .val (.int vm), .val (.int vv), .val (.long nv), .second, .val (.int lm), .unset, .unset, .unset, .unset, .unset, .unset] [])) _
              refine X166.ldc2Long hx hown (mvT hZ (hw _ (List.mem_of_getElem? (i := 32) rfl))) (g := (mkF m 83 #[.val (.int p0), .val (.int p1), .val (.long p2), .second, .val (.int p3), .val (.int vm), .val (.int vv), .val (.long nv), .second, .val (.int lm), .unset, .unset, .unset, .unset, .unset, .unset] [])) rfl (hb hby at_83) _ ?_
              show Steps p.tables e below (T166.setTop (mkF m 86 #[.val (.int p0), .val (.int p1), .val (.long p2), .second, .val (.int p3), .val (.int vm), .val (.int vv), .val (.long nv), .second, .val (.int lm), .unset, .unset, .unset, .unset, .unset, .unset] [(.long (65535 : Int64))])) _
              refine XS.goto X166.here hx rfl (pc0 := 86) (pc' := 92) rfl (hb hby at_86) (by decide) (by decide) ?_
              show Steps p.tables e below (T166.setTop (mkF m 92 #[.val (.int p0), .val (.int p1), .val (.long p2), .second, .val (.int p3), .val (.int vm), .val (.int vv), .val (.long nv), .second, .val (.int lm), .unset, .unset, .unset, .unset, .unset, .unset] [(.long (65535 : Int64))])) _
              refine XS.lstore X166.here hx rfl (hb hby at_92) rfl (l' := #[.val (.int p0), .val (.int p1), .val (.long p2), .second, .val (.int p3), .val (.int vm), .val (.int vv), .val (.long nv), .second, .val (.int lm), .unset, .unset, .val (.long (65535 : Int64)), .second, .unset, .unset]) rfl ?_
              show Steps p.tables e below (T166.setTop (mkF m 94 #[.val (.int p0), .val (.int p1), .val (.long p2), .second, .val (.int p3), .val (.int vm), .val (.int vv), .val (.long nv), .second, .val (.int lm), .unset, .unset, .val (.long (65535 : Int64)), .second, .unset, .unset] [])) _
              refine XS.iload X166.here hx rfl (hb hby at_94) rfl ?_
              show Steps p.tables e below (T166.setTop (mkF m 96 #[.val (.int p0), .val (.int p1), .val (.long p2), .second, .val (.int p3), .val (.int vm), .val (.int vv), .val (.long nv), .second, .val (.int lm), .unset, .unset, .val (.long (65535 : Int64)), .second, .unset, .unset] [(.int lm)])) _
              refine XS.iconst X166.here hx rfl (hb hby at_96) ?_
              show Steps p.tables e below (T166.setTop (mkF m 97 #[.val (.int p0), .val (.int p1), .val (.long p2), .second, .val (.int p3), .val (.int vm), .val (.int vv), .val (.long nv), .second, .val (.int lm), .unset, .unset, .val (.long (65535 : Int64)), .second, .unset, .unset] [(.int (1 : Int32)), (.int lm)])) _
              refine XS.icmpYes X166.here hx rfl (pc0 := 97) (pc' := 107) rfl (hb hby at_97) rfl (feq hc68_175).2 (by decide) (by decide) ?_
              show Steps p.tables e below (T166.setTop (mkF m 107 #[.val (.int p0), .val (.int p1), .val (.long p2), .second, .val (.int p3), .val (.int vm), .val (.int vv), .val (.long nv), .second, .val (.int lm), .unset, .unset, .val (.long (65535 : Int64)), .second, .unset, .unset] [])) _
              refine XS.iload X166.here hx rfl (hb hby at_107) rfl ?_
              show Steps p.tables e below (T166.setTop (mkF m 109 #[.val (.int p0), .val (.int p1), .val (.long p2), .second, .val (.int p3), .val (.int vm), .val (.int vv), .val (.long nv), .second, .val (.int lm), .unset, .unset, .val (.long (65535 : Int64)), .second, .unset, .unset] [(.int lm)])) _
              refine XS.iconst X166.here hx rfl (hb hby at_109) ?_
              show Steps p.tables e below (T166.setTop (mkF m 110 #[.val (.int p0), .val (.int p1), .val (.long p2), .second, .val (.int p3), .val (.int vm), .val (.int vv), .val (.long nv), .second, .val (.int lm), .unset, .unset, .val (.long (65535 : Int64)), .second, .unset, .unset] [(.int (2 : Int32)), (.int lm)])) _
              refine XS.icmpNo X166.here hx rfl (hb hby at_110) rfl (teq hc80_183).2 ?_
              show Steps p.tables e below (T166.setTop (mkF m 113 #[.val (.int p0), .val (.int p1), .val (.long p2), .second, .val (.int p3), .val (.int vm), .val (.int vv), .val (.long nv), .second, .val (.int lm), .unset, .unset, .val (.long (65535 : Int64)), .second, .unset, .unset] [])) _
              refine X166.ldc2Long hx hown (mvT hZ (hw _ (List.mem_of_getElem? (i := 33) rfl))) (g := (mkF m 113 #[.val (.int p0), .val (.int p1), .val (.long p2), .second, .val (.int p3), .val (.int vm), .val (.int vv), .val (.long nv), .second, .val (.int lm), .unset, .unset, .val (.long (65535 : Int64)), .second, .unset, .unset] [])) rfl (hb hby at_113) _ ?_
              show Steps p.tables e below (T166.setTop (mkF m 116 #[.val (.int p0), .val (.int p1), .val (.long p2), .second, .val (.int p3), .val (.int vm), .val (.int vv), .val (.long nv), .second, .val (.int lm), .unset, .unset, .val (.long (65535 : Int64)), .second, .unset, .unset] [(.long (2 : Int64))])) _
              refine X166.ldc2Long hx hown (mvT hZ (hw _ (List.mem_of_getElem? (i := 33) rfl))) (g := (mkF m 116 #[.val (.int p0), .val (.int p1), .val (.long p2), .second, .val (.int p3), .val (.int vm), .val (.int vv), .val (.long nv), .second, .val (.int lm), .unset, .unset, .val (.long (65535 : Int64)), .second, .unset, .unset] [(.long (2 : Int64))])) rfl (hb hby at_116) _ ?_
              show Steps p.tables e below (T166.setTop (mkF m 119 #[.val (.int p0), .val (.int p1), .val (.long p2), .second, .val (.int p3), .val (.int vm), .val (.int vv), .val (.long nv), .second, .val (.int lm), .unset, .unset, .val (.long (65535 : Int64)), .second, .unset, .unset] [(.long (2 : Int64)), (.long (2 : Int64))])) _
              refine XS.lload X166.here hx rfl (hb hby at_119) rfl ?_
              show Steps p.tables e below (T166.setTop (mkF m 121 #[.val (.int p0), .val (.int p1), .val (.long p2), .second, .val (.int p3), .val (.int vm), .val (.int vv), .val (.long nv), .second, .val (.int lm), .unset, .unset, .val (.long (65535 : Int64)), .second, .unset, .unset] [(.long nv), (.long (2 : Int64)), (.long (2 : Int64))])) _
              refine XS.lmul X166.here hx rfl (hb hby at_121) rfl ?_
              show Steps p.tables e below (T166.setTop (mkF m 122 #[.val (.int p0), .val (.int p1), .val (.long p2), .second, .val (.int p3), .val (.int vm), .val (.int vv), .val (.long nv), .second, .val (.int lm), .unset, .unset, .val (.long (65535 : Int64)), .second, .unset, .unset] [(.long ((2 : Int64) * nv)), (.long (2 : Int64))])) _
              refine XS.ladd X166.here hx rfl (hb hby at_122) rfl ?_
              show Steps p.tables e below (T166.setTop (mkF m 123 #[.val (.int p0), .val (.int p1), .val (.long p2), .second, .val (.int p3), .val (.int vm), .val (.int vv), .val (.long nv), .second, .val (.int lm), .unset, .unset, .val (.long (65535 : Int64)), .second, .unset, .unset] [(.long ((2 : Int64) + ((2 : Int64) * nv)))])) _
              rw [h_tb]
              show Steps p.tables e below (T166.setTop (mkF m 123 #[.val (.int p0), .val (.int p1), .val (.long p2), .second, .val (.int p3), .val (.int vm), .val (.int vv), .val (.long nv), .second, .val (.int lm), .unset, .unset, .val (.long (65535 : Int64)), .second, .unset, .unset] [(.long tb)])) _
              refine XS.goto X166.here hx rfl (pc0 := 123) (pc' := 136) rfl (hb hby at_123) (by decide) (by decide) ?_
              show Steps p.tables e below (T166.setTop (mkF m 136 #[.val (.int p0), .val (.int p1), .val (.long p2), .second, .val (.int p3), .val (.int vm), .val (.int vv), .val (.long nv), .second, .val (.int lm), .unset, .unset, .val (.long (65535 : Int64)), .second, .unset, .unset] [(.long tb)])) _
              refine XS.lstore X166.here hx rfl (hb hby at_136) rfl (l' := #[.val (.int p0), .val (.int p1), .val (.long p2), .second, .val (.int p3), .val (.int vm), .val (.int vv), .val (.long nv), .second, .val (.int lm), .unset, .unset, .val (.long (65535 : Int64)), .second, .val (.long tb), .second]) rfl ?_
              show Steps p.tables e below (T166.setTop (mkF m 138 #[.val (.int p0), .val (.int p1), .val (.long p2), .second, .val (.int p3), .val (.int vm), .val (.int vv), .val (.long nv), .second, .val (.int lm), .unset, .unset, .val (.long (65535 : Int64)), .second, .val (.long tb), .second] [])) _
              refine XS.lconst X166.here hx rfl (hb hby at_138) ?_
              show Steps p.tables e below (T166.setTop (mkF m 139 #[.val (.int p0), .val (.int p1), .val (.long p2), .second, .val (.int p3), .val (.int vm), .val (.int vv), .val (.long nv), .second, .val (.int lm), .unset, .unset, .val (.long (65535 : Int64)), .second, .val (.long tb), .second] [(.long (0 : Int64))])) _
              refine XS.lload X166.here hx rfl (hb hby at_139) rfl ?_
              show Steps p.tables e below (T166.setTop (mkF m 141 #[.val (.int p0), .val (.int p1), .val (.long p2), .second, .val (.int p3), .val (.int vm), .val (.int vv), .val (.long nv), .second, .val (.int lm), .unset, .unset, .val (.long (65535 : Int64)), .second, .val (.long tb), .second] [(.long (65535 : Int64)), (.long (0 : Int64))])) _
              refine XS.lload X166.here hx rfl (hb hby at_141) rfl ?_
              show Steps p.tables e below (T166.setTop (mkF m 143 #[.val (.int p0), .val (.int p1), .val (.long p2), .second, .val (.int p3), .val (.int vm), .val (.int vv), .val (.long nv), .second, .val (.int lm), .unset, .unset, .val (.long (65535 : Int64)), .second, .val (.long tb), .second] [(.long tb), (.long (65535 : Int64)), (.long (0 : Int64))])) _
              refine XS.lsub X166.here hx rfl (hb hby at_143) rfl ?_
              show Steps p.tables e below (T166.setTop (mkF m 144 #[.val (.int p0), .val (.int p1), .val (.long p2), .second, .val (.int p3), .val (.int vm), .val (.int vv), .val (.long nv), .second, .val (.int lm), .unset, .unset, .val (.long (65535 : Int64)), .second, .val (.long tb), .second] [(.long ((65535 : Int64) - tb)), (.long (0 : Int64))])) _
              refine XS.iload X166.here hx rfl (hb hby at_144) rfl ?_
              show Steps p.tables e below (T166.setTop (mkF m 146 #[.val (.int p0), .val (.int p1), .val (.long p2), .second, .val (.int p3), .val (.int vm), .val (.int vv), .val (.long nv), .second, .val (.int lm), .unset, .unset, .val (.long (65535 : Int64)), .second, .val (.long tb), .second] [(.int p3), (.long ((65535 : Int64) - tb)), (.long (0 : Int64))])) _
              refine XS.bipush X166.here hx rfl (hb hby at_146) ?_
              show Steps p.tables e below (T166.setTop (mkF m 148 #[.val (.int p0), .val (.int p1), .val (.long p2), .second, .val (.int p3), .val (.int vm), .val (.int vv), .val (.long nv), .second, .val (.int lm), .unset, .unset, .val (.long (65535 : Int64)), .second, .val (.long tb), .second] [(.int (8 : Int32)), (.int p3), (.long ((65535 : Int64) - tb)), (.long (0 : Int64))])) _
              refine Jvm.RoadKit.iremM (g := (mkF m 148 #[.val (.int p0), .val (.int p1), .val (.long p2), .second, .val (.int p3), .val (.int vm), .val (.int vv), .val (.long nv), .second, .val (.int lm), .unset, .unset, .val (.long (65535 : Int64)), .second, .val (.long tb), .second] [(.int (8 : Int32)), (.int p3), (.long ((65535 : Int64) - tb)), (.long (0 : Int64))])) X166 hx rfl (hb hby at_148) rfl (by decide) ?_
              show Steps p.tables e below (T166.setTop (mkF m 149 #[.val (.int p0), .val (.int p1), .val (.long p2), .second, .val (.int p3), .val (.int vm), .val (.int vv), .val (.long nv), .second, .val (.int lm), .unset, .unset, .val (.long (65535 : Int64)), .second, .val (.long tb), .second] [(.int (p3 % (8 : Int32))), (.long ((65535 : Int64) - tb)), (.long (0 : Int64))])) _
              refine XS.i2l X166.here hx rfl (hb hby at_149) rfl ?_
              show Steps p.tables e below (T166.setTop (mkF m 150 #[.val (.int p0), .val (.int p1), .val (.long p2), .second, .val (.int p3), .val (.int vm), .val (.int vv), .val (.long nv), .second, .val (.int lm), .unset, .unset, .val (.long (65535 : Int64)), .second, .val (.long tb), .second] [(.long ((p3 % (8 : Int32)).toInt64)), (.long ((65535 : Int64) - tb)), (.long (0 : Int64))])) _
              refine XS.ladd X166.here hx rfl (hb hby at_150) rfl ?_
              show Steps p.tables e below (T166.setTop (mkF m 151 #[.val (.int p0), .val (.int p1), .val (.long p2), .second, .val (.int p3), .val (.int vm), .val (.int vv), .val (.long nv), .second, .val (.int lm), .unset, .unset, .val (.long (65535 : Int64)), .second, .val (.long tb), .second] [(.long (((65535 : Int64) - tb) + ((p3 % (8 : Int32)).toInt64))), (.long (0 : Int64))])) _
              rw [h_xx]
              show Steps p.tables e below (T166.setTop (mkF m 151 #[.val (.int p0), .val (.int p1), .val (.long p2), .second, .val (.int p3), .val (.int vm), .val (.int vv), .val (.long nv), .second, .val (.int lm), .unset, .unset, .val (.long (65535 : Int64)), .second, .val (.long tb), .second] [(.long xx), (.long (0 : Int64))])) _
              refine st185 _ ?_
              show Steps p.tables e below (T185.setTop (mkF m 154 #[.val (.int p0), .val (.int p1), .val (.long p2), .second, .val (.int p3), .val (.int vm), .val (.int vv), .val (.long nv), .second, .val (.int lm), .unset, .unset, .val (.long (65535 : Int64)), .second, .val (.long tb), .second] [(.long (if (lcmpW (0 : Int64) xx) < (0 : Int32) then xx else (0 : Int64)))])) _
              rw [h_ls]
              show Steps p.tables e below (T185.setTop (mkF m 154 #[.val (.int p0), .val (.int p1), .val (.long p2), .second, .val (.int p3), .val (.int vm), .val (.int vv), .val (.long nv), .second, .val (.int lm), .unset, .unset, .val (.long (65535 : Int64)), .second, .val (.long tb), .second] [(.long ls)])) _
              refine XS.lstore X185.here hx rfl (hb hby at_154) rfl (l' := #[.val (.int p0), .val (.int p1), .val (.long p2), .second, .val (.int p3), .val (.int vm), .val (.int vv), .val (.long nv), .second, .val (.int lm), .val (.long ls), .second, .val (.long (65535 : Int64)), .second, .val (.long tb), .second]) rfl ?_
              show Steps p.tables e below (T185.setTop (mkF m 156 #[.val (.int p0), .val (.int p1), .val (.long p2), .second, .val (.int p3), .val (.int vm), .val (.int vv), .val (.long nv), .second, .val (.int lm), .val (.long ls), .second, .val (.long (65535 : Int64)), .second, .val (.long tb), .second] [])) _
              refine XS.iload X185.here hx rfl (hb hby at_156) rfl ?_
              show Steps p.tables e below (T185.setTop (mkF m 158 #[.val (.int p0), .val (.int p1), .val (.long p2), .second, .val (.int p3), .val (.int vm), .val (.int vv), .val (.long nv), .second, .val (.int lm), .val (.long ls), .second, .val (.long (65535 : Int64)), .second, .val (.long tb), .second] [(.int vv)])) _
              refine XS.lload X185.here hx rfl (hb hby at_158) rfl ?_
              show Steps p.tables e below (T185.setTop (mkF m 160 #[.val (.int p0), .val (.int p1), .val (.long p2), .second, .val (.int p3), .val (.int vm), .val (.int vv), .val (.long nv), .second, .val (.int lm), .val (.long ls), .second, .val (.long (65535 : Int64)), .second, .val (.long tb), .second] [(.long ls), (.int vv)])) _
              refine st186 _ ?_
              exact kt
            (try clear N186q); (try clear st186); (try clear Lc186); (try clear n186); (try clear k186); (try clear L186); (try clear N185); (try clear e185); (try clear N185q); (try clear st185); (try clear Lc185); (try clear X185); (try clear n185); (try clear k185); (try clear L185); (try clear T185)
            rcases own_spec_two vv.toInt ls.toInt w_NONE w_TINY w_MEDIUM w_LARGE with ⟨wq, hv188⟩ | hv189
            · -- wq
              obtain ⟨_, _, ⟨T190, L190, k190, n190⟩, -, X190, ⟨Lc190, hQ190, l190, y190, z190⟩, st190⟩ := Jvm.LawKit.callS X186 hx (y := (⟨"com/example/rowstrata/rowstrata/row/VarTableSmallestPinLaw", "expected", "(IJ)Lcom/example/rowstrata/rowstrata/row/VarTable;"⟩ : MethodName)) hown (mvT hZ (hw _ (List.mem_of_getElem? (i := 25) rfl))) (mvT hZ (hw _ (List.mem_of_getElem? (i := 26) rfl))) (mvT hZ (hw _ (List.mem_of_getElem? (i := 27) rfl))) (mvT hZ (hw _ (List.mem_of_getElem? (i := 28) rfl))) (by decide) (backOf (W := 1) (rm_exp l Z a0 hw [] vv ls h0 n0 Z0 w_TINY w_NONE w_MEDIUM w_LARGE hWd hls.1 hls.2) hZ (hw _ (List.mem_of_getElem? (i := 28) rfl)) (hw _ (List.mem_of_getElem? (i := 27) rfl)) (by decide) (by decide)) (g := (mkF m 171 #[.val (.int p0), .val (.int p1), .val (.long p2), .second, .val (.int p3), .val (.int vm), .val (.int vv), .val (.long nv), .second, .val (.int lm), .val (.long ls), .second, .val (.ref wq), .unset, .val (.long tb), .second] [(.long ls), (.int vv), (.ref wq)])) rfl (by rw [hml]; rfl) (argsL := [(.int vv), (.long ls)]) (rest := [(.ref wq)]) (lenOf pd_137 rfl) rfl (by show 2 * 0 + _ ≤ _; exact Nat.le_of_eq rfl) (hb hby at_171) (fun _ _ => ⟨rfl, e186, (by decide : 0 + 0 ≤ _), (by decide : 0 + 0 ≤ _)⟩)
              dsimp only [Pt.U, Pt.locs, Pt.cells, Pt.slots] at X190 l190 y190 z190 st190 hQ190
              subst l190 y190 z190
              obtain ⟨rfl, N190q, e190⟩ := hQ190
              have N190 := Fr.app N186 N190q
              obtain ⟨fs, hr, hrun, hended, hW, hsame⟩ := X190.leave (v := some (.int (1 : Int32))) (fun h => by rw [Bd.returns] at h; cases h)
              refine ⟨_, _, ck187 _ ?_, hrun, hended, _, _, rfl, ?_, ⟨_, rfl⟩, hW, hsame.mono (by decide) (by decide)⟩
              · show Steps p.tables e below (T186.setTop (mkF m 163 #[.val (.int p0), .val (.int p1), .val (.long p2), .second, .val (.int p3), .val (.int vm), .val (.int vv), .val (.long nv), .second, .val (.int lm), .val (.long ls), .second, .val (.long (65535 : Int64)), .second, .val (.long tb), .second] [(own_spec vv.toInt ls.toInt w_NONE w_TINY w_MEDIUM w_LARGE)])) _
                rw [hv188]
                show Steps p.tables e below (T186.setTop (mkF m 163 #[.val (.int p0), .val (.int p1), .val (.long p2), .second, .val (.int p3), .val (.int vm), .val (.int vv), .val (.long nv), .second, .val (.int lm), .val (.long ls), .second, .val (.long (65535 : Int64)), .second, .val (.long tb), .second] [(.ref wq)])) _
                refine XS.astore X186.here hx rfl (hb hby at_163) rfl rfl (l' := #[.val (.int p0), .val (.int p1), .val (.long p2), .second, .val (.int p3), .val (.int vm), .val (.int vv), .val (.long nv), .second, .val (.int lm), .val (.long ls), .second, .val (.ref wq), .unset, .val (.long tb), .second]) rfl ?_
                show Steps p.tables e below (T186.setTop (mkF m 165 #[.val (.int p0), .val (.int p1), .val (.long p2), .second, .val (.int p3), .val (.int vm), .val (.int vv), .val (.long nv), .second, .val (.int lm), .val (.long ls), .second, .val (.ref wq), .unset, .val (.long tb), .second] [])) _
                refine XS.aload X186.here hx rfl (hb hby at_165) rfl rfl ?_
                show Steps p.tables e below (T186.setTop (mkF m 167 #[.val (.int p0), .val (.int p1), .val (.long p2), .second, .val (.int p3), .val (.int vm), .val (.int vv), .val (.long nv), .second, .val (.int lm), .val (.long ls), .second, .val (.ref wq), .unset, .val (.long tb), .second] [(.ref wq)])) _
                refine XS.iload X186.here hx rfl (hb hby at_167) rfl ?_
                show Steps p.tables e below (T186.setTop (mkF m 169 #[.val (.int p0), .val (.int p1), .val (.long p2), .second, .val (.int p3), .val (.int vm), .val (.int vv), .val (.long nv), .second, .val (.int lm), .val (.long ls), .second, .val (.ref wq), .unset, .val (.long tb), .second] [(.int vv), (.ref wq)])) _
                refine XS.lload X186.here hx rfl (hb hby at_169) rfl ?_
                show Steps p.tables e below (T186.setTop (mkF m 171 #[.val (.int p0), .val (.int p1), .val (.long p2), .second, .val (.int p3), .val (.int vm), .val (.int vv), .val (.long nv), .second, .val (.int lm), .val (.long ls), .second, .val (.ref wq), .unset, .val (.long tb), .second] [(.long ls), (.int vv), (.ref wq)])) _
                refine st190 _ ?_
                show Steps p.tables e below (T190.setTop (mkF m 174 #[.val (.int p0), .val (.int p1), .val (.long p2), .second, .val (.int p3), .val (.int vm), .val (.int vv), .val (.long nv), .second, .val (.int lm), .val (.long ls), .second, .val (.ref wq), .unset, .val (.long tb), .second] [(own_spec vv.toInt ls.toInt w_NONE w_TINY w_MEDIUM w_LARGE), (.ref wq)])) _
                rw [hv188]
                show Steps p.tables e below (T190.setTop (mkF m 174 #[.val (.int p0), .val (.int p1), .val (.long p2), .second, .val (.int p3), .val (.int vm), .val (.int vv), .val (.long nv), .second, .val (.int lm), .val (.long ls), .second, .val (.ref wq), .unset, .val (.long tb), .second] [(.ref wq), (.ref wq)])) _
                refine Jvm.RoadKit.acmp (g := (mkF m 174 #[.val (.int p0), .val (.int p1), .val (.long p2), .second, .val (.int p3), .val (.int vm), .val (.int vv), .val (.long nv), .second, .val (.int lm), .val (.long ls), .second, .val (.ref wq), .unset, .val (.long tb), .second] [(.ref wq), (.ref wq)])) X190 hx rfl rfl rfl (pc0 := 174) (pc' := 177) (same := true) rfl (hb hby at_174) rfl (decide_eq_true rfl) (by decide) (by decide) ?_
                show Steps p.tables e below (T190.setTop (mkF m 177 #[.val (.int p0), .val (.int p1), .val (.long p2), .second, .val (.int p3), .val (.int vm), .val (.int vv), .val (.long nv), .second, .val (.int lm), .val (.long ls), .second, .val (.ref wq), .unset, .val (.long tb), .second] [])) _
                refine XS.iconst X190.here hx rfl (hb hby at_177) ?_
                show Steps p.tables e below (T190.setTop (mkF m 178 #[.val (.int p0), .val (.int p1), .val (.long p2), .second, .val (.int p3), .val (.int vm), .val (.int vv), .val (.long nv), .second, .val (.int lm), .val (.long ls), .second, .val (.ref wq), .unset, .val (.long tb), .second] [(.int (1 : Int32))])) _
                refine XS.goto X190.here hx rfl (pc0 := 178) (pc' := 182) rfl (hb hby at_178) (by decide) (by decide) ?_
                show Steps p.tables e below (T190.setTop (mkF m 182 #[.val (.int p0), .val (.int p1), .val (.long p2), .second, .val (.int p3), .val (.int vm), .val (.int vv), .val (.long nv), .second, .val (.int lm), .val (.long ls), .second, .val (.ref wq), .unset, .val (.long tb), .second] [(.int (1 : Int32))])) _
                exact retN X190 hx (t := .boolean) Bd.returns (by simp) (hb hby at_182) hr
              · show own_Pure (some (.int 1)) h0 n0 _ T190.heap _
                rw [e190]
                exact ⟨rfl, N190, rfl⟩
            · -- null
              obtain ⟨_, _, ⟨T191, L191, k191, n191⟩, -, X191, ⟨Lc191, hQ191, l191, y191, z191⟩, st191⟩ := Jvm.LawKit.callS X186 hx (y := (⟨"com/example/rowstrata/rowstrata/row/VarTableSmallestPinLaw", "expected", "(IJ)Lcom/example/rowstrata/rowstrata/row/VarTable;"⟩ : MethodName)) hown (mvT hZ (hw _ (List.mem_of_getElem? (i := 25) rfl))) (mvT hZ (hw _ (List.mem_of_getElem? (i := 26) rfl))) (mvT hZ (hw _ (List.mem_of_getElem? (i := 27) rfl))) (mvT hZ (hw _ (List.mem_of_getElem? (i := 28) rfl))) (by decide) (backOf (W := 1) (rm_exp l Z a0 hw [] vv ls h0 n0 Z0 w_TINY w_NONE w_MEDIUM w_LARGE hWd hls.1 hls.2) hZ (hw _ (List.mem_of_getElem? (i := 28) rfl)) (hw _ (List.mem_of_getElem? (i := 27) rfl)) (by decide) (by decide)) (g := (mkF m 171 #[.val (.int p0), .val (.int p1), .val (.long p2), .second, .val (.int p3), .val (.int vm), .val (.int vv), .val (.long nv), .second, .val (.int lm), .val (.long ls), .second, .val .null, .unset, .val (.long tb), .second] [(.long ls), (.int vv), .null])) rfl (by rw [hml]; rfl) (argsL := [(.int vv), (.long ls)]) (rest := [.null]) (lenOf pd_137 rfl) rfl (by show 2 * 0 + _ ≤ _; exact Nat.le_of_eq rfl) (hb hby at_171) (fun _ _ => ⟨rfl, e186, (by decide : 0 + 0 ≤ _), (by decide : 0 + 0 ≤ _)⟩)
              dsimp only [Pt.U, Pt.locs, Pt.cells, Pt.slots] at X191 l191 y191 z191 st191 hQ191
              subst l191 y191 z191
              obtain ⟨rfl, N191q, e191⟩ := hQ191
              have N191 := Fr.app N186 N191q
              obtain ⟨fs, hr, hrun, hended, hW, hsame⟩ := X191.leave (v := some (.int (1 : Int32))) (fun h => by rw [Bd.returns] at h; cases h)
              refine ⟨_, _, ck187 _ ?_, hrun, hended, _, _, rfl, ?_, ⟨_, rfl⟩, hW, hsame.mono (by decide) (by decide)⟩
              · show Steps p.tables e below (T186.setTop (mkF m 163 #[.val (.int p0), .val (.int p1), .val (.long p2), .second, .val (.int p3), .val (.int vm), .val (.int vv), .val (.long nv), .second, .val (.int lm), .val (.long ls), .second, .val (.long (65535 : Int64)), .second, .val (.long tb), .second] [(own_spec vv.toInt ls.toInt w_NONE w_TINY w_MEDIUM w_LARGE)])) _
                rw [hv189]
                show Steps p.tables e below (T186.setTop (mkF m 163 #[.val (.int p0), .val (.int p1), .val (.long p2), .second, .val (.int p3), .val (.int vm), .val (.int vv), .val (.long nv), .second, .val (.int lm), .val (.long ls), .second, .val (.long (65535 : Int64)), .second, .val (.long tb), .second] [.null])) _
                refine XS.astore X186.here hx rfl (hb hby at_163) rfl rfl (l' := #[.val (.int p0), .val (.int p1), .val (.long p2), .second, .val (.int p3), .val (.int vm), .val (.int vv), .val (.long nv), .second, .val (.int lm), .val (.long ls), .second, .val .null, .unset, .val (.long tb), .second]) rfl ?_
                show Steps p.tables e below (T186.setTop (mkF m 165 #[.val (.int p0), .val (.int p1), .val (.long p2), .second, .val (.int p3), .val (.int vm), .val (.int vv), .val (.long nv), .second, .val (.int lm), .val (.long ls), .second, .val .null, .unset, .val (.long tb), .second] [])) _
                refine XS.aload X186.here hx rfl (hb hby at_165) rfl rfl ?_
                show Steps p.tables e below (T186.setTop (mkF m 167 #[.val (.int p0), .val (.int p1), .val (.long p2), .second, .val (.int p3), .val (.int vm), .val (.int vv), .val (.long nv), .second, .val (.int lm), .val (.long ls), .second, .val .null, .unset, .val (.long tb), .second] [.null])) _
                refine XS.iload X186.here hx rfl (hb hby at_167) rfl ?_
                show Steps p.tables e below (T186.setTop (mkF m 169 #[.val (.int p0), .val (.int p1), .val (.long p2), .second, .val (.int p3), .val (.int vm), .val (.int vv), .val (.long nv), .second, .val (.int lm), .val (.long ls), .second, .val .null, .unset, .val (.long tb), .second] [(.int vv), .null])) _
                refine XS.lload X186.here hx rfl (hb hby at_169) rfl ?_
                show Steps p.tables e below (T186.setTop (mkF m 171 #[.val (.int p0), .val (.int p1), .val (.long p2), .second, .val (.int p3), .val (.int vm), .val (.int vv), .val (.long nv), .second, .val (.int lm), .val (.long ls), .second, .val .null, .unset, .val (.long tb), .second] [(.long ls), (.int vv), .null])) _
                refine st191 _ ?_
                show Steps p.tables e below (T191.setTop (mkF m 174 #[.val (.int p0), .val (.int p1), .val (.long p2), .second, .val (.int p3), .val (.int vm), .val (.int vv), .val (.long nv), .second, .val (.int lm), .val (.long ls), .second, .val .null, .unset, .val (.long tb), .second] [(own_spec vv.toInt ls.toInt w_NONE w_TINY w_MEDIUM w_LARGE), .null])) _
                rw [hv189]
                show Steps p.tables e below (T191.setTop (mkF m 174 #[.val (.int p0), .val (.int p1), .val (.long p2), .second, .val (.int p3), .val (.int vm), .val (.int vv), .val (.long nv), .second, .val (.int lm), .val (.long ls), .second, .val .null, .unset, .val (.long tb), .second] [.null, .null])) _
                refine Jvm.RoadKit.acmp (g := (mkF m 174 #[.val (.int p0), .val (.int p1), .val (.long p2), .second, .val (.int p3), .val (.int vm), .val (.int vv), .val (.long nv), .second, .val (.int lm), .val (.long ls), .second, .val .null, .unset, .val (.long tb), .second] [.null, .null])) X191 hx rfl rfl rfl (pc0 := 174) (pc' := 177) (same := true) rfl (hb hby at_174) rfl (decide_eq_true rfl) (by decide) (by decide) ?_
                show Steps p.tables e below (T191.setTop (mkF m 177 #[.val (.int p0), .val (.int p1), .val (.long p2), .second, .val (.int p3), .val (.int vm), .val (.int vv), .val (.long nv), .second, .val (.int lm), .val (.long ls), .second, .val .null, .unset, .val (.long tb), .second] [])) _
                refine XS.iconst X191.here hx rfl (hb hby at_177) ?_
                show Steps p.tables e below (T191.setTop (mkF m 178 #[.val (.int p0), .val (.int p1), .val (.long p2), .second, .val (.int p3), .val (.int vm), .val (.int vv), .val (.long nv), .second, .val (.int lm), .val (.long ls), .second, .val .null, .unset, .val (.long tb), .second] [(.int (1 : Int32))])) _
                refine XS.goto X191.here hx rfl (pc0 := 178) (pc' := 182) rfl (hb hby at_178) (by decide) (by decide) ?_
                show Steps p.tables e below (T191.setTop (mkF m 182 #[.val (.int p0), .val (.int p1), .val (.long p2), .second, .val (.int p3), .val (.int vm), .val (.int vv), .val (.long nv), .second, .val (.int lm), .val (.long ls), .second, .val .null, .unset, .val (.long tb), .second] [(.int (1 : Int32))])) _
                exact retN X191 hx (t := .boolean) Bd.returns (by simp) (hb hby at_182) hr
              · show own_Pure (some (.int 1)) h0 n0 _ T191.heap _
                rw [e191]
                exact ⟨rfl, N191, rfl⟩
          · -- pc 80: not lm = (2 : Int32)
            obtain ⟨tb, h_tb⟩ : ∃ z : Int64, ((2 : Int64) + ((4 : Int64) * nv)) = z := ⟨_, rfl⟩
            have htb : 0 ≤ tb.toInt ∧ tb.toInt ≤ 8589934590 := by rw [← h_tb]; exact own_tb135 hnv.1 hnv.2
            obtain ⟨xx, h_xx⟩ : ∃ z : Int64, (((4294967295 : Int64) - tb) + ((p3 % (8 : Int32)).toInt64)) = z := ⟨_, rfl⟩
            have hxx : xx.toInt ≤ 4294967303 := by rw [← h_xx]; exact own_xx (by decide) htb.1 htb.2
            obtain ⟨_, _, ⟨T192, L192, k192, n192⟩, -, X192, ⟨Lc192, hQ192, l192, y192, z192⟩, st192⟩ := Jvm.LawKit.callS X166 hx (y := (⟨"java/lang/Math", "max", "(JJ)J"⟩ : MethodName)) hown (mvT hZ (hw _ (List.mem_of_getElem? (i := 0) rfl))) (mvT hZ (hw _ (List.mem_of_getElem? (i := 1) rfl))) (mvT hZ (hw _ (List.mem_of_getElem? (i := 2) rfl))) (mvT hZ (hw _ (List.mem_of_getElem? (i := 3) rfl))) (by decide) (backOf (W := 0) (rm_max l Z a0 hw [] (0 : Int64) xx h0 n0 Z0 (if (lcmpW (0 : Int64) xx) < (0 : Int32) then xx else (0 : Int64)) rfl) hZ (hw _ (List.mem_of_getElem? (i := 3) rfl)) (hw _ (List.mem_of_getElem? (i := 2) rfl)) (by decide) (by decide)) (g := (mkF m 151 #[.val (.int p0), .val (.int p1), .val (.long p2), .second, .val (.int p3), .val (.int vm), .val (.int vv), .val (.long nv), .second, .val (.int lm), .unset, .unset, .val (.long (4294967295 : Int64)), .second, .val (.long tb), .second] [(.long xx), (.long (0 : Int64))])) rfl (by rw [hml]; rfl) (argsL := [(.long (0 : Int64)), (.long xx)]) (rest := []) (lenOf pd_136 rfl) rfl (by show 2 * 0 + _ ≤ _; exact Nat.le_of_eq rfl) (hb hby at_151) (fun _ _ => ⟨rfl, e166, (by decide : 0 + 0 ≤ _), (by decide : 0 + 0 ≤ _)⟩)
            dsimp only [Pt.U, Pt.locs, Pt.cells, Pt.slots] at X192 l192 y192 z192 st192 hQ192
            subst l192 y192 z192
            obtain ⟨rfl, N192q, e192⟩ := hQ192
            have N192 := Fr.app N166 N192q
            obtain ⟨ls, h_ls⟩ : ∃ z : Int64, (if (lcmpW (0 : Int64) xx) < (0 : Int32) then xx else (0 : Int64)) = z := ⟨_, rfl⟩
            have hls : 0 ≤ ls.toInt ∧ ls.toInt ≤ 4611686018427387904 := by rw [← h_ls]; exact own_mx2 hxx
            obtain ⟨_, _, ⟨T193, L193, k193, n193⟩, -, X193, ⟨Lc193, hQ193, l193, y193, z193⟩, st193⟩ := Jvm.LawKit.callS X192 hx (y := (⟨"com/example/rowstrata/rowstrata/row/VarTable", "smallest", "(IJ)Lcom/example/rowstrata/rowstrata/row/VarTable;"⟩ : MethodName)) hown (mvT hZ (hw _ (List.mem_of_getElem? (i := 4) rfl))) (mvT hZ (hw _ (List.mem_of_getElem? (i := 5) rfl))) (mvT hZ (hw _ (List.mem_of_getElem? (i := 6) rfl))) (mvT hZ (hw _ (List.mem_of_getElem? (i := 7) rfl))) (by decide) (backOf (W := 0) (rm_sm l Z a0 hw [] vv ls h0 n0 Z0 w_TINY w_NONE w_MEDIUM w_LARGE hWd w_WT kWT S_WT A_WT hls.1 hls.2) hZ (hw _ (List.mem_of_getElem? (i := 7) rfl)) (hw _ (List.mem_of_getElem? (i := 6) rfl)) (by decide) (by decide)) (g := (mkF m 160 #[.val (.int p0), .val (.int p1), .val (.long p2), .second, .val (.int p3), .val (.int vm), .val (.int vv), .val (.long nv), .second, .val (.int lm), .val (.long ls), .second, .val (.long (4294967295 : Int64)), .second, .val (.long tb), .second] [(.long ls), (.int vv)])) rfl (by rw [hml]; rfl) (argsL := [(.int vv), (.long ls)]) (rest := []) (lenOf pd_137 rfl) rfl (by show 2 * 0 + _ ≤ _; exact Nat.le_of_eq rfl) (hb hby at_160) (fun _ _ => ⟨rfl, e192, (by decide : 0 + 0 ≤ _), (by decide : 0 + 0 ≤ _)⟩)
            dsimp only [Pt.U, Pt.locs, Pt.cells, Pt.slots] at X193 l193 y193 z193 st193 hQ193
            subst l193 y193 z193
            obtain ⟨rfl, N193q, e193⟩ := hQ193
            have N193 := Fr.app N192 N193q
            have ck194 : ∀ t, Steps p.tables e below (T193.setTop (mkF m 163 #[.val (.int p0), .val (.int p1), .val (.long p2), .second, .val (.int p3), .val (.int vm), .val (.int vv), .val (.long nv), .second, .val (.int lm), .val (.long ls), .second, .val (.long (4294967295 : Int64)), .second, .val (.long tb), .second] [(own_spec vv.toInt ls.toInt w_NONE w_TINY w_MEDIUM w_LARGE)])) t → Steps p.tables e below (s₁.setTop (entryFrame m #[(.int p0), (.int p1), (.long p2), (.int p3)] maxLocals)) t := by
              intro t kt
              refine ck184 _ ?_
              show Steps p.tables e below (T166.setTop (mkF m 80 #[.val (.int p0), .val (.int p1), .val (.long p2), .second, .val (.int p3), .val (.int vm), .val (.int vv), .val (.long nv), .second, .val (.int lm), .unset, .unset, .unset, .unset, .unset, .unset] [(.int (2 : Int32)), (.int lm)])) _
              refine XS.icmpYes X166.here hx rfl (pc0 := 80) (pc' := 89) rfl (hb hby at_80) rfl (feq hc80_183).2 (by decide) (by decide) ?_
              show Steps p.tables e below (T166.setTop (mkF m 89 #[.val (.int p0), .val (.int p1), .val (.long p2), .second, .val (.int p3), .val (.int vm), .val (.int vv), .val (.long nv), .second, .val (.int lm), .unset, .unset, .unset, .unset, .unset, .unset] [])) _
              refine X166.ldc2Long hx hown (mvT hZ (hw _ (List.mem_of_getElem? (i := 37) rfl))) (g := (mkF m 89 #[.val (.int p0), .val (.int p1), .val (.long p2), .second, .val (.int p3), .val (.int vm), .val (.int vv), .val (.long nv), .second, .val (.int lm), .unset, .unset, .unset, .unset, .unset, .unset] [])) rfl (hb hby at_89) _ ?_
              show Steps p.tables e below (T166.setTop (mkF m 92 #[.val (.int p0), .val (.int p1), .val (.long p2), .second, .val (.int p3), .val (.int vm), .val (.int vv), .val (.long nv), .second, .val (.int lm), .unset, .unset, .unset, .unset, .unset, .unset] [(.long (4294967295 : Int64))])) _
              refine XS.lstore X166.here hx rfl (hb hby at_92) rfl (l' := #[.val (.int p0), .val (.int p1), .val (.long p2), .second, .val (.int p3), .val (.int vm), .val (.int vv), .val (.long nv), .second, .val (.int lm), .unset, .unset, .val (.long (4294967295 : Int64)), .second, .unset, .unset]) rfl ?_
              show Steps p.tables e below (T166.setTop (mkF m 94 #[.val (.int p0), .val (.int p1), .val (.long p2), .second, .val (.int p3), .val (.int vm), .val (.int vv), .val (.long nv), .second, .val (.int lm), .unset, .unset, .val (.long (4294967295 : Int64)), .second, .unset, .unset] [])) _
              refine XS.iload X166.here hx rfl (hb hby at_94) rfl ?_
              show Steps p.tables e below (T166.setTop (mkF m 96 #[.val (.int p0), .val (.int p1), .val (.long p2), .second, .val (.int p3), .val (.int vm), .val (.int vv), .val (.long nv), .second, .val (.int lm), .unset, .unset, .val (.long (4294967295 : Int64)), .second, .unset, .unset] [(.int lm)])) _
              refine XS.iconst X166.here hx rfl (hb hby at_96) ?_
              show Steps p.tables e below (T166.setTop (mkF m 97 #[.val (.int p0), .val (.int p1), .val (.long p2), .second, .val (.int p3), .val (.int vm), .val (.int vv), .val (.long nv), .second, .val (.int lm), .unset, .unset, .val (.long (4294967295 : Int64)), .second, .unset, .unset] [(.int (1 : Int32)), (.int lm)])) _
              refine XS.icmpYes X166.here hx rfl (pc0 := 97) (pc' := 107) rfl (hb hby at_97) rfl (feq hc68_175).2 (by decide) (by decide) ?_
              show Steps p.tables e below (T166.setTop (mkF m 107 #[.val (.int p0), .val (.int p1), .val (.long p2), .second, .val (.int p3), .val (.int vm), .val (.int vv), .val (.long nv), .second, .val (.int lm), .unset, .unset, .val (.long (4294967295 : Int64)), .second, .unset, .unset] [])) _
              refine XS.iload X166.here hx rfl (hb hby at_107) rfl ?_
              show Steps p.tables e below (T166.setTop (mkF m 109 #[.val (.int p0), .val (.int p1), .val (.long p2), .second, .val (.int p3), .val (.int vm), .val (.int vv), .val (.long nv), .second, .val (.int lm), .unset, .unset, .val (.long (4294967295 : Int64)), .second, .unset, .unset] [(.int lm)])) _
              refine XS.iconst X166.here hx rfl (hb hby at_109) ?_
              show Steps p.tables e below (T166.setTop (mkF m 110 #[.val (.int p0), .val (.int p1), .val (.long p2), .second, .val (.int p3), .val (.int vm), .val (.int vv), .val (.long nv), .second, .val (.int lm), .unset, .unset, .val (.long (4294967295 : Int64)), .second, .unset, .unset] [(.int (2 : Int32)), (.int lm)])) _
              refine XS.icmpYes X166.here hx rfl (pc0 := 110) (pc' := 126) rfl (hb hby at_110) rfl (feq hc80_183).2 (by decide) (by decide) ?_
              show Steps p.tables e below (T166.setTop (mkF m 126 #[.val (.int p0), .val (.int p1), .val (.long p2), .second, .val (.int p3), .val (.int vm), .val (.int vv), .val (.long nv), .second, .val (.int lm), .unset, .unset, .val (.long (4294967295 : Int64)), .second, .unset, .unset] [])) _
              refine X166.ldc2Long hx hown (mvT hZ (hw _ (List.mem_of_getElem? (i := 33) rfl))) (g := (mkF m 126 #[.val (.int p0), .val (.int p1), .val (.long p2), .second, .val (.int p3), .val (.int vm), .val (.int vv), .val (.long nv), .second, .val (.int lm), .unset, .unset, .val (.long (4294967295 : Int64)), .second, .unset, .unset] [])) rfl (hb hby at_126) _ ?_
              show Steps p.tables e below (T166.setTop (mkF m 129 #[.val (.int p0), .val (.int p1), .val (.long p2), .second, .val (.int p3), .val (.int vm), .val (.int vv), .val (.long nv), .second, .val (.int lm), .unset, .unset, .val (.long (4294967295 : Int64)), .second, .unset, .unset] [(.long (2 : Int64))])) _
              refine X166.ldc2Long hx hown (mvT hZ (hw _ (List.mem_of_getElem? (i := 36) rfl))) (g := (mkF m 129 #[.val (.int p0), .val (.int p1), .val (.long p2), .second, .val (.int p3), .val (.int vm), .val (.int vv), .val (.long nv), .second, .val (.int lm), .unset, .unset, .val (.long (4294967295 : Int64)), .second, .unset, .unset] [(.long (2 : Int64))])) rfl (hb hby at_129) _ ?_
              show Steps p.tables e below (T166.setTop (mkF m 132 #[.val (.int p0), .val (.int p1), .val (.long p2), .second, .val (.int p3), .val (.int vm), .val (.int vv), .val (.long nv), .second, .val (.int lm), .unset, .unset, .val (.long (4294967295 : Int64)), .second, .unset, .unset] [(.long (4 : Int64)), (.long (2 : Int64))])) _
              refine XS.lload X166.here hx rfl (hb hby at_132) rfl ?_
              show Steps p.tables e below (T166.setTop (mkF m 134 #[.val (.int p0), .val (.int p1), .val (.long p2), .second, .val (.int p3), .val (.int vm), .val (.int vv), .val (.long nv), .second, .val (.int lm), .unset, .unset, .val (.long (4294967295 : Int64)), .second, .unset, .unset] [(.long nv), (.long (4 : Int64)), (.long (2 : Int64))])) _
              refine XS.lmul X166.here hx rfl (hb hby at_134) rfl ?_
              show Steps p.tables e below (T166.setTop (mkF m 135 #[.val (.int p0), .val (.int p1), .val (.long p2), .second, .val (.int p3), .val (.int vm), .val (.int vv), .val (.long nv), .second, .val (.int lm), .unset, .unset, .val (.long (4294967295 : Int64)), .second, .unset, .unset] [(.long ((4 : Int64) * nv)), (.long (2 : Int64))])) _
              refine XS.ladd X166.here hx rfl (hb hby at_135) rfl ?_
              show Steps p.tables e below (T166.setTop (mkF m 136 #[.val (.int p0), .val (.int p1), .val (.long p2), .second, .val (.int p3), .val (.int vm), .val (.int vv), .val (.long nv), .second, .val (.int lm), .unset, .unset, .val (.long (4294967295 : Int64)), .second, .unset, .unset] [(.long ((2 : Int64) + ((4 : Int64) * nv)))])) _
              rw [h_tb]
              show Steps p.tables e below (T166.setTop (mkF m 136 #[.val (.int p0), .val (.int p1), .val (.long p2), .second, .val (.int p3), .val (.int vm), .val (.int vv), .val (.long nv), .second, .val (.int lm), .unset, .unset, .val (.long (4294967295 : Int64)), .second, .unset, .unset] [(.long tb)])) _
              refine XS.lstore X166.here hx rfl (hb hby at_136) rfl (l' := #[.val (.int p0), .val (.int p1), .val (.long p2), .second, .val (.int p3), .val (.int vm), .val (.int vv), .val (.long nv), .second, .val (.int lm), .unset, .unset, .val (.long (4294967295 : Int64)), .second, .val (.long tb), .second]) rfl ?_
              show Steps p.tables e below (T166.setTop (mkF m 138 #[.val (.int p0), .val (.int p1), .val (.long p2), .second, .val (.int p3), .val (.int vm), .val (.int vv), .val (.long nv), .second, .val (.int lm), .unset, .unset, .val (.long (4294967295 : Int64)), .second, .val (.long tb), .second] [])) _
              refine XS.lconst X166.here hx rfl (hb hby at_138) ?_
              show Steps p.tables e below (T166.setTop (mkF m 139 #[.val (.int p0), .val (.int p1), .val (.long p2), .second, .val (.int p3), .val (.int vm), .val (.int vv), .val (.long nv), .second, .val (.int lm), .unset, .unset, .val (.long (4294967295 : Int64)), .second, .val (.long tb), .second] [(.long (0 : Int64))])) _
              refine XS.lload X166.here hx rfl (hb hby at_139) rfl ?_
              show Steps p.tables e below (T166.setTop (mkF m 141 #[.val (.int p0), .val (.int p1), .val (.long p2), .second, .val (.int p3), .val (.int vm), .val (.int vv), .val (.long nv), .second, .val (.int lm), .unset, .unset, .val (.long (4294967295 : Int64)), .second, .val (.long tb), .second] [(.long (4294967295 : Int64)), (.long (0 : Int64))])) _
              refine XS.lload X166.here hx rfl (hb hby at_141) rfl ?_
              show Steps p.tables e below (T166.setTop (mkF m 143 #[.val (.int p0), .val (.int p1), .val (.long p2), .second, .val (.int p3), .val (.int vm), .val (.int vv), .val (.long nv), .second, .val (.int lm), .unset, .unset, .val (.long (4294967295 : Int64)), .second, .val (.long tb), .second] [(.long tb), (.long (4294967295 : Int64)), (.long (0 : Int64))])) _
              refine XS.lsub X166.here hx rfl (hb hby at_143) rfl ?_
              show Steps p.tables e below (T166.setTop (mkF m 144 #[.val (.int p0), .val (.int p1), .val (.long p2), .second, .val (.int p3), .val (.int vm), .val (.int vv), .val (.long nv), .second, .val (.int lm), .unset, .unset, .val (.long (4294967295 : Int64)), .second, .val (.long tb), .second] [(.long ((4294967295 : Int64) - tb)), (.long (0 : Int64))])) _
              refine XS.iload X166.here hx rfl (hb hby at_144) rfl ?_
              show Steps p.tables e below (T166.setTop (mkF m 146 #[.val (.int p0), .val (.int p1), .val (.long p2), .second, .val (.int p3), .val (.int vm), .val (.int vv), .val (.long nv), .second, .val (.int lm), .unset, .unset, .val (.long (4294967295 : Int64)), .second, .val (.long tb), .second] [(.int p3), (.long ((4294967295 : Int64) - tb)), (.long (0 : Int64))])) _
              refine XS.bipush X166.here hx rfl (hb hby at_146) ?_
              show Steps p.tables e below (T166.setTop (mkF m 148 #[.val (.int p0), .val (.int p1), .val (.long p2), .second, .val (.int p3), .val (.int vm), .val (.int vv), .val (.long nv), .second, .val (.int lm), .unset, .unset, .val (.long (4294967295 : Int64)), .second, .val (.long tb), .second] [(.int (8 : Int32)), (.int p3), (.long ((4294967295 : Int64) - tb)), (.long (0 : Int64))])) _
              refine Jvm.RoadKit.iremM (g := (mkF m 148 #[.val (.int p0), .val (.int p1), .val (.long p2), .second, .val (.int p3), .val (.int vm), .val (.int vv), .val (.long nv), .second, .val (.int lm), .unset, .unset, .val (.long (4294967295 : Int64)), .second, .val (.long tb), .second] [(.int (8 : Int32)), (.int p3), (.long ((4294967295 : Int64) - tb)), (.long (0 : Int64))])) X166 hx rfl (hb hby at_148) rfl (by decide) ?_
              show Steps p.tables e below (T166.setTop (mkF m 149 #[.val (.int p0), .val (.int p1), .val (.long p2), .second, .val (.int p3), .val (.int vm), .val (.int vv), .val (.long nv), .second, .val (.int lm), .unset, .unset, .val (.long (4294967295 : Int64)), .second, .val (.long tb), .second] [(.int (p3 % (8 : Int32))), (.long ((4294967295 : Int64) - tb)), (.long (0 : Int64))])) _
              refine XS.i2l X166.here hx rfl (hb hby at_149) rfl ?_
              show Steps p.tables e below (T166.setTop (mkF m 150 #[.val (.int p0), .val (.int p1), .val (.long p2), .second, .val (.int p3), .val (.int vm), .val (.int vv), .val (.long nv), .second, .val (.int lm), .unset, .unset, .val (.long (4294967295 : Int64)), .second, .val (.long tb), .second] [(.long ((p3 % (8 : Int32)).toInt64)), (.long ((4294967295 : Int64) - tb)), (.long (0 : Int64))])) _
              refine XS.ladd X166.here hx rfl (hb hby at_150) rfl ?_
              show Steps p.tables e below (T166.setTop (mkF m 151 #[.val (.int p0), .val (.int p1), .val (.long p2), .second, .val (.int p3), .val (.int vm), .val (.int vv), .val (.long nv), .second, .val (.int lm), .unset, .unset, .val (.long (4294967295 : Int64)), .second, .val (.long tb), .second] [(.long (((4294967295 : Int64) - tb) + ((p3 % (8 : Int32)).toInt64))), (.long (0 : Int64))])) _
              rw [h_xx]
              show Steps p.tables e below (T166.setTop (mkF m 151 #[.val (.int p0), .val (.int p1), .val (.long p2), .second, .val (.int p3), .val (.int vm), .val (.int vv), .val (.long nv), .second, .val (.int lm), .unset, .unset, .val (.long (4294967295 : Int64)), .second, .val (.long tb), .second] [(.long xx), (.long (0 : Int64))])) _
              refine st192 _ ?_
              show Steps p.tables e below (T192.setTop (mkF m 154 #[.val (.int p0), .val (.int p1), .val (.long p2), .second, .val (.int p3), .val (.int vm), .val (.int vv), .val (.long nv), .second, .val (.int lm), .unset, .unset, .val (.long (4294967295 : Int64)), .second, .val (.long tb), .second] [(.long (if (lcmpW (0 : Int64) xx) < (0 : Int32) then xx else (0 : Int64)))])) _
              rw [h_ls]
              show Steps p.tables e below (T192.setTop (mkF m 154 #[.val (.int p0), .val (.int p1), .val (.long p2), .second, .val (.int p3), .val (.int vm), .val (.int vv), .val (.long nv), .second, .val (.int lm), .unset, .unset, .val (.long (4294967295 : Int64)), .second, .val (.long tb), .second] [(.long ls)])) _
              refine XS.lstore X192.here hx rfl (hb hby at_154) rfl (l' := #[.val (.int p0), .val (.int p1), .val (.long p2), .second, .val (.int p3), .val (.int vm), .val (.int vv), .val (.long nv), .second, .val (.int lm), .val (.long ls), .second, .val (.long (4294967295 : Int64)), .second, .val (.long tb), .second]) rfl ?_
              show Steps p.tables e below (T192.setTop (mkF m 156 #[.val (.int p0), .val (.int p1), .val (.long p2), .second, .val (.int p3), .val (.int vm), .val (.int vv), .val (.long nv), .second, .val (.int lm), .val (.long ls), .second, .val (.long (4294967295 : Int64)), .second, .val (.long tb), .second] [])) _
              refine XS.iload X192.here hx rfl (hb hby at_156) rfl ?_
              show Steps p.tables e below (T192.setTop (mkF m 158 #[.val (.int p0), .val (.int p1), .val (.long p2), .second, .val (.int p3), .val (.int vm), .val (.int vv), .val (.long nv), .second, .val (.int lm), .val (.long ls), .second, .val (.long (4294967295 : Int64)), .second, .val (.long tb), .second] [(.int vv)])) _
              refine XS.lload X192.here hx rfl (hb hby at_158) rfl ?_
              show Steps p.tables e below (T192.setTop (mkF m 160 #[.val (.int p0), .val (.int p1), .val (.long p2), .second, .val (.int p3), .val (.int vm), .val (.int vv), .val (.long nv), .second, .val (.int lm), .val (.long ls), .second, .val (.long (4294967295 : Int64)), .second, .val (.long tb), .second] [(.long ls), (.int vv)])) _
              refine st193 _ ?_
              exact kt
            (try clear N193q); (try clear st193); (try clear Lc193); (try clear n193); (try clear k193); (try clear L193); (try clear N192); (try clear e192); (try clear N192q); (try clear st192); (try clear Lc192); (try clear X192); (try clear n192); (try clear k192); (try clear L192); (try clear T192)
            rcases own_spec_two vv.toInt ls.toInt w_NONE w_TINY w_MEDIUM w_LARGE with ⟨wq, hv195⟩ | hv196
            · -- wq
              obtain ⟨_, _, ⟨T197, L197, k197, n197⟩, -, X197, ⟨Lc197, hQ197, l197, y197, z197⟩, st197⟩ := Jvm.LawKit.callS X193 hx (y := (⟨"com/example/rowstrata/rowstrata/row/VarTableSmallestPinLaw", "expected", "(IJ)Lcom/example/rowstrata/rowstrata/row/VarTable;"⟩ : MethodName)) hown (mvT hZ (hw _ (List.mem_of_getElem? (i := 25) rfl))) (mvT hZ (hw _ (List.mem_of_getElem? (i := 26) rfl))) (mvT hZ (hw _ (List.mem_of_getElem? (i := 27) rfl))) (mvT hZ (hw _ (List.mem_of_getElem? (i := 28) rfl))) (by decide) (backOf (W := 1) (rm_exp l Z a0 hw [] vv ls h0 n0 Z0 w_TINY w_NONE w_MEDIUM w_LARGE hWd hls.1 hls.2) hZ (hw _ (List.mem_of_getElem? (i := 28) rfl)) (hw _ (List.mem_of_getElem? (i := 27) rfl)) (by decide) (by decide)) (g := (mkF m 171 #[.val (.int p0), .val (.int p1), .val (.long p2), .second, .val (.int p3), .val (.int vm), .val (.int vv), .val (.long nv), .second, .val (.int lm), .val (.long ls), .second, .val (.ref wq), .unset, .val (.long tb), .second] [(.long ls), (.int vv), (.ref wq)])) rfl (by rw [hml]; rfl) (argsL := [(.int vv), (.long ls)]) (rest := [(.ref wq)]) (lenOf pd_137 rfl) rfl (by show 2 * 0 + _ ≤ _; exact Nat.le_of_eq rfl) (hb hby at_171) (fun _ _ => ⟨rfl, e193, (by decide : 0 + 0 ≤ _), (by decide : 0 + 0 ≤ _)⟩)
              dsimp only [Pt.U, Pt.locs, Pt.cells, Pt.slots] at X197 l197 y197 z197 st197 hQ197
              subst l197 y197 z197
              obtain ⟨rfl, N197q, e197⟩ := hQ197
              have N197 := Fr.app N193 N197q
              obtain ⟨fs, hr, hrun, hended, hW, hsame⟩ := X197.leave (v := some (.int (1 : Int32))) (fun h => by rw [Bd.returns] at h; cases h)
              refine ⟨_, _, ck194 _ ?_, hrun, hended, _, _, rfl, ?_, ⟨_, rfl⟩, hW, hsame.mono (by decide) (by decide)⟩
              · show Steps p.tables e below (T193.setTop (mkF m 163 #[.val (.int p0), .val (.int p1), .val (.long p2), .second, .val (.int p3), .val (.int vm), .val (.int vv), .val (.long nv), .second, .val (.int lm), .val (.long ls), .second, .val (.long (4294967295 : Int64)), .second, .val (.long tb), .second] [(own_spec vv.toInt ls.toInt w_NONE w_TINY w_MEDIUM w_LARGE)])) _
                rw [hv195]
                show Steps p.tables e below (T193.setTop (mkF m 163 #[.val (.int p0), .val (.int p1), .val (.long p2), .second, .val (.int p3), .val (.int vm), .val (.int vv), .val (.long nv), .second, .val (.int lm), .val (.long ls), .second, .val (.long (4294967295 : Int64)), .second, .val (.long tb), .second] [(.ref wq)])) _
                refine XS.astore X193.here hx rfl (hb hby at_163) rfl rfl (l' := #[.val (.int p0), .val (.int p1), .val (.long p2), .second, .val (.int p3), .val (.int vm), .val (.int vv), .val (.long nv), .second, .val (.int lm), .val (.long ls), .second, .val (.ref wq), .unset, .val (.long tb), .second]) rfl ?_
                show Steps p.tables e below (T193.setTop (mkF m 165 #[.val (.int p0), .val (.int p1), .val (.long p2), .second, .val (.int p3), .val (.int vm), .val (.int vv), .val (.long nv), .second, .val (.int lm), .val (.long ls), .second, .val (.ref wq), .unset, .val (.long tb), .second] [])) _
                refine XS.aload X193.here hx rfl (hb hby at_165) rfl rfl ?_
                show Steps p.tables e below (T193.setTop (mkF m 167 #[.val (.int p0), .val (.int p1), .val (.long p2), .second, .val (.int p3), .val (.int vm), .val (.int vv), .val (.long nv), .second, .val (.int lm), .val (.long ls), .second, .val (.ref wq), .unset, .val (.long tb), .second] [(.ref wq)])) _
                refine XS.iload X193.here hx rfl (hb hby at_167) rfl ?_
                show Steps p.tables e below (T193.setTop (mkF m 169 #[.val (.int p0), .val (.int p1), .val (.long p2), .second, .val (.int p3), .val (.int vm), .val (.int vv), .val (.long nv), .second, .val (.int lm), .val (.long ls), .second, .val (.ref wq), .unset, .val (.long tb), .second] [(.int vv), (.ref wq)])) _
                refine XS.lload X193.here hx rfl (hb hby at_169) rfl ?_
                show Steps p.tables e below (T193.setTop (mkF m 171 #[.val (.int p0), .val (.int p1), .val (.long p2), .second, .val (.int p3), .val (.int vm), .val (.int vv), .val (.long nv), .second, .val (.int lm), .val (.long ls), .second, .val (.ref wq), .unset, .val (.long tb), .second] [(.long ls), (.int vv), (.ref wq)])) _
                refine st197 _ ?_
                show Steps p.tables e below (T197.setTop (mkF m 174 #[.val (.int p0), .val (.int p1), .val (.long p2), .second, .val (.int p3), .val (.int vm), .val (.int vv), .val (.long nv), .second, .val (.int lm), .val (.long ls), .second, .val (.ref wq), .unset, .val (.long tb), .second] [(own_spec vv.toInt ls.toInt w_NONE w_TINY w_MEDIUM w_LARGE), (.ref wq)])) _
                rw [hv195]
                show Steps p.tables e below (T197.setTop (mkF m 174 #[.val (.int p0), .val (.int p1), .val (.long p2), .second, .val (.int p3), .val (.int vm), .val (.int vv), .val (.long nv), .second, .val (.int lm), .val (.long ls), .second, .val (.ref wq), .unset, .val (.long tb), .second] [(.ref wq), (.ref wq)])) _
                refine Jvm.RoadKit.acmp (g := (mkF m 174 #[.val (.int p0), .val (.int p1), .val (.long p2), .second, .val (.int p3), .val (.int vm), .val (.int vv), .val (.long nv), .second, .val (.int lm), .val (.long ls), .second, .val (.ref wq), .unset, .val (.long tb), .second] [(.ref wq), (.ref wq)])) X197 hx rfl rfl rfl (pc0 := 174) (pc' := 177) (same := true) rfl (hb hby at_174) rfl (decide_eq_true rfl) (by decide) (by decide) ?_
                show Steps p.tables e below (T197.setTop (mkF m 177 #[.val (.int p0), .val (.int p1), .val (.long p2), .second, .val (.int p3), .val (.int vm), .val (.int vv), .val (.long nv), .second, .val (.int lm), .val (.long ls), .second, .val (.ref wq), .unset, .val (.long tb), .second] [])) _
                refine XS.iconst X197.here hx rfl (hb hby at_177) ?_
                show Steps p.tables e below (T197.setTop (mkF m 178 #[.val (.int p0), .val (.int p1), .val (.long p2), .second, .val (.int p3), .val (.int vm), .val (.int vv), .val (.long nv), .second, .val (.int lm), .val (.long ls), .second, .val (.ref wq), .unset, .val (.long tb), .second] [(.int (1 : Int32))])) _
                refine XS.goto X197.here hx rfl (pc0 := 178) (pc' := 182) rfl (hb hby at_178) (by decide) (by decide) ?_
                show Steps p.tables e below (T197.setTop (mkF m 182 #[.val (.int p0), .val (.int p1), .val (.long p2), .second, .val (.int p3), .val (.int vm), .val (.int vv), .val (.long nv), .second, .val (.int lm), .val (.long ls), .second, .val (.ref wq), .unset, .val (.long tb), .second] [(.int (1 : Int32))])) _
                exact retN X197 hx (t := .boolean) Bd.returns (by simp) (hb hby at_182) hr
              · show own_Pure (some (.int 1)) h0 n0 _ T197.heap _
                rw [e197]
                exact ⟨rfl, N197, rfl⟩
            · -- null
              obtain ⟨_, _, ⟨T198, L198, k198, n198⟩, -, X198, ⟨Lc198, hQ198, l198, y198, z198⟩, st198⟩ := Jvm.LawKit.callS X193 hx (y := (⟨"com/example/rowstrata/rowstrata/row/VarTableSmallestPinLaw", "expected", "(IJ)Lcom/example/rowstrata/rowstrata/row/VarTable;"⟩ : MethodName)) hown (mvT hZ (hw _ (List.mem_of_getElem? (i := 25) rfl))) (mvT hZ (hw _ (List.mem_of_getElem? (i := 26) rfl))) (mvT hZ (hw _ (List.mem_of_getElem? (i := 27) rfl))) (mvT hZ (hw _ (List.mem_of_getElem? (i := 28) rfl))) (by decide) (backOf (W := 1) (rm_exp l Z a0 hw [] vv ls h0 n0 Z0 w_TINY w_NONE w_MEDIUM w_LARGE hWd hls.1 hls.2) hZ (hw _ (List.mem_of_getElem? (i := 28) rfl)) (hw _ (List.mem_of_getElem? (i := 27) rfl)) (by decide) (by decide)) (g := (mkF m 171 #[.val (.int p0), .val (.int p1), .val (.long p2), .second, .val (.int p3), .val (.int vm), .val (.int vv), .val (.long nv), .second, .val (.int lm), .val (.long ls), .second, .val .null, .unset, .val (.long tb), .second] [(.long ls), (.int vv), .null])) rfl (by rw [hml]; rfl) (argsL := [(.int vv), (.long ls)]) (rest := [.null]) (lenOf pd_137 rfl) rfl (by show 2 * 0 + _ ≤ _; exact Nat.le_of_eq rfl) (hb hby at_171) (fun _ _ => ⟨rfl, e193, (by decide : 0 + 0 ≤ _), (by decide : 0 + 0 ≤ _)⟩)
              dsimp only [Pt.U, Pt.locs, Pt.cells, Pt.slots] at X198 l198 y198 z198 st198 hQ198
              subst l198 y198 z198
              obtain ⟨rfl, N198q, e198⟩ := hQ198
              have N198 := Fr.app N193 N198q
              obtain ⟨fs, hr, hrun, hended, hW, hsame⟩ := X198.leave (v := some (.int (1 : Int32))) (fun h => by rw [Bd.returns] at h; cases h)
              refine ⟨_, _, ck194 _ ?_, hrun, hended, _, _, rfl, ?_, ⟨_, rfl⟩, hW, hsame.mono (by decide) (by decide)⟩
              · show Steps p.tables e below (T193.setTop (mkF m 163 #[.val (.int p0), .val (.int p1), .val (.long p2), .second, .val (.int p3), .val (.int vm), .val (.int vv), .val (.long nv), .second, .val (.int lm), .val (.long ls), .second, .val (.long (4294967295 : Int64)), .second, .val (.long tb), .second] [(own_spec vv.toInt ls.toInt w_NONE w_TINY w_MEDIUM w_LARGE)])) _
                rw [hv196]
                show Steps p.tables e below (T193.setTop (mkF m 163 #[.val (.int p0), .val (.int p1), .val (.long p2), .second, .val (.int p3), .val (.int vm), .val (.int vv), .val (.long nv), .second, .val (.int lm), .val (.long ls), .second, .val (.long (4294967295 : Int64)), .second, .val (.long tb), .second] [.null])) _
                refine XS.astore X193.here hx rfl (hb hby at_163) rfl rfl (l' := #[.val (.int p0), .val (.int p1), .val (.long p2), .second, .val (.int p3), .val (.int vm), .val (.int vv), .val (.long nv), .second, .val (.int lm), .val (.long ls), .second, .val .null, .unset, .val (.long tb), .second]) rfl ?_
                show Steps p.tables e below (T193.setTop (mkF m 165 #[.val (.int p0), .val (.int p1), .val (.long p2), .second, .val (.int p3), .val (.int vm), .val (.int vv), .val (.long nv), .second, .val (.int lm), .val (.long ls), .second, .val .null, .unset, .val (.long tb), .second] [])) _
                refine XS.aload X193.here hx rfl (hb hby at_165) rfl rfl ?_
                show Steps p.tables e below (T193.setTop (mkF m 167 #[.val (.int p0), .val (.int p1), .val (.long p2), .second, .val (.int p3), .val (.int vm), .val (.int vv), .val (.long nv), .second, .val (.int lm), .val (.long ls), .second, .val .null, .unset, .val (.long tb), .second] [.null])) _
                refine XS.iload X193.here hx rfl (hb hby at_167) rfl ?_
                show Steps p.tables e below (T193.setTop (mkF m 169 #[.val (.int p0), .val (.int p1), .val (.long p2), .second, .val (.int p3), .val (.int vm), .val (.int vv), .val (.long nv), .second, .val (.int lm), .val (.long ls), .second, .val .null, .unset, .val (.long tb), .second] [(.int vv), .null])) _
                refine XS.lload X193.here hx rfl (hb hby at_169) rfl ?_
                show Steps p.tables e below (T193.setTop (mkF m 171 #[.val (.int p0), .val (.int p1), .val (.long p2), .second, .val (.int p3), .val (.int vm), .val (.int vv), .val (.long nv), .second, .val (.int lm), .val (.long ls), .second, .val .null, .unset, .val (.long tb), .second] [(.long ls), (.int vv), .null])) _
                refine st198 _ ?_
                show Steps p.tables e below (T198.setTop (mkF m 174 #[.val (.int p0), .val (.int p1), .val (.long p2), .second, .val (.int p3), .val (.int vm), .val (.int vv), .val (.long nv), .second, .val (.int lm), .val (.long ls), .second, .val .null, .unset, .val (.long tb), .second] [(own_spec vv.toInt ls.toInt w_NONE w_TINY w_MEDIUM w_LARGE), .null])) _
                rw [hv196]
                show Steps p.tables e below (T198.setTop (mkF m 174 #[.val (.int p0), .val (.int p1), .val (.long p2), .second, .val (.int p3), .val (.int vm), .val (.int vv), .val (.long nv), .second, .val (.int lm), .val (.long ls), .second, .val .null, .unset, .val (.long tb), .second] [.null, .null])) _
                refine Jvm.RoadKit.acmp (g := (mkF m 174 #[.val (.int p0), .val (.int p1), .val (.long p2), .second, .val (.int p3), .val (.int vm), .val (.int vv), .val (.long nv), .second, .val (.int lm), .val (.long ls), .second, .val .null, .unset, .val (.long tb), .second] [.null, .null])) X198 hx rfl rfl rfl (pc0 := 174) (pc' := 177) (same := true) rfl (hb hby at_174) rfl (decide_eq_true rfl) (by decide) (by decide) ?_
                show Steps p.tables e below (T198.setTop (mkF m 177 #[.val (.int p0), .val (.int p1), .val (.long p2), .second, .val (.int p3), .val (.int vm), .val (.int vv), .val (.long nv), .second, .val (.int lm), .val (.long ls), .second, .val .null, .unset, .val (.long tb), .second] [])) _
                refine XS.iconst X198.here hx rfl (hb hby at_177) ?_
                show Steps p.tables e below (T198.setTop (mkF m 178 #[.val (.int p0), .val (.int p1), .val (.long p2), .second, .val (.int p3), .val (.int vm), .val (.int vv), .val (.long nv), .second, .val (.int lm), .val (.long ls), .second, .val .null, .unset, .val (.long tb), .second] [(.int (1 : Int32))])) _
                refine XS.goto X198.here hx rfl (pc0 := 178) (pc' := 182) rfl (hb hby at_178) (by decide) (by decide) ?_
                show Steps p.tables e below (T198.setTop (mkF m 182 #[.val (.int p0), .val (.int p1), .val (.long p2), .second, .val (.int p3), .val (.int vm), .val (.int vv), .val (.long nv), .second, .val (.int lm), .val (.long ls), .second, .val .null, .unset, .val (.long tb), .second] [(.int (1 : Int32))])) _
                exact retN X198 hx (t := .boolean) Bd.returns (by simp) (hb hby at_182) hr
              · show own_Pure (some (.int 1)) h0 n0 _ T198.heap _
                rw [e198]
                exact ⟨rfl, N198, rfl⟩
    · -- pc 17: not vm = (1 : Int32)
      obtain ⟨vv, h_vv⟩ : ∃ z : Int32, (p1 &&& (131071 : Int32)) = z := ⟨_, rfl⟩
      obtain ⟨v1, h_v1⟩ : ∃ z : Int64, ((vv.toInt64) - (1 : Int64)) = z := ⟨_, rfl⟩
      have hv1 : -2147483649 ≤ v1.toInt ∧ v1.toInt ≤ 2147483646 := by rw [← h_v1]; exact own_v1 vv
      obtain ⟨_, _, ⟨T199, L199, k199, n199⟩, -, X199, ⟨Lc199, hQ199, l199, y199, z199⟩, st199⟩ := Jvm.LawKit.callS X0 hx (y := (⟨"java/lang/Math", "max", "(JJ)J"⟩ : MethodName)) hown (mvT hZ (hw _ (List.mem_of_getElem? (i := 0) rfl))) (mvT hZ (hw _ (List.mem_of_getElem? (i := 1) rfl))) (mvT hZ (hw _ (List.mem_of_getElem? (i := 2) rfl))) (mvT hZ (hw _ (List.mem_of_getElem? (i := 3) rfl))) (by decide) (backOf (W := 0) (rm_max l Z a0 hw [] (0 : Int64) v1 h0 n0 Z0 (if (lcmpW (0 : Int64) v1) < (0 : Int32) then v1 else (0 : Int64)) rfl) hZ (hw _ (List.mem_of_getElem? (i := 3) rfl)) (hw _ (List.mem_of_getElem? (i := 2) rfl)) (by decide) (by decide)) (g := (mkF m 40 #[.val (.int p0), .val (.int p1), .val (.long p2), .second, .val (.int p3), .val (.int vm), .val (.int vv), .unset, .unset, .unset, .unset, .unset, .unset, .unset, .unset, .unset] [(.long v1), (.long (0 : Int64))])) rfl (by rw [hml]; rfl) (argsL := [(.long (0 : Int64)), (.long v1)]) (rest := []) (lenOf pd_136 rfl) rfl (by show 2 * 0 + _ ≤ _; exact Nat.le_of_eq rfl) (hb hby at_40) (fun _ _ => ⟨rfl, e0, (by decide : 0 + 0 ≤ _), (by decide : 0 + 0 ≤ _)⟩)
      dsimp only [Pt.U, Pt.locs, Pt.cells, Pt.slots] at X199 l199 y199 z199 st199 hQ199
      subst l199 y199 z199
      obtain ⟨rfl, N199q, e199⟩ := hQ199
      have N199 := Fr.app N0 N199q
      obtain ⟨nv, h_nv⟩ : ∃ z : Int64, (if (lcmpW (0 : Int64) v1) < (0 : Int32) then v1 else (0 : Int64)) = z := ⟨_, rfl⟩
      have hnv : 0 ≤ nv.toInt ∧ nv.toInt ≤ 2147483646 := by rw [← h_nv]; exact own_mx hv1.2
      obtain ⟨lm, h_lm⟩ : ∃ z : Int32, (((p0.toUInt32 >>> ((2 : Int32) &&& 31).toUInt32).toInt32) &&& (3 : Int32)) = z := ⟨_, rfl⟩
      have ck201 : ∀ t, Steps p.tables e below (T199.setTop (mkF m 54 #[.val (.int p0), .val (.int p1), .val (.long p2), .second, .val (.int p3), .val (.int vm), .val (.int vv), .val (.long nv), .second, .val (.int lm), .unset, .unset, .unset, .unset, .unset, .unset] [(.int lm)])) t → Steps p.tables e below (s₁.setTop (entryFrame m #[(.int p0), (.int p1), (.long p2), (.int p3)] maxLocals)) t := by
        intro t kt
        refine ck131 _ ?_
        show Steps p.tables e below (s₁.setTop (mkF m 7 #[.val (.int p0), .val (.int p1), .val (.long p2), .second, .val (.int p3), .val (.int vm), .unset, .unset, .unset, .unset, .unset, .unset, .unset, .unset, .unset, .unset] [(.int vm)])) _
        refine XS.ifYes X0.here hx rfl (pc0 := 7) (pc' := 14) rfl (hb hby at_7) rfl ((if0 _ _).trans (feq hc7_130).2) (by decide) (by decide) ?_
        show Steps p.tables e below (s₁.setTop (mkF m 14 #[.val (.int p0), .val (.int p1), .val (.long p2), .second, .val (.int p3), .val (.int vm), .unset, .unset, .unset, .unset, .unset, .unset, .unset, .unset, .unset, .unset] [])) _
        refine XS.iload X0.here hx rfl (hb hby at_14) rfl ?_
        show Steps p.tables e below (s₁.setTop (mkF m 16 #[.val (.int p0), .val (.int p1), .val (.long p2), .second, .val (.int p3), .val (.int vm), .unset, .unset, .unset, .unset, .unset, .unset, .unset, .unset, .unset, .unset] [(.int vm)])) _
        refine XS.iconst X0.here hx rfl (hb hby at_16) ?_
        show Steps p.tables e below (s₁.setTop (mkF m 17 #[.val (.int p0), .val (.int p1), .val (.long p2), .second, .val (.int p3), .val (.int vm), .unset, .unset, .unset, .unset, .unset, .unset, .unset, .unset, .unset, .unset] [(.int (1 : Int32)), (.int vm)])) _
        refine XS.icmpYes X0.here hx rfl (pc0 := 17) (pc' := 28) rfl (hb hby at_17) rfl (feq hc17_165).2 (by decide) (by decide) ?_
        show Steps p.tables e below (s₁.setTop (mkF m 28 #[.val (.int p0), .val (.int p1), .val (.long p2), .second, .val (.int p3), .val (.int vm), .unset, .unset, .unset, .unset, .unset, .unset, .unset, .unset, .unset, .unset] [])) _
        refine XS.iloadN X0.here hx rfl (hb hby at_28) rfl ?_
        show Steps p.tables e below (s₁.setTop (mkF m 29 #[.val (.int p0), .val (.int p1), .val (.long p2), .second, .val (.int p3), .val (.int vm), .unset, .unset, .unset, .unset, .unset, .unset, .unset, .unset, .unset, .unset] [(.int p1)])) _
        refine X0.ldcInt hx hown (mvT hZ (hw _ (List.mem_of_getElem? (i := 31) rfl))) (g := (mkF m 29 #[.val (.int p0), .val (.int p1), .val (.long p2), .second, .val (.int p3), .val (.int vm), .unset, .unset, .unset, .unset, .unset, .unset, .unset, .unset, .unset, .unset] [(.int p1)])) rfl (hb hby at_29) _ ?_
        show Steps p.tables e below (s₁.setTop (mkF m 31 #[.val (.int p0), .val (.int p1), .val (.long p2), .second, .val (.int p3), .val (.int vm), .unset, .unset, .unset, .unset, .unset, .unset, .unset, .unset, .unset, .unset] [(.int (131071 : Int32)), (.int p1)])) _
        refine XS.iand X0.here hx rfl (hb hby at_31) rfl ?_
        show Steps p.tables e below (s₁.setTop (mkF m 32 #[.val (.int p0), .val (.int p1), .val (.long p2), .second, .val (.int p3), .val (.int vm), .unset, .unset, .unset, .unset, .unset, .unset, .unset, .unset, .unset, .unset] [(.int (p1 &&& (131071 : Int32)))])) _
        rw [h_vv]
        show Steps p.tables e below (s₁.setTop (mkF m 32 #[.val (.int p0), .val (.int p1), .val (.long p2), .second, .val (.int p3), .val (.int vm), .unset, .unset, .unset, .unset, .unset, .unset, .unset, .unset, .unset, .unset] [(.int vv)])) _
        refine XS.istore X0.here hx rfl (hb hby at_32) rfl (l' := #[.val (.int p0), .val (.int p1), .val (.long p2), .second, .val (.int p3), .val (.int vm), .val (.int vv), .unset, .unset, .unset, .unset, .unset, .unset, .unset, .unset, .unset]) rfl ?_
        show Steps p.tables e below (s₁.setTop (mkF m 34 #[.val (.int p0), .val (.int p1), .val (.long p2), .second, .val (.int p3), .val (.int vm), .val (.int vv), .unset, .unset, .unset, .unset, .unset, .unset, .unset, .unset, .unset] [])) _
        refine XS.lconst X0.here hx rfl (hb hby at_34) ?_
        show Steps p.tables e below (s₁.setTop (mkF m 35 #[.val (.int p0), .val (.int p1), .val (.long p2), .second, .val (.int p3), .val (.int vm), .val (.int vv), .unset, .unset, .unset, .unset, .unset, .unset, .unset, .unset, .unset] [(.long (0 : Int64))])) _
        refine XS.iload X0.here hx rfl (hb hby at_35) rfl ?_
        show Steps p.tables e below (s₁.setTop (mkF m 37 #[.val (.int p0), .val (.int p1), .val (.long p2), .second, .val (.int p3), .val (.int vm), .val (.int vv), .unset, .unset, .unset, .unset, .unset, .unset, .unset, .unset, .unset] [(.int vv), (.long (0 : Int64))])) _
        refine XS.i2l X0.here hx rfl (hb hby at_37) rfl ?_
        show Steps p.tables e below (s₁.setTop (mkF m 38 #[.val (.int p0), .val (.int p1), .val (.long p2), .second, .val (.int p3), .val (.int vm), .val (.int vv), .unset, .unset, .unset, .unset, .unset, .unset, .unset, .unset, .unset] [(.long (vv.toInt64)), (.long (0 : Int64))])) _
        refine XS.lconst X0.here hx rfl (hb hby at_38) ?_
        show Steps p.tables e below (s₁.setTop (mkF m 39 #[.val (.int p0), .val (.int p1), .val (.long p2), .second, .val (.int p3), .val (.int vm), .val (.int vv), .unset, .unset, .unset, .unset, .unset, .unset, .unset, .unset, .unset] [(.long (1 : Int64)), (.long (vv.toInt64)), (.long (0 : Int64))])) _
        refine XS.lsub X0.here hx rfl (hb hby at_39) rfl ?_
        show Steps p.tables e below (s₁.setTop (mkF m 40 #[.val (.int p0), .val (.int p1), .val (.long p2), .second, .val (.int p3), .val (.int vm), .val (.int vv), .unset, .unset, .unset, .unset, .unset, .unset, .unset, .unset, .unset] [(.long ((vv.toInt64) - (1 : Int64))), (.long (0 : Int64))])) _
        rw [h_v1]
        show Steps p.tables e below (s₁.setTop (mkF m 40 #[.val (.int p0), .val (.int p1), .val (.long p2), .second, .val (.int p3), .val (.int vm), .val (.int vv), .unset, .unset, .unset, .unset, .unset, .unset, .unset, .unset, .unset] [(.long v1), (.long (0 : Int64))])) _
        refine st199 _ ?_
        show Steps p.tables e below (T199.setTop (mkF m 43 #[.val (.int p0), .val (.int p1), .val (.long p2), .second, .val (.int p3), .val (.int vm), .val (.int vv), .unset, .unset, .unset, .unset, .unset, .unset, .unset, .unset, .unset] [(.long (if (lcmpW (0 : Int64) v1) < (0 : Int32) then v1 else (0 : Int64)))])) _
        rw [h_nv]
        show Steps p.tables e below (T199.setTop (mkF m 43 #[.val (.int p0), .val (.int p1), .val (.long p2), .second, .val (.int p3), .val (.int vm), .val (.int vv), .unset, .unset, .unset, .unset, .unset, .unset, .unset, .unset, .unset] [(.long nv)])) _
        refine XS.lstore X199.here hx rfl (hb hby at_43) rfl (l' := #[.val (.int p0), .val (.int p1), .val (.long p2), .second, .val (.int p3), .val (.int vm), .val (.int vv), .val (.long nv), .second, .unset, .unset, .unset, .unset, .unset, .unset, .unset]) rfl ?_
        show Steps p.tables e below (T199.setTop (mkF m 45 #[.val (.int p0), .val (.int p1), .val (.long p2), .second, .val (.int p3), .val (.int vm), .val (.int vv), .val (.long nv), .second, .unset, .unset, .unset, .unset, .unset, .unset, .unset] [])) _
        refine XS.iloadN X199.here hx rfl (hb hby at_45) rfl ?_
        show Steps p.tables e below (T199.setTop (mkF m 46 #[.val (.int p0), .val (.int p1), .val (.long p2), .second, .val (.int p3), .val (.int vm), .val (.int vv), .val (.long nv), .second, .unset, .unset, .unset, .unset, .unset, .unset, .unset] [(.int p0)])) _
        refine XS.iconst X199.here hx rfl (hb hby at_46) ?_
        show Steps p.tables e below (T199.setTop (mkF m 47 #[.val (.int p0), .val (.int p1), .val (.long p2), .second, .val (.int p3), .val (.int vm), .val (.int vv), .val (.long nv), .second, .unset, .unset, .unset, .unset, .unset, .unset, .unset] [(.int (2 : Int32)), (.int p0)])) _
        refine XS.iushr X199.here hx rfl (hb hby at_47) rfl ?_
        show Steps p.tables e below (T199.setTop (mkF m 48 #[.val (.int p0), .val (.int p1), .val (.long p2), .second, .val (.int p3), .val (.int vm), .val (.int vv), .val (.long nv), .second, .unset, .unset, .unset, .unset, .unset, .unset, .unset] [(.int ((p0.toUInt32 >>> ((2 : Int32) &&& 31).toUInt32).toInt32))])) _
        refine XS.iconst X199.here hx rfl (hb hby at_48) ?_
        show Steps p.tables e below (T199.setTop (mkF m 49 #[.val (.int p0), .val (.int p1), .val (.long p2), .second, .val (.int p3), .val (.int vm), .val (.int vv), .val (.long nv), .second, .unset, .unset, .unset, .unset, .unset, .unset, .unset] [(.int (3 : Int32)), (.int ((p0.toUInt32 >>> ((2 : Int32) &&& 31).toUInt32).toInt32))])) _
        refine XS.iand X199.here hx rfl (hb hby at_49) rfl ?_
        show Steps p.tables e below (T199.setTop (mkF m 50 #[.val (.int p0), .val (.int p1), .val (.long p2), .second, .val (.int p3), .val (.int vm), .val (.int vv), .val (.long nv), .second, .unset, .unset, .unset, .unset, .unset, .unset, .unset] [(.int (((p0.toUInt32 >>> ((2 : Int32) &&& 31).toUInt32).toInt32) &&& (3 : Int32)))])) _
        rw [h_lm]
        show Steps p.tables e below (T199.setTop (mkF m 50 #[.val (.int p0), .val (.int p1), .val (.long p2), .second, .val (.int p3), .val (.int vm), .val (.int vv), .val (.long nv), .second, .unset, .unset, .unset, .unset, .unset, .unset, .unset] [(.int lm)])) _
        refine XS.istore X199.here hx rfl (hb hby at_50) rfl (l' := #[.val (.int p0), .val (.int p1), .val (.long p2), .second, .val (.int p3), .val (.int vm), .val (.int vv), .val (.long nv), .second, .val (.int lm), .unset, .unset, .unset, .unset, .unset, .unset]) rfl ?_
        show Steps p.tables e below (T199.setTop (mkF m 52 #[.val (.int p0), .val (.int p1), .val (.long p2), .second, .val (.int p3), .val (.int vm), .val (.int vv), .val (.long nv), .second, .val (.int lm), .unset, .unset, .unset, .unset, .unset, .unset] [])) _
        refine XS.iload X199.here hx rfl (hb hby at_52) rfl ?_
        exact kt
      (try clear N199q); (try clear st199); (try clear Lc199); (try clear n199); (try clear k199); (try clear L199)
      by_cases hc54_200 : lm = (0 : Int32)
      · -- pc 54: lm = (0 : Int32)
        obtain ⟨ls, h_ls⟩ : ∃ z : Int64, ((p2.toUInt64 >>> ((2 : Int32) &&& 0x3f).toInt64.toUInt64).toInt64) = z := ⟨_, rfl⟩
        have hls : 0 ≤ ls.toInt ∧ ls.toInt ≤ 4611686018427387904 := by rw [← h_ls]; exact own_ush p2
        obtain ⟨_, _, ⟨T202, L202, k202, n202⟩, -, X202, ⟨Lc202, hQ202, l202, y202, z202⟩, st202⟩ := Jvm.LawKit.callS X199 hx (y := (⟨"com/example/rowstrata/rowstrata/row/VarTable", "smallest", "(IJ)Lcom/example/rowstrata/rowstrata/row/VarTable;"⟩ : MethodName)) hown (mvT hZ (hw _ (List.mem_of_getElem? (i := 4) rfl))) (mvT hZ (hw _ (List.mem_of_getElem? (i := 5) rfl))) (mvT hZ (hw _ (List.mem_of_getElem? (i := 6) rfl))) (mvT hZ (hw _ (List.mem_of_getElem? (i := 7) rfl))) (by decide) (backOf (W := 0) (rm_sm l Z a0 hw [] vv ls h0 n0 Z0 w_TINY w_NONE w_MEDIUM w_LARGE hWd w_WT kWT S_WT A_WT hls.1 hls.2) hZ (hw _ (List.mem_of_getElem? (i := 7) rfl)) (hw _ (List.mem_of_getElem? (i := 6) rfl)) (by decide) (by decide)) (g := (mkF m 160 #[.val (.int p0), .val (.int p1), .val (.long p2), .second, .val (.int p3), .val (.int vm), .val (.int vv), .val (.long nv), .second, .val (.int lm), .val (.long ls), .second, .unset, .unset, .unset, .unset] [(.long ls), (.int vv)])) rfl (by rw [hml]; rfl) (argsL := [(.int vv), (.long ls)]) (rest := []) (lenOf pd_137 rfl) rfl (by show 2 * 0 + _ ≤ _; exact Nat.le_of_eq rfl) (hb hby at_160) (fun _ _ => ⟨rfl, e199, (by decide : 0 + 0 ≤ _), (by decide : 0 + 0 ≤ _)⟩)
        dsimp only [Pt.U, Pt.locs, Pt.cells, Pt.slots] at X202 l202 y202 z202 st202 hQ202
        subst l202 y202 z202
        obtain ⟨rfl, N202q, e202⟩ := hQ202
        have N202 := Fr.app N199 N202q
        have ck203 : ∀ t, Steps p.tables e below (T202.setTop (mkF m 163 #[.val (.int p0), .val (.int p1), .val (.long p2), .second, .val (.int p3), .val (.int vm), .val (.int vv), .val (.long nv), .second, .val (.int lm), .val (.long ls), .second, .unset, .unset, .unset, .unset] [(own_spec vv.toInt ls.toInt w_NONE w_TINY w_MEDIUM w_LARGE)])) t → Steps p.tables e below (s₁.setTop (entryFrame m #[(.int p0), (.int p1), (.long p2), (.int p3)] maxLocals)) t := by
          intro t kt
          refine ck201 _ ?_
          show Steps p.tables e below (T199.setTop (mkF m 54 #[.val (.int p0), .val (.int p1), .val (.long p2), .second, .val (.int p3), .val (.int vm), .val (.int vv), .val (.long nv), .second, .val (.int lm), .unset, .unset, .unset, .unset, .unset, .unset] [(.int lm)])) _
          refine XS.ifNo X199.here hx rfl (hb hby at_54) rfl ((if0 _ _).trans (teq hc54_200).2) ?_
          show Steps p.tables e below (T199.setTop (mkF m 57 #[.val (.int p0), .val (.int p1), .val (.long p2), .second, .val (.int p3), .val (.int vm), .val (.int vv), .val (.long nv), .second, .val (.int lm), .unset, .unset, .unset, .unset, .unset, .unset] [])) _
          refine XS.lloadN X199.here hx rfl (hb hby at_57) rfl ?_
          show Steps p.tables e below (T199.setTop (mkF m 58 #[.val (.int p0), .val (.int p1), .val (.long p2), .second, .val (.int p3), .val (.int vm), .val (.int vv), .val (.long nv), .second, .val (.int lm), .unset, .unset, .unset, .unset, .unset, .unset] [(.long p2)])) _
          refine XS.iconst X199.here hx rfl (hb hby at_58) ?_
          show Steps p.tables e below (T199.setTop (mkF m 59 #[.val (.int p0), .val (.int p1), .val (.long p2), .second, .val (.int p3), .val (.int vm), .val (.int vv), .val (.long nv), .second, .val (.int lm), .unset, .unset, .unset, .unset, .unset, .unset] [(.int (2 : Int32)), (.long p2)])) _
          refine XS.lushr X199.here hx rfl (hb hby at_59) rfl ?_
          show Steps p.tables e below (T199.setTop (mkF m 60 #[.val (.int p0), .val (.int p1), .val (.long p2), .second, .val (.int p3), .val (.int vm), .val (.int vv), .val (.long nv), .second, .val (.int lm), .unset, .unset, .unset, .unset, .unset, .unset] [(.long ((p2.toUInt64 >>> ((2 : Int32) &&& 0x3f).toInt64.toUInt64).toInt64))])) _
          rw [h_ls]
          show Steps p.tables e below (T199.setTop (mkF m 60 #[.val (.int p0), .val (.int p1), .val (.long p2), .second, .val (.int p3), .val (.int vm), .val (.int vv), .val (.long nv), .second, .val (.int lm), .unset, .unset, .unset, .unset, .unset, .unset] [(.long ls)])) _
          refine XS.lstore X199.here hx rfl (hb hby at_60) rfl (l' := #[.val (.int p0), .val (.int p1), .val (.long p2), .second, .val (.int p3), .val (.int vm), .val (.int vv), .val (.long nv), .second, .val (.int lm), .val (.long ls), .second, .unset, .unset, .unset, .unset]) rfl ?_
          show Steps p.tables e below (T199.setTop (mkF m 62 #[.val (.int p0), .val (.int p1), .val (.long p2), .second, .val (.int p3), .val (.int vm), .val (.int vv), .val (.long nv), .second, .val (.int lm), .val (.long ls), .second, .unset, .unset, .unset, .unset] [])) _
          refine XS.goto X199.here hx rfl (pc0 := 62) (pc' := 156) rfl (hb hby at_62) (by decide) (by decide) ?_
          show Steps p.tables e below (T199.setTop (mkF m 156 #[.val (.int p0), .val (.int p1), .val (.long p2), .second, .val (.int p3), .val (.int vm), .val (.int vv), .val (.long nv), .second, .val (.int lm), .val (.long ls), .second, .unset, .unset, .unset, .unset] [])) _
          refine XS.iload X199.here hx rfl (hb hby at_156) rfl ?_
          show Steps p.tables e below (T199.setTop (mkF m 158 #[.val (.int p0), .val (.int p1), .val (.long p2), .second, .val (.int p3), .val (.int vm), .val (.int vv), .val (.long nv), .second, .val (.int lm), .val (.long ls), .second, .unset, .unset, .unset, .unset] [(.int vv)])) _
          refine XS.lload X199.here hx rfl (hb hby at_158) rfl ?_
          show Steps p.tables e below (T199.setTop (mkF m 160 #[.val (.int p0), .val (.int p1), .val (.long p2), .second, .val (.int p3), .val (.int vm), .val (.int vv), .val (.long nv), .second, .val (.int lm), .val (.long ls), .second, .unset, .unset, .unset, .unset] [(.long ls), (.int vv)])) _
          refine st202 _ ?_
          exact kt
        (try clear N202q); (try clear st202); (try clear Lc202); (try clear n202); (try clear k202); (try clear L202)
        rcases own_spec_two vv.toInt ls.toInt w_NONE w_TINY w_MEDIUM w_LARGE with ⟨wq, hv204⟩ | hv205
        · -- wq
          obtain ⟨_, _, ⟨T206, L206, k206, n206⟩, -, X206, ⟨Lc206, hQ206, l206, y206, z206⟩, st206⟩ := Jvm.LawKit.callS X202 hx (y := (⟨"com/example/rowstrata/rowstrata/row/VarTableSmallestPinLaw", "expected", "(IJ)Lcom/example/rowstrata/rowstrata/row/VarTable;"⟩ : MethodName)) hown (mvT hZ (hw _ (List.mem_of_getElem? (i := 25) rfl))) (mvT hZ (hw _ (List.mem_of_getElem? (i := 26) rfl))) (mvT hZ (hw _ (List.mem_of_getElem? (i := 27) rfl))) (mvT hZ (hw _ (List.mem_of_getElem? (i := 28) rfl))) (by decide) (backOf (W := 1) (rm_exp l Z a0 hw [] vv ls h0 n0 Z0 w_TINY w_NONE w_MEDIUM w_LARGE hWd hls.1 hls.2) hZ (hw _ (List.mem_of_getElem? (i := 28) rfl)) (hw _ (List.mem_of_getElem? (i := 27) rfl)) (by decide) (by decide)) (g := (mkF m 171 #[.val (.int p0), .val (.int p1), .val (.long p2), .second, .val (.int p3), .val (.int vm), .val (.int vv), .val (.long nv), .second, .val (.int lm), .val (.long ls), .second, .val (.ref wq), .unset, .unset, .unset] [(.long ls), (.int vv), (.ref wq)])) rfl (by rw [hml]; rfl) (argsL := [(.int vv), (.long ls)]) (rest := [(.ref wq)]) (lenOf pd_137 rfl) rfl (by show 2 * 0 + _ ≤ _; exact Nat.le_of_eq rfl) (hb hby at_171) (fun _ _ => ⟨rfl, e202, (by decide : 0 + 0 ≤ _), (by decide : 0 + 0 ≤ _)⟩)
          dsimp only [Pt.U, Pt.locs, Pt.cells, Pt.slots] at X206 l206 y206 z206 st206 hQ206
          subst l206 y206 z206
          obtain ⟨rfl, N206q, e206⟩ := hQ206
          have N206 := Fr.app N202 N206q
          obtain ⟨fs, hr, hrun, hended, hW, hsame⟩ := X206.leave (v := some (.int (1 : Int32))) (fun h => by rw [Bd.returns] at h; cases h)
          refine ⟨_, _, ck203 _ ?_, hrun, hended, _, _, rfl, ?_, ⟨_, rfl⟩, hW, hsame.mono (by decide) (by decide)⟩
          · show Steps p.tables e below (T202.setTop (mkF m 163 #[.val (.int p0), .val (.int p1), .val (.long p2), .second, .val (.int p3), .val (.int vm), .val (.int vv), .val (.long nv), .second, .val (.int lm), .val (.long ls), .second, .unset, .unset, .unset, .unset] [(own_spec vv.toInt ls.toInt w_NONE w_TINY w_MEDIUM w_LARGE)])) _
            rw [hv204]
            show Steps p.tables e below (T202.setTop (mkF m 163 #[.val (.int p0), .val (.int p1), .val (.long p2), .second, .val (.int p3), .val (.int vm), .val (.int vv), .val (.long nv), .second, .val (.int lm), .val (.long ls), .second, .unset, .unset, .unset, .unset] [(.ref wq)])) _
            refine XS.astore X202.here hx rfl (hb hby at_163) rfl rfl (l' := #[.val (.int p0), .val (.int p1), .val (.long p2), .second, .val (.int p3), .val (.int vm), .val (.int vv), .val (.long nv), .second, .val (.int lm), .val (.long ls), .second, .val (.ref wq), .unset, .unset, .unset]) rfl ?_
            show Steps p.tables e below (T202.setTop (mkF m 165 #[.val (.int p0), .val (.int p1), .val (.long p2), .second, .val (.int p3), .val (.int vm), .val (.int vv), .val (.long nv), .second, .val (.int lm), .val (.long ls), .second, .val (.ref wq), .unset, .unset, .unset] [])) _
            refine XS.aload X202.here hx rfl (hb hby at_165) rfl rfl ?_
            show Steps p.tables e below (T202.setTop (mkF m 167 #[.val (.int p0), .val (.int p1), .val (.long p2), .second, .val (.int p3), .val (.int vm), .val (.int vv), .val (.long nv), .second, .val (.int lm), .val (.long ls), .second, .val (.ref wq), .unset, .unset, .unset] [(.ref wq)])) _
            refine XS.iload X202.here hx rfl (hb hby at_167) rfl ?_
            show Steps p.tables e below (T202.setTop (mkF m 169 #[.val (.int p0), .val (.int p1), .val (.long p2), .second, .val (.int p3), .val (.int vm), .val (.int vv), .val (.long nv), .second, .val (.int lm), .val (.long ls), .second, .val (.ref wq), .unset, .unset, .unset] [(.int vv), (.ref wq)])) _
            refine XS.lload X202.here hx rfl (hb hby at_169) rfl ?_
            show Steps p.tables e below (T202.setTop (mkF m 171 #[.val (.int p0), .val (.int p1), .val (.long p2), .second, .val (.int p3), .val (.int vm), .val (.int vv), .val (.long nv), .second, .val (.int lm), .val (.long ls), .second, .val (.ref wq), .unset, .unset, .unset] [(.long ls), (.int vv), (.ref wq)])) _
            refine st206 _ ?_
            show Steps p.tables e below (T206.setTop (mkF m 174 #[.val (.int p0), .val (.int p1), .val (.long p2), .second, .val (.int p3), .val (.int vm), .val (.int vv), .val (.long nv), .second, .val (.int lm), .val (.long ls), .second, .val (.ref wq), .unset, .unset, .unset] [(own_spec vv.toInt ls.toInt w_NONE w_TINY w_MEDIUM w_LARGE), (.ref wq)])) _
            rw [hv204]
            show Steps p.tables e below (T206.setTop (mkF m 174 #[.val (.int p0), .val (.int p1), .val (.long p2), .second, .val (.int p3), .val (.int vm), .val (.int vv), .val (.long nv), .second, .val (.int lm), .val (.long ls), .second, .val (.ref wq), .unset, .unset, .unset] [(.ref wq), (.ref wq)])) _
            refine Jvm.RoadKit.acmp (g := (mkF m 174 #[.val (.int p0), .val (.int p1), .val (.long p2), .second, .val (.int p3), .val (.int vm), .val (.int vv), .val (.long nv), .second, .val (.int lm), .val (.long ls), .second, .val (.ref wq), .unset, .unset, .unset] [(.ref wq), (.ref wq)])) X206 hx rfl rfl rfl (pc0 := 174) (pc' := 177) (same := true) rfl (hb hby at_174) rfl (decide_eq_true rfl) (by decide) (by decide) ?_
            show Steps p.tables e below (T206.setTop (mkF m 177 #[.val (.int p0), .val (.int p1), .val (.long p2), .second, .val (.int p3), .val (.int vm), .val (.int vv), .val (.long nv), .second, .val (.int lm), .val (.long ls), .second, .val (.ref wq), .unset, .unset, .unset] [])) _
            refine XS.iconst X206.here hx rfl (hb hby at_177) ?_
            show Steps p.tables e below (T206.setTop (mkF m 178 #[.val (.int p0), .val (.int p1), .val (.long p2), .second, .val (.int p3), .val (.int vm), .val (.int vv), .val (.long nv), .second, .val (.int lm), .val (.long ls), .second, .val (.ref wq), .unset, .unset, .unset] [(.int (1 : Int32))])) _
            refine XS.goto X206.here hx rfl (pc0 := 178) (pc' := 182) rfl (hb hby at_178) (by decide) (by decide) ?_
            show Steps p.tables e below (T206.setTop (mkF m 182 #[.val (.int p0), .val (.int p1), .val (.long p2), .second, .val (.int p3), .val (.int vm), .val (.int vv), .val (.long nv), .second, .val (.int lm), .val (.long ls), .second, .val (.ref wq), .unset, .unset, .unset] [(.int (1 : Int32))])) _
            exact retN X206 hx (t := .boolean) Bd.returns (by simp) (hb hby at_182) hr
          · show own_Pure (some (.int 1)) h0 n0 _ T206.heap _
            rw [e206]
            exact ⟨rfl, N206, rfl⟩
        · -- null
          obtain ⟨_, _, ⟨T207, L207, k207, n207⟩, -, X207, ⟨Lc207, hQ207, l207, y207, z207⟩, st207⟩ := Jvm.LawKit.callS X202 hx (y := (⟨"com/example/rowstrata/rowstrata/row/VarTableSmallestPinLaw", "expected", "(IJ)Lcom/example/rowstrata/rowstrata/row/VarTable;"⟩ : MethodName)) hown (mvT hZ (hw _ (List.mem_of_getElem? (i := 25) rfl))) (mvT hZ (hw _ (List.mem_of_getElem? (i := 26) rfl))) (mvT hZ (hw _ (List.mem_of_getElem? (i := 27) rfl))) (mvT hZ (hw _ (List.mem_of_getElem? (i := 28) rfl))) (by decide) (backOf (W := 1) (rm_exp l Z a0 hw [] vv ls h0 n0 Z0 w_TINY w_NONE w_MEDIUM w_LARGE hWd hls.1 hls.2) hZ (hw _ (List.mem_of_getElem? (i := 28) rfl)) (hw _ (List.mem_of_getElem? (i := 27) rfl)) (by decide) (by decide)) (g := (mkF m 171 #[.val (.int p0), .val (.int p1), .val (.long p2), .second, .val (.int p3), .val (.int vm), .val (.int vv), .val (.long nv), .second, .val (.int lm), .val (.long ls), .second, .val .null, .unset, .unset, .unset] [(.long ls), (.int vv), .null])) rfl (by rw [hml]; rfl) (argsL := [(.int vv), (.long ls)]) (rest := [.null]) (lenOf pd_137 rfl) rfl (by show 2 * 0 + _ ≤ _; exact Nat.le_of_eq rfl) (hb hby at_171) (fun _ _ => ⟨rfl, e202, (by decide : 0 + 0 ≤ _), (by decide : 0 + 0 ≤ _)⟩)
          dsimp only [Pt.U, Pt.locs, Pt.cells, Pt.slots] at X207 l207 y207 z207 st207 hQ207
          subst l207 y207 z207
          obtain ⟨rfl, N207q, e207⟩ := hQ207
          have N207 := Fr.app N202 N207q
          obtain ⟨fs, hr, hrun, hended, hW, hsame⟩ := X207.leave (v := some (.int (1 : Int32))) (fun h => by rw [Bd.returns] at h; cases h)
          refine ⟨_, _, ck203 _ ?_, hrun, hended, _, _, rfl, ?_, ⟨_, rfl⟩, hW, hsame.mono (by decide) (by decide)⟩
          · show Steps p.tables e below (T202.setTop (mkF m 163 #[.val (.int p0), .val (.int p1), .val (.long p2), .second, .val (.int p3), .val (.int vm), .val (.int vv), .val (.long nv), .second, .val (.int lm), .val (.long ls), .second, .unset, .unset, .unset, .unset] [(own_spec vv.toInt ls.toInt w_NONE w_TINY w_MEDIUM w_LARGE)])) _
            rw [hv205]
            show Steps p.tables e below (T202.setTop (mkF m 163 #[.val (.int p0), .val (.int p1), .val (.long p2), .second, .val (.int p3), .val (.int vm), .val (.int vv), .val (.long nv), .second, .val (.int lm), .val (.long ls), .second, .unset, .unset, .unset, .unset] [.null])) _
            refine XS.astore X202.here hx rfl (hb hby at_163) rfl rfl (l' := #[.val (.int p0), .val (.int p1), .val (.long p2), .second, .val (.int p3), .val (.int vm), .val (.int vv), .val (.long nv), .second, .val (.int lm), .val (.long ls), .second, .val .null, .unset, .unset, .unset]) rfl ?_
            show Steps p.tables e below (T202.setTop (mkF m 165 #[.val (.int p0), .val (.int p1), .val (.long p2), .second, .val (.int p3), .val (.int vm), .val (.int vv), .val (.long nv), .second, .val (.int lm), .val (.long ls), .second, .val .null, .unset, .unset, .unset] [])) _
            refine XS.aload X202.here hx rfl (hb hby at_165) rfl rfl ?_
            show Steps p.tables e below (T202.setTop (mkF m 167 #[.val (.int p0), .val (.int p1), .val (.long p2), .second, .val (.int p3), .val (.int vm), .val (.int vv), .val (.long nv), .second, .val (.int lm), .val (.long ls), .second, .val .null, .unset, .unset, .unset] [.null])) _
            refine XS.iload X202.here hx rfl (hb hby at_167) rfl ?_
            show Steps p.tables e below (T202.setTop (mkF m 169 #[.val (.int p0), .val (.int p1), .val (.long p2), .second, .val (.int p3), .val (.int vm), .val (.int vv), .val (.long nv), .second, .val (.int lm), .val (.long ls), .second, .val .null, .unset, .unset, .unset] [(.int vv), .null])) _
            refine XS.lload X202.here hx rfl (hb hby at_169) rfl ?_
            show Steps p.tables e below (T202.setTop (mkF m 171 #[.val (.int p0), .val (.int p1), .val (.long p2), .second, .val (.int p3), .val (.int vm), .val (.int vv), .val (.long nv), .second, .val (.int lm), .val (.long ls), .second, .val .null, .unset, .unset, .unset] [(.long ls), (.int vv), .null])) _
            refine st207 _ ?_
            show Steps p.tables e below (T207.setTop (mkF m 174 #[.val (.int p0), .val (.int p1), .val (.long p2), .second, .val (.int p3), .val (.int vm), .val (.int vv), .val (.long nv), .second, .val (.int lm), .val (.long ls), .second, .val .null, .unset, .unset, .unset] [(own_spec vv.toInt ls.toInt w_NONE w_TINY w_MEDIUM w_LARGE), .null])) _
            rw [hv205]
            show Steps p.tables e below (T207.setTop (mkF m 174 #[.val (.int p0), .val (.int p1), .val (.long p2), .second, .val (.int p3), .val (.int vm), .val (.int vv), .val (.long nv), .second, .val (.int lm), .val (.long ls), .second, .val .null, .unset, .unset, .unset] [.null, .null])) _
            refine Jvm.RoadKit.acmp (g := (mkF m 174 #[.val (.int p0), .val (.int p1), .val (.long p2), .second, .val (.int p3), .val (.int vm), .val (.int vv), .val (.long nv), .second, .val (.int lm), .val (.long ls), .second, .val .null, .unset, .unset, .unset] [.null, .null])) X207 hx rfl rfl rfl (pc0 := 174) (pc' := 177) (same := true) rfl (hb hby at_174) rfl (decide_eq_true rfl) (by decide) (by decide) ?_
            show Steps p.tables e below (T207.setTop (mkF m 177 #[.val (.int p0), .val (.int p1), .val (.long p2), .second, .val (.int p3), .val (.int vm), .val (.int vv), .val (.long nv), .second, .val (.int lm), .val (.long ls), .second, .val .null, .unset, .unset, .unset] [])) _
            refine XS.iconst X207.here hx rfl (hb hby at_177) ?_
            show Steps p.tables e below (T207.setTop (mkF m 178 #[.val (.int p0), .val (.int p1), .val (.long p2), .second, .val (.int p3), .val (.int vm), .val (.int vv), .val (.long nv), .second, .val (.int lm), .val (.long ls), .second, .val .null, .unset, .unset, .unset] [(.int (1 : Int32))])) _
            refine XS.goto X207.here hx rfl (pc0 := 178) (pc' := 182) rfl (hb hby at_178) (by decide) (by decide) ?_
            show Steps p.tables e below (T207.setTop (mkF m 182 #[.val (.int p0), .val (.int p1), .val (.long p2), .second, .val (.int p3), .val (.int vm), .val (.int vv), .val (.long nv), .second, .val (.int lm), .val (.long ls), .second, .val .null, .unset, .unset, .unset] [(.int (1 : Int32))])) _
            exact retN X207 hx (t := .boolean) Bd.returns (by simp) (hb hby at_182) hr
          · show own_Pure (some (.int 1)) h0 n0 _ T207.heap _
            rw [e207]
            exact ⟨rfl, N207, rfl⟩
      · -- pc 54: not lm = (0 : Int32)
        by_cases hc68_208 : lm = (1 : Int32)
        · -- pc 68: lm = (1 : Int32)
          obtain ⟨tb, h_tb⟩ : ∃ z : Int64, ((1 : Int64) + nv) = z := ⟨_, rfl⟩
          have htb : 0 ≤ tb.toInt ∧ tb.toInt ≤ 8589934590 := by rw [← h_tb]; exact own_tb103 hnv.1 hnv.2
          obtain ⟨xx, h_xx⟩ : ∃ z : Int64, (((255 : Int64) - tb) + ((p3 % (8 : Int32)).toInt64)) = z := ⟨_, rfl⟩
          have hxx : xx.toInt ≤ 4294967303 := by rw [← h_xx]; exact own_xx (by decide) htb.1 htb.2
          obtain ⟨_, _, ⟨T209, L209, k209, n209⟩, -, X209, ⟨Lc209, hQ209, l209, y209, z209⟩, st209⟩ := Jvm.LawKit.callS X199 hx (y := (⟨"java/lang/Math", "max", "(JJ)J"⟩ : MethodName)) hown (mvT hZ (hw _ (List.mem_of_getElem? (i := 0) rfl))) (mvT hZ (hw _ (List.mem_of_getElem? (i := 1) rfl))) (mvT hZ (hw _ (List.mem_of_getElem? (i := 2) rfl))) (mvT hZ (hw _ (List.mem_of_getElem? (i := 3) rfl))) (by decide) (backOf (W := 0) (rm_max l Z a0 hw [] (0 : Int64) xx h0 n0 Z0 (if (lcmpW (0 : Int64) xx) < (0 : Int32) then xx else (0 : Int64)) rfl) hZ (hw _ (List.mem_of_getElem? (i := 3) rfl)) (hw _ (List.mem_of_getElem? (i := 2) rfl)) (by decide) (by decide)) (g := (mkF m 151 #[.val (.int p0), .val (.int p1), .val (.long p2), .second, .val (.int p3), .val (.int vm), .val (.int vv), .val (.long nv), .second, .val (.int lm), .unset, .unset, .val (.long (255 : Int64)), .second, .val (.long tb), .second] [(.long xx), (.long (0 : Int64))])) rfl (by rw [hml]; rfl) (argsL := [(.long (0 : Int64)), (.long xx)]) (rest := []) (lenOf pd_136 rfl) rfl (by show 2 * 0 + _ ≤ _; exact Nat.le_of_eq rfl) (hb hby at_151) (fun _ _ => ⟨rfl, e199, (by decide : 0 + 0 ≤ _), (by decide : 0 + 0 ≤ _)⟩)
          dsimp only [Pt.U, Pt.locs, Pt.cells, Pt.slots] at X209 l209 y209 z209 st209 hQ209
          subst l209 y209 z209
          obtain ⟨rfl, N209q, e209⟩ := hQ209
          have N209 := Fr.app N199 N209q
          obtain ⟨ls, h_ls⟩ : ∃ z : Int64, (if (lcmpW (0 : Int64) xx) < (0 : Int32) then xx else (0 : Int64)) = z := ⟨_, rfl⟩
          have hls : 0 ≤ ls.toInt ∧ ls.toInt ≤ 4611686018427387904 := by rw [← h_ls]; exact own_mx2 hxx
          obtain ⟨_, _, ⟨T210, L210, k210, n210⟩, -, X210, ⟨Lc210, hQ210, l210, y210, z210⟩, st210⟩ := Jvm.LawKit.callS X209 hx (y := (⟨"com/example/rowstrata/rowstrata/row/VarTable", "smallest", "(IJ)Lcom/example/rowstrata/rowstrata/row/VarTable;"⟩ : MethodName)) hown (mvT hZ (hw _ (List.mem_of_getElem? (i := 4) rfl))) (mvT hZ (hw _ (List.mem_of_getElem? (i := 5) rfl))) (mvT hZ (hw _ (List.mem_of_getElem? (i := 6) rfl))) (mvT hZ (hw _ (List.mem_of_getElem? (i := 7) rfl))) (by decide) (backOf (W := 0) (rm_sm l Z a0 hw [] vv ls h0 n0 Z0 w_TINY w_NONE w_MEDIUM w_LARGE hWd w_WT kWT S_WT A_WT hls.1 hls.2) hZ (hw _ (List.mem_of_getElem? (i := 7) rfl)) (hw _ (List.mem_of_getElem? (i := 6) rfl)) (by decide) (by decide)) (g := (mkF m 160 #[.val (.int p0), .val (.int p1), .val (.long p2), .second, .val (.int p3), .val (.int vm), .val (.int vv), .val (.long nv), .second, .val (.int lm), .val (.long ls), .second, .val (.long (255 : Int64)), .second, .val (.long tb), .second] [(.long ls), (.int vv)])) rfl (by rw [hml]; rfl) (argsL := [(.int vv), (.long ls)]) (rest := []) (lenOf pd_137 rfl) rfl (by show 2 * 0 + _ ≤ _; exact Nat.le_of_eq rfl) (hb hby at_160) (fun _ _ => ⟨rfl, e209, (by decide : 0 + 0 ≤ _), (by decide : 0 + 0 ≤ _)⟩)
          dsimp only [Pt.U, Pt.locs, Pt.cells, Pt.slots] at X210 l210 y210 z210 st210 hQ210
          subst l210 y210 z210
          obtain ⟨rfl, N210q, e210⟩ := hQ210
          have N210 := Fr.app N209 N210q
          have ck211 : ∀ t, Steps p.tables e below (T210.setTop (mkF m 163 #[.val (.int p0), .val (.int p1), .val (.long p2), .second, .val (.int p3), .val (.int vm), .val (.int vv), .val (.long nv), .second, .val (.int lm), .val (.long ls), .second, .val (.long (255 : Int64)), .second, .val (.long tb), .second] [(own_spec vv.toInt ls.toInt w_NONE w_TINY w_MEDIUM w_LARGE)])) t → Steps p.tables e below (s₁.setTop (entryFrame m #[(.int p0), (.int p1), (.long p2), (.int p3)] maxLocals)) t := by
            intro t kt
            refine ck201 _ ?_
            show Steps p.tables e below (T199.setTop (mkF m 54 #[.val (.int p0), .val (.int p1), .val (.long p2), .second, .val (.int p3), .val (.int vm), .val (.int vv), .val (.long nv), .second, .val (.int lm), .unset, .unset, .unset, .unset, .unset, .unset] [(.int lm)])) _
            refine XS.ifYes X199.here hx rfl (pc0 := 54) (pc' := 65) rfl (hb hby at_54) rfl ((if0 _ _).trans (feq hc54_200).2) (by decide) (by decide) ?_
            show Steps p.tables e below (T199.setTop (mkF m 65 #[.val (.int p0), .val (.int p1), .val (.long p2), .second, .val (.int p3), .val (.int vm), .val (.int vv), .val (.long nv), .second, .val (.int lm), .unset, .unset, .unset, .unset, .unset, .unset] [])) _
            refine XS.iload X199.here hx rfl (hb hby at_65) rfl ?_
            show Steps p.tables e below (T199.setTop (mkF m 67 #[.val (.int p0), .val (.int p1), .val (.long p2), .second, .val (.int p3), .val (.int vm), .val (.int vv), .val (.long nv), .second, .val (.int lm), .unset, .unset, .unset, .unset, .unset, .unset] [(.int lm)])) _
            refine XS.iconst X199.here hx rfl (hb hby at_67) ?_
            show Steps p.tables e below (T199.setTop (mkF m 68 #[.val (.int p0), .val (.int p1), .val (.long p2), .second, .val (.int p3), .val (.int vm), .val (.int vv), .val (.long nv), .second, .val (.int lm), .unset, .unset, .unset, .unset, .unset, .unset] [(.int (1 : Int32)), (.int lm)])) _
            refine XS.icmpNo X199.here hx rfl (hb hby at_68) rfl (teq hc68_208).2 ?_
            show Steps p.tables e below (T199.setTop (mkF m 71 #[.val (.int p0), .val (.int p1), .val (.long p2), .second, .val (.int p3), .val (.int vm), .val (.int vv), .val (.long nv), .second, .val (.int lm), .unset, .unset, .unset, .unset, .unset, .unset] [])) _
            refine X199.ldc2Long hx hown (mvT hZ (hw _ (List.mem_of_getElem? (i := 29) rfl))) (g := (mkF m 71 #[.val (.int p0), .val (.int p1), .val (.long p2), .second, .val (.int p3), .val (.int vm), .val (.int vv), .val (.long nv), .second, .val (.int lm), .unset, .unset, .unset, .unset, .unset, .unset] [])) rfl (hb hby at_71) _ ?_
            show Steps p.tables e below (T199.setTop (mkF m 74 #[.val (.int p0), .val (.int p1), .val (.long p2), .second, .val (.int p3), .val (.int vm), .val (.int vv), .val (.long nv), .second, .val (.int lm), .unset, .unset, .unset, .unset, .unset, .unset] [(.long (255 : Int64))])) _
            refine XS.goto X199.here hx rfl (pc0 := 74) (pc' := 92) rfl (hb hby at_74) (by decide) (by decide) ?_
            show Steps p.tables e below (T199.setTop (mkF m 92 #[.val (.int p0), .val (.int p1), .val (.long p2), .second, .val (.int p3), .val (.int vm), .val (.int vv), .val (.long nv), .second, .val (.int lm), .unset, .unset, .unset, .unset, .unset, .unset] [(.long (255 : Int64))])) _
            refine XS.lstore X199.here hx rfl (hb hby at_92) rfl (l' := #[.val (.int p0), .val (.int p1), .val (.long p2), .second, .val (.int p3), .val (.int vm), .val (.int vv), .val (.long nv), .second, .val (.int lm), .unset, .unset, .val (.long (255 : Int64)), .second, .unset, .unset]) rfl ?_
            show Steps p.tables e below (T199.setTop (mkF m 94 #[.val (.int p0), .val (.int p1), .val (.long p2), .second, .val (.int p3), .val (.int vm), .val (.int vv), .val (.long nv), .second, .val (.int lm), .unset, .unset, .val (.long (255 : Int64)), .second, .unset, .unset] [])) _
            refine XS.iload X199.here hx rfl (hb hby at_94) rfl ?_
            show Steps p.tables e below (T199.setTop (mkF m 96 #[.val (.int p0), .val (.int p1), .val (.long p2), .second, .val (.int p3), .val (.int vm), .val (.int vv), .val (.long nv), .second, .val (.int lm), .unset, .unset, .val (.long (255 : Int64)), .second, .unset, .unset] [(.int lm)])) _
            refine XS.iconst X199.here hx rfl (hb hby at_96) ?_
            show Steps p.tables e below (T199.setTop (mkF m 97 #[.val (.int p0), .val (.int p1), .val (.long p2), .second, .val (.int p3), .val (.int vm), .val (.int vv), .val (.long nv), .second, .val (.int lm), .unset, .unset, .val (.long (255 : Int64)), .second, .unset, .unset] [(.int (1 : Int32)), (.int lm)])) _
            refine XS.icmpNo X199.here hx rfl (hb hby at_97) rfl (teq hc68_208).2 ?_
            show Steps p.tables e below (T199.setTop (mkF m 100 #[.val (.int p0), .val (.int p1), .val (.long p2), .second, .val (.int p3), .val (.int vm), .val (.int vv), .val (.long nv), .second, .val (.int lm), .unset, .unset, .val (.long (255 : Int64)), .second, .unset, .unset] [])) _
            refine XS.lconst X199.here hx rfl (hb hby at_100) ?_
            show Steps p.tables e below (T199.setTop (mkF m 101 #[.val (.int p0), .val (.int p1), .val (.long p2), .second, .val (.int p3), .val (.int vm), .val (.int vv), .val (.long nv), .second, .val (.int lm), .unset, .unset, .val (.long (255 : Int64)), .second, .unset, .unset] [(.long (1 : Int64))])) _
            refine XS.lload X199.here hx rfl (hb hby at_101) rfl ?_
            show Steps p.tables e below (T199.setTop (mkF m 103 #[.val (.int p0), .val (.int p1), .val (.long p2), .second, .val (.int p3), .val (.int vm), .val (.int vv), .val (.long nv), .second, .val (.int lm), .unset, .unset, .val (.long (255 : Int64)), .second, .unset, .unset] [(.long nv), (.long (1 : Int64))])) _
            refine XS.ladd X199.here hx rfl (hb hby at_103) rfl ?_
            show Steps p.tables e below (T199.setTop (mkF m 104 #[.val (.int p0), .val (.int p1), .val (.long p2), .second, .val (.int p3), .val (.int vm), .val (.int vv), .val (.long nv), .second, .val (.int lm), .unset, .unset, .val (.long (255 : Int64)), .second, .unset, .unset] [(.long ((1 : Int64) + nv))])) _
            rw [h_tb]
            show Steps p.tables e below (T199.setTop (mkF m 104 #[.val (.int p0), .val (.int p1), .val (.long p2), .second, .val (.int p3), .val (.int vm), .val (.int vv), .val (.long nv), .second, .val (.int lm), .unset, .unset, .val (.long (255 : Int64)), .second, .unset, .unset] [(.long tb)])) _
            refine XS.goto X199.here hx rfl (pc0 := 104) (pc' := 136) rfl (hb hby at_104) (by decide) (by decide) ?_
            show Steps p.tables e below (T199.setTop (mkF m 136 #[.val (.int p0), .val (.int p1), .val (.long p2), .second, .val (.int p3), .val (.int vm), .val (.int vv), .val (.long nv), .second, .val (.int lm), .unset, .unset, .val (.long (255 : Int64)), .second, .unset, .unset] [(.long tb)])) _
            refine XS.lstore X199.here hx rfl (hb hby at_136) rfl (l' := #[.val (.int p0), .val (.int p1), .val (.long p2), .second, .val (.int p3), .val (.int vm), .val (.int vv), .val (.long nv), .second, .val (.int lm), .unset, .unset, .val (.long (255 : Int64)), .second, .val (.long tb), .second]) rfl ?_
            show Steps p.tables e below (T199.setTop (mkF m 138 #[.val (.int p0), .val (.int p1), .val (.long p2), .second, .val (.int p3), .val (.int vm), .val (.int vv), .val (.long nv), .second, .val (.int lm), .unset, .unset, .val (.long (255 : Int64)), .second, .val (.long tb), .second] [])) _
            refine XS.lconst X199.here hx rfl (hb hby at_138) ?_
            show Steps p.tables e below (T199.setTop (mkF m 139 #[.val (.int p0), .val (.int p1), .val (.long p2), .second, .val (.int p3), .val (.int vm), .val (.int vv), .val (.long nv), .second, .val (.int lm), .unset, .unset, .val (.long (255 : Int64)), .second, .val (.long tb), .second] [(.long (0 : Int64))])) _
            refine XS.lload X199.here hx rfl (hb hby at_139) rfl ?_
            show Steps p.tables e below (T199.setTop (mkF m 141 #[.val (.int p0), .val (.int p1), .val (.long p2), .second, .val (.int p3), .val (.int vm), .val (.int vv), .val (.long nv), .second, .val (.int lm), .unset, .unset, .val (.long (255 : Int64)), .second, .val (.long tb), .second] [(.long (255 : Int64)), (.long (0 : Int64))])) _
            refine XS.lload X199.here hx rfl (hb hby at_141) rfl ?_
            show Steps p.tables e below (T199.setTop (mkF m 143 #[.val (.int p0), .val (.int p1), .val (.long p2), .second, .val (.int p3), .val (.int vm), .val (.int vv), .val (.long nv), .second, .val (.int lm), .unset, .unset, .val (.long (255 : Int64)), .second, .val (.long tb), .second] [(.long tb), (.long (255 : Int64)), (.long (0 : Int64))])) _
            refine XS.lsub X199.here hx rfl (hb hby at_143) rfl ?_
            show Steps p.tables e below (T199.setTop (mkF m 144 #[.val (.int p0), .val (.int p1), .val (.long p2), .second, .val (.int p3), .val (.int vm), .val (.int vv), .val (.long nv), .second, .val (.int lm), .unset, .unset, .val (.long (255 : Int64)), .second, .val (.long tb), .second] [(.long ((255 : Int64) - tb)), (.long (0 : Int64))])) _
            refine XS.iload X199.here hx rfl (hb hby at_144) rfl ?_
            show Steps p.tables e below (T199.setTop (mkF m 146 #[.val (.int p0), .val (.int p1), .val (.long p2), .second, .val (.int p3), .val (.int vm), .val (.int vv), .val (.long nv), .second, .val (.int lm), .unset, .unset, .val (.long (255 : Int64)), .second, .val (.long tb), .second] [(.int p3), (.long ((255 : Int64) - tb)), (.long (0 : Int64))])) _
            refine XS.bipush X199.here hx rfl (hb hby at_146) ?_
            show Steps p.tables e below (T199.setTop (mkF m 148 #[.val (.int p0), .val (.int p1), .val (.long p2), .second, .val (.int p3), .val (.int vm), .val (.int vv), .val (.long nv), .second, .val (.int lm), .unset, .unset, .val (.long (255 : Int64)), .second, .val (.long tb), .second] [(.int (8 : Int32)), (.int p3), (.long ((255 : Int64) - tb)), (.long (0 : Int64))])) _
            refine Jvm.RoadKit.iremM (g := (mkF m 148 #[.val (.int p0), .val (.int p1), .val (.long p2), .second, .val (.int p3), .val (.int vm), .val (.int vv), .val (.long nv), .second, .val (.int lm), .unset, .unset, .val (.long (255 : Int64)), .second, .val (.long tb), .second] [(.int (8 : Int32)), (.int p3), (.long ((255 : Int64) - tb)), (.long (0 : Int64))])) X199 hx rfl (hb hby at_148) rfl (by decide) ?_
            show Steps p.tables e below (T199.setTop (mkF m 149 #[.val (.int p0), .val (.int p1), .val (.long p2), .second, .val (.int p3), .val (.int vm), .val (.int vv), .val (.long nv), .second, .val (.int lm), .unset, .unset, .val (.long (255 : Int64)), .second, .val (.long tb), .second] [(.int (p3 % (8 : Int32))), (.long ((255 : Int64) - tb)), (.long (0 : Int64))])) _
            refine XS.i2l X199.here hx rfl (hb hby at_149) rfl ?_
            show Steps p.tables e below (T199.setTop (mkF m 150 #[.val (.int p0), .val (.int p1), .val (.long p2), .second, .val (.int p3), .val (.int vm), .val (.int vv), .val (.long nv), .second, .val (.int lm), .unset, .unset, .val (.long (255 : Int64)), .second, .val (.long tb), .second] [(.long ((p3 % (8 : Int32)).toInt64)), (.long ((255 : Int64) - tb)), (.long (0 : Int64))])) _
            refine XS.ladd X199.here hx rfl (hb hby at_150) rfl ?_
            show Steps p.tables e below (T199.setTop (mkF m 151 #[.val (.int p0), .val (.int p1), .val (.long p2), .second, .val (.int p3), .val (.int vm), .val (.int vv), .val (.long nv), .second, .val (.int lm), .unset, .unset, .val (.long (255 : Int64)), .second, .val (.long tb), .second] [(.long (((255 : Int64) - tb) + ((p3 % (8 : Int32)).toInt64))), (.long (0 : Int64))])) _
            rw [h_xx]
            show Steps p.tables e below (T199.setTop (mkF m 151 #[.val (.int p0), .val (.int p1), .val (.long p2), .second, .val (.int p3), .val (.int vm), .val (.int vv), .val (.long nv), .second, .val (.int lm), .unset, .unset, .val (.long (255 : Int64)), .second, .val (.long tb), .second] [(.long xx), (.long (0 : Int64))])) _
            refine st209 _ ?_
            show Steps p.tables e below (T209.setTop (mkF m 154 #[.val (.int p0), .val (.int p1), .val (.long p2), .second, .val (.int p3), .val (.int vm), .val (.int vv), .val (.long nv), .second, .val (.int lm), .unset, .unset, .val (.long (255 : Int64)), .second, .val (.long tb), .second] [(.long (if (lcmpW (0 : Int64) xx) < (0 : Int32) then xx else (0 : Int64)))])) _
            rw [h_ls]
            show Steps p.tables e below (T209.setTop (mkF m 154 #[.val (.int p0), .val (.int p1), .val (.long p2), .second, .val (.int p3), .val (.int vm), .val (.int vv), .val (.long nv), .second, .val (.int lm), .unset, .unset, .val (.long (255 : Int64)), .second, .val (.long tb), .second] [(.long ls)])) _
            refine XS.lstore X209.here hx rfl (hb hby at_154) rfl (l' := #[.val (.int p0), .val (.int p1), .val (.long p2), .second, .val (.int p3), .val (.int vm), .val (.int vv), .val (.long nv), .second, .val (.int lm), .val (.long ls), .second, .val (.long (255 : Int64)), .second, .val (.long tb), .second]) rfl ?_
            show Steps p.tables e below (T209.setTop (mkF m 156 #[.val (.int p0), .val (.int p1), .val (.long p2), .second, .val (.int p3), .val (.int vm), .val (.int vv), .val (.long nv), .second, .val (.int lm), .val (.long ls), .second, .val (.long (255 : Int64)), .second, .val (.long tb), .second] [])) _
            refine XS.iload X209.here hx rfl (hb hby at_156) rfl ?_
            show Steps p.tables e below (T209.setTop (mkF m 158 #[.val (.int p0), .val (.int p1), .val (.long p2), .second, .val (.int p3), .val (.int vm), .val (.int vv), .val (.long nv), .second, .val (.int lm), .val (.long ls), .second, .val (.long (255 : Int64)), .second, .val (.long tb), .second] [(.int vv)])) _
            refine XS.lload X209.here hx rfl (hb hby at_158) rfl ?_
            show Steps p.tables e below (T209.setTop (mkF m 160 #[.val (.int p0), .val (.int p1), .val (.long p2), .second, .val (.int p3), .val (.int vm), .val (.int vv), .val (.long nv), .second, .val (.int lm), .val (.long ls), .second, .val (.long (255 : Int64)), .second, .val (.long tb), .second] [(.long ls), (.int vv)])) _
            refine st210 _ ?_
            exact kt
          (try clear N210q); (try clear st210); (try clear Lc210); (try clear n210); (try clear k210); (try clear L210); (try clear N209); (try clear e209); (try clear N209q); (try clear st209); (try clear Lc209); (try clear X209); (try clear n209); (try clear k209); (try clear L209); (try clear T209)
          rcases own_spec_two vv.toInt ls.toInt w_NONE w_TINY w_MEDIUM w_LARGE with ⟨wq, hv212⟩ | hv213
          · -- wq
            obtain ⟨_, _, ⟨T214, L214, k214, n214⟩, -, X214, ⟨Lc214, hQ214, l214, y214, z214⟩, st214⟩ := Jvm.LawKit.callS X210 hx (y := (⟨"com/example/rowstrata/rowstrata/row/VarTableSmallestPinLaw", "expected", "(IJ)Lcom/example/rowstrata/rowstrata/row/VarTable;"⟩ : MethodName)) hown (mvT hZ (hw _ (List.mem_of_getElem? (i := 25) rfl))) (mvT hZ (hw _ (List.mem_of_getElem? (i := 26) rfl))) (mvT hZ (hw _ (List.mem_of_getElem? (i := 27) rfl))) (mvT hZ (hw _ (List.mem_of_getElem? (i := 28) rfl))) (by decide) (backOf (W := 1) (rm_exp l Z a0 hw [] vv ls h0 n0 Z0 w_TINY w_NONE w_MEDIUM w_LARGE hWd hls.1 hls.2) hZ (hw _ (List.mem_of_getElem? (i := 28) rfl)) (hw _ (List.mem_of_getElem? (i := 27) rfl)) (by decide) (by decide)) (g := (mkF m 171 #[.val (.int p0), .val (.int p1), .val (.long p2), .second, .val (.int p3), .val (.int vm), .val (.int vv), .val (.long nv), .second, .val (.int lm), .val (.long ls), .second, .val (.ref wq), .unset, .val (.long tb), .second] [(.long ls), (.int vv), (.ref wq)])) rfl (by rw [hml]; rfl) (argsL := [(.int vv), (.long ls)]) (rest := [(.ref wq)]) (lenOf pd_137 rfl) rfl (by show 2 * 0 + _ ≤ _; exact Nat.le_of_eq rfl) (hb hby at_171) (fun _ _ => ⟨rfl, e210, (by decide : 0 + 0 ≤ _), (by decide : 0 + 0 ≤ _)⟩)
            dsimp only [Pt.U, Pt.locs, Pt.cells, Pt.slots] at X214 l214 y214 z214 st214 hQ214
            subst l214 y214 z214
            obtain ⟨rfl, N214q, e214⟩ := hQ214
            have N214 := Fr.app N210 N214q
            obtain ⟨fs, hr, hrun, hended, hW, hsame⟩ := X214.leave (v := some (.int (1 : Int32))) (fun h => by rw [Bd.returns] at h; cases h)
            refine ⟨_, _, ck211 _ ?_, hrun, hended, _, _, rfl, ?_, ⟨_, rfl⟩, hW, hsame.mono (by decide) (by decide)⟩
            · show Steps p.tables e below (T210.setTop (mkF m 163 #[.val (.int p0), .val (.int p1), .val (.long p2), .second, .val (.int p3), .val (.int vm), .val (.int vv), .val (.long nv), .second, .val (.int lm), .val (.long ls), .second, .val (.long (255 : Int64)), .second, .val (.long tb), .second] [(own_spec vv.toInt ls.toInt w_NONE w_TINY w_MEDIUM w_LARGE)])) _
              rw [hv212]
              show Steps p.tables e below (T210.setTop (mkF m 163 #[.val (.int p0), .val (.int p1), .val (.long p2), .second, .val (.int p3), .val (.int vm), .val (.int vv), .val (.long nv), .second, .val (.int lm), .val (.long ls), .second, .val (.long (255 : Int64)), .second, .val (.long tb), .second] [(.ref wq)])) _
              refine XS.astore X210.here hx rfl (hb hby at_163) rfl rfl (l' := #[.val (.int p0), .val (.int p1), .val (.long p2), .second, .val (.int p3), .val (.int vm), .val (.int vv), .val (.long nv), .second, .val (.int lm), .val (.long ls), .second, .val (.ref wq), .unset, .val (.long tb), .second]) rfl ?_
              show Steps p.tables e below (T210.setTop (mkF m 165 #[.val (.int p0), .val (.int p1), .val (.long p2), .second, .val (.int p3), .val (.int vm), .val (.int vv), .val (.long nv), .second, .val (.int lm), .val (.long ls), .second, .val (.ref wq), .unset, .val (.long tb), .second] [])) _
              refine XS.aload X210.here hx rfl (hb hby at_165) rfl rfl ?_
              show Steps p.tables e below (T210.setTop (mkF m 167 #[.val (.int p0), .val (.int p1), .val (.long p2), .second, .val (.int p3), .val (.int vm), .val (.int vv), .val (.long nv), .second, .val (.int lm), .val (.long ls), .second, .val (.ref wq), .unset, .val (.long tb), .second] [(.ref wq)])) _
              refine XS.iload X210.here hx rfl (hb hby at_167) rfl ?_
              show Steps p.tables e below (T210.setTop (mkF m 169 #[.val (.int p0), .val (.int p1), .val (.long p2), .second, .val (.int p3), .val (.int vm), .val (.int vv), .val (.long nv), .second, .val (.int lm), .val (.long ls), .second, .val (.ref wq), .unset, .val (.long tb), .second] [(.int vv), (.ref wq)])) _
              refine XS.lload X210.here hx rfl (hb hby at_169) rfl ?_
              show Steps p.tables e below (T210.setTop (mkF m 171 #[.val (.int p0), .val (.int p1), .val (.long p2), .second, .val (.int p3), .val (.int vm), .val (.int vv), .val (.long nv), .second, .val (.int lm), .val (.long ls), .second, .val (.ref wq), .unset, .val (.long tb), .second] [(.long ls), (.int vv), (.ref wq)])) _
              refine st214 _ ?_
              show Steps p.tables e below (T214.setTop (mkF m 174 #[.val (.int p0), .val (.int p1), .val (.long p2), .second, .val (.int p3), .val (.int vm), .val (.int vv), .val (.long nv), .second, .val (.int lm), .val (.long ls), .second, .val (.ref wq), .unset, .val (.long tb), .second] [(own_spec vv.toInt ls.toInt w_NONE w_TINY w_MEDIUM w_LARGE), (.ref wq)])) _
              rw [hv212]
              show Steps p.tables e below (T214.setTop (mkF m 174 #[.val (.int p0), .val (.int p1), .val (.long p2), .second, .val (.int p3), .val (.int vm), .val (.int vv), .val (.long nv), .second, .val (.int lm), .val (.long ls), .second, .val (.ref wq), .unset, .val (.long tb), .second] [(.ref wq), (.ref wq)])) _
              refine Jvm.RoadKit.acmp (g := (mkF m 174 #[.val (.int p0), .val (.int p1), .val (.long p2), .second, .val (.int p3), .val (.int vm), .val (.int vv), .val (.long nv), .second, .val (.int lm), .val (.long ls), .second, .val (.ref wq), .unset, .val (.long tb), .second] [(.ref wq), (.ref wq)])) X214 hx rfl rfl rfl (pc0 := 174) (pc' := 177) (same := true) rfl (hb hby at_174) rfl (decide_eq_true rfl) (by decide) (by decide) ?_
              show Steps p.tables e below (T214.setTop (mkF m 177 #[.val (.int p0), .val (.int p1), .val (.long p2), .second, .val (.int p3), .val (.int vm), .val (.int vv), .val (.long nv), .second, .val (.int lm), .val (.long ls), .second, .val (.ref wq), .unset, .val (.long tb), .second] [])) _
              refine XS.iconst X214.here hx rfl (hb hby at_177) ?_
              show Steps p.tables e below (T214.setTop (mkF m 178 #[.val (.int p0), .val (.int p1), .val (.long p2), .second, .val (.int p3), .val (.int vm), .val (.int vv), .val (.long nv), .second, .val (.int lm), .val (.long ls), .second, .val (.ref wq), .unset, .val (.long tb), .second] [(.int (1 : Int32))])) _
              refine XS.goto X214.here hx rfl (pc0 := 178) (pc' := 182) rfl (hb hby at_178) (by decide) (by decide) ?_
              show Steps p.tables e below (T214.setTop (mkF m 182 #[.val (.int p0), .val (.int p1), .val (.long p2), .second, .val (.int p3), .val (.int vm), .val (.int vv), .val (.long nv), .second, .val (.int lm), .val (.long ls), .second, .val (.ref wq), .unset, .val (.long tb), .second] [(.int (1 : Int32))])) _
              exact retN X214 hx (t := .boolean) Bd.returns (by simp) (hb hby at_182) hr
            · show own_Pure (some (.int 1)) h0 n0 _ T214.heap _
              rw [e214]
              exact ⟨rfl, N214, rfl⟩
          · -- null
            obtain ⟨_, _, ⟨T215, L215, k215, n215⟩, -, X215, ⟨Lc215, hQ215, l215, y215, z215⟩, st215⟩ := Jvm.LawKit.callS X210 hx (y := (⟨"com/example/rowstrata/rowstrata/row/VarTableSmallestPinLaw", "expected", "(IJ)Lcom/example/rowstrata/rowstrata/row/VarTable;"⟩ : MethodName)) hown (mvT hZ (hw _ (List.mem_of_getElem? (i := 25) rfl))) (mvT hZ (hw _ (List.mem_of_getElem? (i := 26) rfl))) (mvT hZ (hw _ (List.mem_of_getElem? (i := 27) rfl))) (mvT hZ (hw _ (List.mem_of_getElem? (i := 28) rfl))) (by decide) (backOf (W := 1) (rm_exp l Z a0 hw [] vv ls h0 n0 Z0 w_TINY w_NONE w_MEDIUM w_LARGE hWd hls.1 hls.2) hZ (hw _ (List.mem_of_getElem? (i := 28) rfl)) (hw _ (List.mem_of_getElem? (i := 27) rfl)) (by decide) (by decide)) (g := (mkF m 171 #[.val (.int p0), .val (.int p1), .val (.long p2), .second, .val (.int p3), .val (.int vm), .val (.int vv), .val (.long nv), .second, .val (.int lm), .val (.long ls), .second, .val .null, .unset, .val (.long tb), .second] [(.long ls), (.int vv), .null])) rfl (by rw [hml]; rfl) (argsL := [(.int vv), (.long ls)]) (rest := [.null]) (lenOf pd_137 rfl) rfl (by show 2 * 0 + _ ≤ _; exact Nat.le_of_eq rfl) (hb hby at_171) (fun _ _ => ⟨rfl, e210, (by decide : 0 + 0 ≤ _), (by decide : 0 + 0 ≤ _)⟩)
            dsimp only [Pt.U, Pt.locs, Pt.cells, Pt.slots] at X215 l215 y215 z215 st215 hQ215
            subst l215 y215 z215
            obtain ⟨rfl, N215q, e215⟩ := hQ215
            have N215 := Fr.app N210 N215q
            obtain ⟨fs, hr, hrun, hended, hW, hsame⟩ := X215.leave (v := some (.int (1 : Int32))) (fun h => by rw [Bd.returns] at h; cases h)
            refine ⟨_, _, ck211 _ ?_, hrun, hended, _, _, rfl, ?_, ⟨_, rfl⟩, hW, hsame.mono (by decide) (by decide)⟩
            · show Steps p.tables e below (T210.setTop (mkF m 163 #[.val (.int p0), .val (.int p1), .val (.long p2), .second, .val (.int p3), .val (.int vm), .val (.int vv), .val (.long nv), .second, .val (.int lm), .val (.long ls), .second, .val (.long (255 : Int64)), .second, .val (.long tb), .second] [(own_spec vv.toInt ls.toInt w_NONE w_TINY w_MEDIUM w_LARGE)])) _
              rw [hv213]
              show Steps p.tables e below (T210.setTop (mkF m 163 #[.val (.int p0), .val (.int p1), .val (.long p2), .second, .val (.int p3), .val (.int vm), .val (.int vv), .val (.long nv), .second, .val (.int lm), .val (.long ls), .second, .val (.long (255 : Int64)), .second, .val (.long tb), .second] [.null])) _
              refine XS.astore X210.here hx rfl (hb hby at_163) rfl rfl (l' := #[.val (.int p0), .val (.int p1), .val (.long p2), .second, .val (.int p3), .val (.int vm), .val (.int vv), .val (.long nv), .second, .val (.int lm), .val (.long ls), .second, .val .null, .unset, .val (.long tb), .second]) rfl ?_
              show Steps p.tables e below (T210.setTop (mkF m 165 #[.val (.int p0), .val (.int p1), .val (.long p2), .second, .val (.int p3), .val (.int vm), .val (.int vv), .val (.long nv), .second, .val (.int lm), .val (.long ls), .second, .val .null, .unset, .val (.long tb), .second] [])) _
              refine XS.aload X210.here hx rfl (hb hby at_165) rfl rfl ?_
              show Steps p.tables e below (T210.setTop (mkF m 167 #[.val (.int p0), .val (.int p1), .val (.long p2), .second, .val (.int p3), .val (.int vm), .val (.int vv), .val (.long nv), .second, .val (.int lm), .val (.long ls), .second, .val .null, .unset, .val (.long tb), .second] [.null])) _
              refine XS.iload X210.here hx rfl (hb hby at_167) rfl ?_
              show Steps p.tables e below (T210.setTop (mkF m 169 #[.val (.int p0), .val (.int p1), .val (.long p2), .second, .val (.int p3), .val (.int vm), .val (.int vv), .val (.long nv), .second, .val (.int lm), .val (.long ls), .second, .val .null, .unset, .val (.long tb), .second] [(.int vv), .null])) _
              refine XS.lload X210.here hx rfl (hb hby at_169) rfl ?_
              show Steps p.tables e below (T210.setTop (mkF m 171 #[.val (.int p0), .val (.int p1), .val (.long p2), .second, .val (.int p3), .val (.int vm), .val (.int vv), .val (.long nv), .second, .val (.int lm), .val (.long ls), .second, .val .null, .unset, .val (.long tb), .second] [(.long ls), (.int vv), .null])) _
              refine st215 _ ?_
              show Steps p.tables e below (T215.setTop (mkF m 174 #[.val (.int p0), .val (.int p1), .val (.long p2), .second, .val (.int p3), .val (.int vm), .val (.int vv), .val (.long nv), .second, .val (.int lm), .val (.long ls), .second, .val .null, .unset, .val (.long tb), .second] [(own_spec vv.toInt ls.toInt w_NONE w_TINY w_MEDIUM w_LARGE), .null])) _
              rw [hv213]
              show Steps p.tables e below (T215.setTop (mkF m 174 #[.val (.int p0), .val (.int p1), .val (.long p2), .second, .val (.int p3), .val (.int vm), .val (.int vv), .val (.long nv), .second, .val (.int lm), .val (.long ls), .second, .val .null, .unset, .val (.long tb), .second] [.null, .null])) _
              refine Jvm.RoadKit.acmp (g := (mkF m 174 #[.val (.int p0), .val (.int p1), .val (.long p2), .second, .val (.int p3), .val (.int vm), .val (.int vv), .val (.long nv), .second, .val (.int lm), .val (.long ls), .second, .val .null, .unset, .val (.long tb), .second] [.null, .null])) X215 hx rfl rfl rfl (pc0 := 174) (pc' := 177) (same := true) rfl (hb hby at_174) rfl (decide_eq_true rfl) (by decide) (by decide) ?_
              show Steps p.tables e below (T215.setTop (mkF m 177 #[.val (.int p0), .val (.int p1), .val (.long p2), .second, .val (.int p3), .val (.int vm), .val (.int vv), .val (.long nv), .second, .val (.int lm), .val (.long ls), .second, .val .null, .unset, .val (.long tb), .second] [])) _
              refine XS.iconst X215.here hx rfl (hb hby at_177) ?_
              show Steps p.tables e below (T215.setTop (mkF m 178 #[.val (.int p0), .val (.int p1), .val (.long p2), .second, .val (.int p3), .val (.int vm), .val (.int vv), .val (.long nv), .second, .val (.int lm), .val (.long ls), .second, .val .null, .unset, .val (.long tb), .second] [(.int (1 : Int32))])) _
              refine XS.goto X215.here hx rfl (pc0 := 178) (pc' := 182) rfl (hb hby at_178) (by decide) (by decide) ?_
              show Steps p.tables e below (T215.setTop (mkF m 182 #[.val (.int p0), .val (.int p1), .val (.long p2), .second, .val (.int p3), .val (.int vm), .val (.int vv), .val (.long nv), .second, .val (.int lm), .val (.long ls), .second, .val .null, .unset, .val (.long tb), .second] [(.int (1 : Int32))])) _
              exact retN X215 hx (t := .boolean) Bd.returns (by simp) (hb hby at_182) hr
            · show own_Pure (some (.int 1)) h0 n0 _ T215.heap _
              rw [e215]
              exact ⟨rfl, N215, rfl⟩
        · -- pc 68: not lm = (1 : Int32)
          have ck217 : ∀ t, Steps p.tables e below (T199.setTop (mkF m 80 #[.val (.int p0), .val (.int p1), .val (.long p2), .second, .val (.int p3), .val (.int vm), .val (.int vv), .val (.long nv), .second, .val (.int lm), .unset, .unset, .unset, .unset, .unset, .unset] [(.int (2 : Int32)), (.int lm)])) t → Steps p.tables e below (s₁.setTop (entryFrame m #[(.int p0), (.int p1), (.long p2), (.int p3)] maxLocals)) t := by
            intro t kt
            refine ck201 _ ?_
            show Steps p.tables e below (T199.setTop (mkF m 54 #[.val (.int p0), .val (.int p1), .val (.long p2), .second, .val (.int p3), .val (.int vm), .val (.int vv), .val (.long nv), .second, .val (.int lm), .unset, .unset, .unset, .unset, .unset, .unset] [(.int lm)])) _
            refine XS.ifYes X199.here hx rfl (pc0 := 54) (pc' := 65) rfl (hb hby at_54) rfl ((if0 _ _).trans (feq hc54_200).2) (by decide) (by decide) ?_
            show Steps p.tables e below (T199.setTop (mkF m 65 #[.val (.int p0), .val (.int p1), .val (.long p2), .second, .val (.int p3), .val (.int vm), .val (.int vv), .val (.long nv), .second, .val (.int lm), .unset, .unset, .unset, .unset, .unset, .unset] [])) _
            refine XS.iload X199.here hx rfl (hb hby at_65) rfl ?_
            show Steps p.tables e below (T199.setTop (mkF m 67 #[.val (.int p0), .val (.int p1), .val (.long p2), .second, .val (.int p3), .val (.int vm), .val (.int vv), .val (.long nv), .second, .val (.int lm), .unset, .unset, .unset, .unset, .unset, .unset] [(.int lm)])) _
            refine XS.iconst X199.here hx rfl (hb hby at_67) ?_
            show Steps p.tables e below (T199.setTop (mkF m 68 #[.val (.int p0), .val (.int p1), .val (.long p2), .second, .val (.int p3), .val (.int vm), .val (.int vv), .val (.long nv), .second, .val (.int lm), .unset, .unset, .unset, .unset, .unset, .unset] [(.int (1 : Int32)), (.int lm)])) _
            refine XS.icmpYes X199.here hx rfl (pc0 := 68) (pc' := 77) rfl (hb hby at_68) rfl (feq hc68_208).2 (by decide) (by decide) ?_
            show Steps p.tables e below (T199.setTop (mkF m 77 #[.val (.int p0), .val (.int p1), .val (.long p2), .second, .val (.int p3), .val (.int vm), .val (.int vv), .val (.long nv), .second, .val (.int lm), .unset, .unset, .unset, .unset, .unset, .unset] [])) _
            refine XS.iload X199.here hx rfl (hb hby at_77) rfl ?_
            show Steps p.tables e below (T199.setTop (mkF m 79 #[.val (.int p0), .val (.int p1), .val (.long p2), .second, .val (.int p3), .val (.int vm), .val (.int vv), .val (.long nv), .second, .val (.int lm), .unset, .unset, .unset, .unset, .unset, .unset] [(.int lm)])) _
            refine XS.iconst X199.here hx rfl (hb hby at_79) ?_
            exact kt
          by_cases hc80_216 : lm = (2 : Int32)
          · -- pc 80: lm = (2 : Int32)
            obtain ⟨tb, h_tb⟩ : ∃ z : Int64, ((2 : Int64) + ((2 : Int64) * nv)) = z := ⟨_, rfl⟩
            have htb : 0 ≤ tb.toInt ∧ tb.toInt ≤ 8589934590 := by rw [← h_tb]; exact own_tb122 hnv.1 hnv.2
            obtain ⟨xx, h_xx⟩ : ∃ z : Int64, (((65535 : Int64) - tb) + ((p3 % (8 : Int32)).toInt64)) = z := ⟨_, rfl⟩
            have hxx : xx.toInt ≤ 4294967303 := by rw [← h_xx]; exact own_xx (by decide) htb.1 htb.2
            obtain ⟨_, _, ⟨T218, L218, k218, n218⟩, -, X218, ⟨Lc218, hQ218, l218, y218, z218⟩, st218⟩ := Jvm.LawKit.callS X199 hx (y := (⟨"java/lang/Math", "max", "(JJ)J"⟩ : MethodName)) hown (mvT hZ (hw _ (List.mem_of_getElem? (i := 0) rfl))) (mvT hZ (hw _ (List.mem_of_getElem? (i := 1) rfl))) (mvT hZ (hw _ (List.mem_of_getElem? (i := 2) rfl))) (mvT hZ (hw _ (List.mem_of_getElem? (i := 3) rfl))) (by decide) (backOf (W := 0) (rm_max l Z a0 hw [] (0 : Int64) xx h0 n0 Z0 (if (lcmpW (0 : Int64) xx) < (0 : Int32) then xx else (0 : Int64)) rfl) hZ (hw _ (List.mem_of_getElem? (i := 3) rfl)) (hw _ (List.mem_of_getElem? (i := 2) rfl)) (by decide) (by decide)) (g := (mkF m 151 #[.val (.int p0), .val (.int p1), .val (.long p2), .second, .val (.int p3), .val (.int vm), .val (.int vv), .val (.long nv), .second, .val (.int lm), .unset, .unset, .val (.long (65535 : Int64)), .second, .val (.long tb), .second] [(.long xx), (.long (0 : Int64))])) rfl (by rw [hml]; rfl) (argsL := [(.long (0 : Int64)), (.long xx)]) (rest := []) (lenOf pd_136 rfl) rfl (by show 2 * 0 + _ ≤ _; exact Nat.le_of_eq rfl) (hb hby at_151) (fun _ _ => ⟨rfl, e199, (by decide : 0 + 0 ≤ _), (by decide : 0 + 0 ≤ _)⟩)
            dsimp only [Pt.U, Pt.locs, Pt.cells, Pt.slots] at X218 l218 y218 z218 st218 hQ218
            subst l218 y218 z218
            obtain ⟨rfl, N218q, e218⟩ := hQ218
            have N218 := Fr.app N199 N218q
            obtain ⟨ls, h_ls⟩ : ∃ z : Int64, (if (lcmpW (0 : Int64) xx) < (0 : Int32) then xx else (0 : Int64)) = z := ⟨_, rfl⟩
            have hls : 0 ≤ ls.toInt ∧ ls.toInt ≤ 4611686018427387904 := by rw [← h_ls]; exact own_mx2 hxx
            obtain ⟨_, _, ⟨T219, L219, k219, n219⟩, -, X219, ⟨Lc219, hQ219, l219, y219, z219⟩, st219⟩ := Jvm.LawKit.callS X218 hx (y := (⟨"com/example/rowstrata/rowstrata/row/VarTable", "smallest", "(IJ)Lcom/example/rowstrata/rowstrata/row/VarTable;"⟩ : MethodName)) hown (mvT hZ (hw _ (List.mem_of_getElem? (i := 4) rfl))) (mvT hZ (hw _ (List.mem_of_getElem? (i := 5) rfl))) (mvT hZ (hw _ (List.mem_of_getElem? (i := 6) rfl))) (mvT hZ (hw _ (List.mem_of_getElem? (i := 7) rfl))) (by decide) (backOf (W := 0) (rm_sm l Z a0 hw [] vv ls h0 n0 Z0 w_TINY w_NONE w_MEDIUM w_LARGE hWd w_WT kWT S_WT A_WT hls.1 hls.2) hZ (hw _ (List.mem_of_getElem? (i := 7) rfl)) (hw _ (List.mem_of_getElem? (i := 6) rfl)) (by decide) (by decide)) (g := (mkF m 160 #[.val (.int p0), .val (.int p1), .val (.long p2), .second, .val (.int p3), .val (.int vm), .val (.int vv), .val (.long nv), .second, .val (.int lm), .val (.long ls), .second, .val (.long (65535 : Int64)), .second, .val (.long tb), .second] [(.long ls), (.int vv)])) rfl (by rw [hml]; rfl) (argsL := [(.int vv), (.long ls)]) (rest := []) (lenOf pd_137 rfl) rfl (by show 2 * 0 + _ ≤ _; exact Nat.le_of_eq rfl) (hb hby at_160) (fun _ _ => ⟨rfl, e218, (by decide : 0 + 0 ≤ _), (by decide : 0 + 0 ≤ _)⟩)
            dsimp only [Pt.U, Pt.locs, Pt.cells, Pt.slots] at X219 l219 y219 z219 st219 hQ219
            subst l219 y219 z219
            obtain ⟨rfl, N219q, e219⟩ := hQ219
            have N219 := Fr.app N218 N219q
            have ck220 : ∀ t, Steps p.tables e below (T219.setTop (mkF m 163 #[.val (.int p0), .val (.int p1), .val (.long p2), .second, .val (.int p3), .val (.int vm), .val (.int vv), .val (.long nv), .second, .val (.int lm), .val (.long ls), .second, .val (.long (65535 : Int64)), .second, .val (.long tb), .second] [(own_spec vv.toInt ls.toInt w_NONE w_TINY w_MEDIUM w_LARGE)])) t → Steps p.tables e below (s₁.setTop (entryFrame m #[(.int p0), (.int p1), (.long p2), (.int p3)] maxLocals)) t := by
              intro t kt
              refine ck217 _ ?_
              show Steps p.tables e below (T199.setTop (mkF m 80 #[.val (.int p0), .val (.int p1), .val (.long p2), .second, .val (.int p3), .val (.int vm), .val (.int vv), .val (.long nv), .second, .val (.int lm), .unset, .unset, .unset, .unset, .unset, .unset] [(.int (2 : Int32)), (.int lm)])) _
              refine XS.icmpNo X199.here hx rfl (hb hby at_80) rfl (teq hc80_216).2 ?_
              show Steps p.tables e below (T199.setTop (mkF m 83 #[.val (.int p0), .val (.int p1), .val (.long p2), .second, .val (.int p3), .val (.int vm), .val (.int vv), .val (.long nv), .second, .val (.int lm), .unset, .unset, .unset, .unset, .unset, .unset] [])) _
              refine X199.ldc2Long hx hown (mvT hZ (hw _ (List.mem_of_getElem? (i := 32) rfl))) (g := (mkF m 83 #[.val (.int p0), .val (.int p1), .val (.long p2), .second, .val (.int p3), .val (.int vm), .val (.int vv), .val (.long nv), .second, .val (.int lm), .unset, .unset, .unset, .unset, .unset, .unset] [])) rfl (hb hby at_83) _ ?_
              show Steps p.tables e below (T199.setTop (mkF m 86 #[.val (.int p0), .val (.int p1), .val (.long p2), .second, .val (.int p3), .val (.int vm), .val (.int vv), .val (.long nv), .second, .val (.int lm), .unset, .unset, .unset, .unset, .unset, .unset] [(.long (65535 : Int64))])) _
              refine XS.goto X199.here hx rfl (pc0 := 86) (pc' := 92) rfl (hb hby at_86) (by decide) (by decide) ?_
              show Steps p.tables e below (T199.setTop (mkF m 92 #[.val (.int p0), .val (.int p1), .val (.long p2), .second, .val (.int p3), .val (.int vm), .val (.int vv), .val (.long nv), .second, .val (.int lm), .unset, .unset, .unset, .unset, .unset, .unset] [(.long (65535 : Int64))])) _
              refine XS.lstore X199.here hx rfl (hb hby at_92) rfl (l' := #[.val (.int p0), .val (.int p1), .val (.long p2), .second, .val (.int p3), .val (.int vm), .val (.int vv), .val (.long nv), .second, .val (.int lm), .unset, .unset, .val (.long (65535 : Int64)), .second, .unset, .unset]) rfl ?_
              show Steps p.tables e below (T199.setTop (mkF m 94 #[.val (.int p0), .val (.int p1), .val (.long p2), .second, .val (.int p3), .val (.int vm), .val (.int vv), .val (.long nv), .second, .val (.int lm), .unset, .unset, .val (.long (65535 : Int64)), .second, .unset, .unset] [])) _
              refine XS.iload X199.here hx rfl (hb hby at_94) rfl ?_
              show Steps p.tables e below (T199.setTop (mkF m 96 #[.val (.int p0), .val (.int p1), .val (.long p2), .second, .val (.int p3), .val (.int vm), .val (.int vv), .val (.long nv), .second, .val (.int lm), .unset, .unset, .val (.long (65535 : Int64)), .second, .unset, .unset] [(.int lm)])) _
              refine XS.iconst X199.here hx rfl (hb hby at_96) ?_
              show Steps p.tables e below (T199.setTop (mkF m 97 #[.val (.int p0), .val (.int p1), .val (.long p2), .second, .val (.int p3), .val (.int vm), .val (.int vv), .val (.long nv), .second, .val (.int lm), .unset, .unset, .val (.long (65535 : Int64)), .second, .unset, .unset] [(.int (1 : Int32)), (.int lm)])) _
              refine XS.icmpYes X199.here hx rfl (pc0 := 97) (pc' := 107) rfl (hb hby at_97) rfl (feq hc68_208).2 (by decide) (by decide) ?_
              show Steps p.tables e below (T199.setTop (mkF m 107 #[.val (.int p0), .val (.int p1), .val (.long p2), .second, .val (.int p3), .val (.int vm), .val (.int vv), .val (.long nv), .second, .val (.int lm), .unset, .unset, .val (.long (65535 : Int64)), .second, .unset, .unset] [])) _
              refine XS.iload X199.here hx rfl (hb hby at_107) rfl ?_
              show Steps p.tables e below (T199.setTop (mkF m 109 #[.val (.int p0), .val (.int p1), .val (.long p2), .second, .val (.int p3), .val (.int vm), .val (.int vv), .val (.long nv), .second, .val (.int lm), .unset, .unset, .val (.long (65535 : Int64)), .second, .unset, .unset] [(.int lm)])) _
              refine XS.iconst X199.here hx rfl (hb hby at_109) ?_
              show Steps p.tables e below (T199.setTop (mkF m 110 #[.val (.int p0), .val (.int p1), .val (.long p2), .second, .val (.int p3), .val (.int vm), .val (.int vv), .val (.long nv), .second, .val (.int lm), .unset, .unset, .val (.long (65535 : Int64)), .second, .unset, .unset] [(.int (2 : Int32)), (.int lm)])) _
              refine XS.icmpNo X199.here hx rfl (hb hby at_110) rfl (teq hc80_216).2 ?_
              show Steps p.tables e below (T199.setTop (mkF m 113 #[.val (.int p0), .val (.int p1), .val (.long p2), .second, .val (.int p3), .val (.int vm), .val (.int vv), .val (.long nv), .second, .val (.int lm), .unset, .unset, .val (.long (65535 : Int64)), .second, .unset, .unset] [])) _
              refine X199.ldc2Long hx hown (mvT hZ (hw _ (List.mem_of_getElem? (i := 33) rfl))) (g := (mkF m 113 #[.val (.int p0), .val (.int p1), .val (.long p2), .second, .val (.int p3), .val (.int vm), .val (.int vv), .val (.long nv), .second, .val (.int lm), .unset, .unset, .val (.long (65535 : Int64)), .second, .unset, .unset] [])) rfl (hb hby at_113) _ ?_
              show Steps p.tables e below (T199.setTop (mkF m 116 #[.val (.int p0), .val (.int p1), .val (.long p2), .second, .val (.int p3), .val (.int vm), .val (.int vv), .val (.long nv), .second, .val (.int lm), .unset, .unset, .val (.long (65535 : Int64)), .second, .unset, .unset] [(.long (2 : Int64))])) _
              refine X199.ldc2Long hx hown (mvT hZ (hw _ (List.mem_of_getElem? (i := 33) rfl))) (g := (mkF m 116 #[.val (.int p0), .val (.int p1), .val (.long p2), .second, .val (.int p3), .val (.int vm), .val (.int vv), .val (.long nv), .second, .val (.int lm), .unset, .unset, .val (.long (65535 : Int64)), .second, .unset, .unset] [(.long (2 : Int64))])) rfl (hb hby at_116) _ ?_
              show Steps p.tables e below (T199.setTop (mkF m 119 #[.val (.int p0), .val (.int p1), .val (.long p2), .second, .val (.int p3), .val (.int vm), .val (.int vv), .val (.long nv), .second, .val (.int lm), .unset, .unset, .val (.long (65535 : Int64)), .second, .unset, .unset] [(.long (2 : Int64)), (.long (2 : Int64))])) _
              refine XS.lload X199.here hx rfl (hb hby at_119) rfl ?_
              show Steps p.tables e below (T199.setTop (mkF m 121 #[.val (.int p0), .val (.int p1), .val (.long p2), .second, .val (.int p3), .val (.int vm), .val (.int vv), .val (.long nv), .second, .val (.int lm), .unset, .unset, .val (.long (65535 : Int64)), .second, .unset, .unset] [(.long nv), (.long (2 : Int64)), (.long (2 : Int64))])) _
              refine XS.lmul X199.here hx rfl (hb hby at_121) rfl ?_
              show Steps p.tables e below (T199.setTop (mkF m 122 #[.val (.int p0), .val (.int p1), .val (.long p2), .second, .val (.int p3), .val (.int vm), .val (.int vv), .val (.long nv), .second, .val (.int lm), .unset, .unset, .val (.long (65535 : Int64)), .second, .unset, .unset] [(.long ((2 : Int64) * nv)), (.long (2 : Int64))])) _
              refine XS.ladd X199.here hx rfl (hb hby at_122) rfl ?_
              show Steps p.tables e below (T199.setTop (mkF m 123 #[.val (.int p0), .val (.int p1), .val (.long p2), .second, .val (.int p3), .val (.int vm), .val (.int vv), .val (.long nv), .second, .val (.int lm), .unset, .unset, .val (.long (65535 : Int64)), .second, .unset, .unset] [(.long ((2 : Int64) + ((2 : Int64) * nv)))])) _
              rw [h_tb]
              show Steps p.tables e below (T199.setTop (mkF m 123 #[.val (.int p0), .val (.int p1), .val (.long p2), .second, .val (.int p3), .val (.int vm), .val (.int vv), .val (.long nv), .second, .val (.int lm), .unset, .unset, .val (.long (65535 : Int64)), .second, .unset, .unset] [(.long tb)])) _
              refine XS.goto X199.here hx rfl (pc0 := 123) (pc' := 136) rfl (hb hby at_123) (by decide) (by decide) ?_
              show Steps p.tables e below (T199.setTop (mkF m 136 #[.val (.int p0), .val (.int p1), .val (.long p2), .second, .val (.int p3), .val (.int vm), .val (.int vv), .val (.long nv), .second, .val (.int lm), .unset, .unset, .val (.long (65535 : Int64)), .second, .unset, .unset] [(.long tb)])) _
              refine XS.lstore X199.here hx rfl (hb hby at_136) rfl (l' := #[.val (.int p0), .val (.int p1), .val (.long p2), .second, .val (.int p3), .val (.int vm), .val (.int vv), .val (.long nv), .second, .val (.int lm), .unset, .unset, .val (.long (65535 : Int64)), .second, .val (.long tb), .second]) rfl ?_
              show Steps p.tables e below (T199.setTop (mkF m 138 #[.val (.int p0), .val (.int p1), .val (.long p2), .second, .val (.int p3), .val (.int vm), .val (.int vv), .val (.long nv), .second, .val (.int lm), .unset, .unset, .val (.long (65535 : Int64)), .second, .val (.long tb), .second] [])) _
              refine XS.lconst X199.here hx rfl (hb hby at_138) ?_
              show Steps p.tables e below (T199.setTop (mkF m 139 #[.val (.int p0), .val (.int p1), .val (.long p2), .second, .val (.int p3), .val (.int vm), .val (.int vv), .val (.long nv), .second, .val (.int lm), .unset, .unset, .val (.long (65535 : Int64)), .second, .val (.long tb), .second] [(.long (0 : Int64))])) _
              refine XS.lload X199.here hx rfl (hb hby at_139) rfl ?_
              show Steps p.tables e below (T199.setTop (mkF m 141 #[.val (.int p0), .val (.int p1), .val (.long p2), .second, .val (.int p3), .val (.int vm), .val (.int vv), .val (.long nv), .second, .val (.int lm), .unset, .unset, .val (.long (65535 : Int64)), .second, .val (.long tb), .second] [(.long (65535 : Int64)), (.long (0 : Int64))])) _
              refine XS.lload X199.here hx rfl (hb hby at_141) rfl ?_
              show Steps p.tables e below (T199.setTop (mkF m 143 #[.val (.int p0), .val (.int p1), .val (.long p2), .second, .val (.int p3), .val (.int vm), .val (.int vv), .val (.long nv), .second, .val (.int lm), .unset, .unset, .val (.long (65535 : Int64)), .second, .val (.long tb), .second] [(.long tb), (.long (65535 : Int64)), (.long (0 : Int64))])) _
              refine XS.lsub X199.here hx rfl (hb hby at_143) rfl ?_
              show Steps p.tables e below (T199.setTop (mkF m 144 #[.val (.int p0), .val (.int p1), .val (.long p2), .second, .val (.int p3), .val (.int vm), .val (.int vv), .val (.long nv), .second, .val (.int lm), .unset, .unset, .val (.long (65535 : Int64)), .second, .val (.long tb), .second] [(.long ((65535 : Int64) - tb)), (.long (0 : Int64))])) _
              refine XS.iload X199.here hx rfl (hb hby at_144) rfl ?_
              show Steps p.tables e below (T199.setTop (mkF m 146 #[.val (.int p0), .val (.int p1), .val (.long p2), .second, .val (.int p3), .val (.int vm), .val (.int vv), .val (.long nv), .second, .val (.int lm), .unset, .unset, .val (.long (65535 : Int64)), .second, .val (.long tb), .second] [(.int p3), (.long ((65535 : Int64) - tb)), (.long (0 : Int64))])) _
              refine XS.bipush X199.here hx rfl (hb hby at_146) ?_
              show Steps p.tables e below (T199.setTop (mkF m 148 #[.val (.int p0), .val (.int p1), .val (.long p2), .second, .val (.int p3), .val (.int vm), .val (.int vv), .val (.long nv), .second, .val (.int lm), .unset, .unset, .val (.long (65535 : Int64)), .second, .val (.long tb), .second] [(.int (8 : Int32)), (.int p3), (.long ((65535 : Int64) - tb)), (.long (0 : Int64))])) _
              refine Jvm.RoadKit.iremM (g := (mkF m 148 #[.val (.int p0), .val (.int p1), .val (.long p2), .second, .val (.int p3), .val (.int vm), .val (.int vv), .val (.long nv), .second, .val (.int lm), .unset, .unset, .val (.long (65535 : Int64)), .second, .val (.long tb), .second] [(.int (8 : Int32)), (.int p3), (.long ((65535 : Int64) - tb)), (.long (0 : Int64))])) X199 hx rfl (hb hby at_148) rfl (by decide) ?_
              show Steps p.tables e below (T199.setTop (mkF m 149 #[.val (.int p0), .val (.int p1), .val (.long p2), .second, .val (.int p3), .val (.int vm), .val (.int vv), .val (.long nv), .second, .val (.int lm), .unset, .unset, .val (.long (65535 : Int64)), .second, .val (.long tb), .second] [(.int (p3 % (8 : Int32))), (.long ((65535 : Int64) - tb)), (.long (0 : Int64))])) _
              refine XS.i2l X199.here hx rfl (hb hby at_149) rfl ?_
              show Steps p.tables e below (T199.setTop (mkF m 150 #[.val (.int p0), .val (.int p1), .val (.long p2), .second, .val (.int p3), .val (.int vm), .val (.int vv), .val (.long nv), .second, .val (.int lm), .unset, .unset, .val (.long (65535 : Int64)), .second, .val (.long tb), .second] [(.long ((p3 % (8 : Int32)).toInt64)), (.long ((65535 : Int64) - tb)), (.long (0 : Int64))])) _
              refine XS.ladd X199.here hx rfl (hb hby at_150) rfl ?_
              show Steps p.tables e below (T199.setTop (mkF m 151 #[.val (.int p0), .val (.int p1), .val (.long p2), .second, .val (.int p3), .val (.int vm), .val (.int vv), .val (.long nv), .second, .val (.int lm), .unset, .unset, .val (.long (65535 : Int64)), .second, .val (.long tb), .second] [(.long (((65535 : Int64) - tb) + ((p3 % (8 : Int32)).toInt64))), (.long (0 : Int64))])) _
              rw [h_xx]
              show Steps p.tables e below (T199.setTop (mkF m 151 #[.val (.int p0), .val (.int p1), .val (.long p2), .second, .val (.int p3), .val (.int vm), .val (.int vv), .val (.long nv), .second, .val (.int lm), .unset, .unset, .val (.long (65535 : Int64)), .second, .val (.long tb), .second] [(.long xx), (.long (0 : Int64))])) _
              refine st218 _ ?_
              show Steps p.tables e below (T218.setTop (mkF m 154 #[.val (.int p0), .val (.int p1), .val (.long p2), .second, .val (.int p3), .val (.int vm), .val (.int vv), .val (.long nv), .second, .val (.int lm), .unset, .unset, .val (.long (65535 : Int64)), .second, .val (.long tb), .second] [(.long (if (lcmpW (0 : Int64) xx) < (0 : Int32) then xx else (0 : Int64)))])) _
              rw [h_ls]
              show Steps p.tables e below (T218.setTop (mkF m 154 #[.val (.int p0), .val (.int p1), .val (.long p2), .second, .val (.int p3), .val (.int vm), .val (.int vv), .val (.long nv), .second, .val (.int lm), .unset, .unset, .val (.long (65535 : Int64)), .second, .val (.long tb), .second] [(.long ls)])) _
              refine XS.lstore X218.here hx rfl (hb hby at_154) rfl (l' := #[.val (.int p0), .val (.int p1), .val (.long p2), .second, .val (.int p3), .val (.int vm), .val (.int vv), .val (.long nv), .second, .val (.int lm), .val (.long ls), .second, .val (.long (65535 : Int64)), .second, .val (.long tb), .second]) rfl ?_
              show Steps p.tables e below (T218.setTop (mkF m 156 #[.val (.int p0), .val (.int p1), .val (.long p2), .second, .val (.int p3), .val (.int vm), .val (.int vv), .val (.long nv), .second, .val (.int lm), .val (.long ls), .second, .val (.long (65535 : Int64)), .second, .val (.long tb), .second] [])) _
              refine XS.iload X218.here hx rfl (hb hby at_156) rfl ?_
              show Steps p.tables e below (T218.setTop (mkF m 158 #[.val (.int p0), .val (.int p1), .val (.long p2), .second, .val (.int p3), .val (.int vm), .val (.int vv), .val (.long nv), .second, .val (.int lm), .val (.long ls), .second, .val (.long (65535 : Int64)), .second, .val (.long tb), .second] [(.int vv)])) _
              refine XS.lload X218.here hx rfl (hb hby at_158) rfl ?_
              show Steps p.tables e below (T218.setTop (mkF m 160 #[.val (.int p0), .val (.int p1), .val (.long p2), .second, .val (.int p3), .val (.int vm), .val (.int vv), .val (.long nv), .second, .val (.int lm), .val (.long ls), .second, .val (.long (65535 : Int64)), .second, .val (.long tb), .second] [(.long ls), (.int vv)])) _
              refine st219 _ ?_
              exact kt
            (try clear N219q); (try clear st219); (try clear Lc219); (try clear n219); (try clear k219); (try clear L219); (try clear N218); (try clear e218); (try clear N218q); (try clear st218); (try clear Lc218); (try clear X218); (try clear n218); (try clear k218); (try clear L218); (try clear T218)
            rcases own_spec_two vv.toInt ls.toInt w_NONE w_TINY w_MEDIUM w_LARGE with ⟨wq, hv221⟩ | hv222
            · -- wq
              obtain ⟨_, _, ⟨T223, L223, k223, n223⟩, -, X223, ⟨Lc223, hQ223, l223, y223, z223⟩, st223⟩ := Jvm.LawKit.callS X219 hx (y := (⟨"com/example/rowstrata/rowstrata/row/VarTableSmallestPinLaw", "expected", "(IJ)Lcom/example/rowstrata/rowstrata/row/VarTable;"⟩ : MethodName)) hown (mvT hZ (hw _ (List.mem_of_getElem? (i := 25) rfl))) (mvT hZ (hw _ (List.mem_of_getElem? (i := 26) rfl))) (mvT hZ (hw _ (List.mem_of_getElem? (i := 27) rfl))) (mvT hZ (hw _ (List.mem_of_getElem? (i := 28) rfl))) (by decide) (backOf (W := 1) (rm_exp l Z a0 hw [] vv ls h0 n0 Z0 w_TINY w_NONE w_MEDIUM w_LARGE hWd hls.1 hls.2) hZ (hw _ (List.mem_of_getElem? (i := 28) rfl)) (hw _ (List.mem_of_getElem? (i := 27) rfl)) (by decide) (by decide)) (g := (mkF m 171 #[.val (.int p0), .val (.int p1), .val (.long p2), .second, .val (.int p3), .val (.int vm), .val (.int vv), .val (.long nv), .second, .val (.int lm), .val (.long ls), .second, .val (.ref wq), .unset, .val (.long tb), .second] [(.long ls), (.int vv), (.ref wq)])) rfl (by rw [hml]; rfl) (argsL := [(.int vv), (.long ls)]) (rest := [(.ref wq)]) (lenOf pd_137 rfl) rfl (by show 2 * 0 + _ ≤ _; exact Nat.le_of_eq rfl) (hb hby at_171) (fun _ _ => ⟨rfl, e219, (by decide : 0 + 0 ≤ _), (by decide : 0 + 0 ≤ _)⟩)
              dsimp only [Pt.U, Pt.locs, Pt.cells, Pt.slots] at X223 l223 y223 z223 st223 hQ223
              subst l223 y223 z223
              obtain ⟨rfl, N223q, e223⟩ := hQ223
              have N223 := Fr.app N219 N223q
              obtain ⟨fs, hr, hrun, hended, hW, hsame⟩ := X223.leave (v := some (.int (1 : Int32))) (fun h => by rw [Bd.returns] at h; cases h)
              refine ⟨_, _, ck220 _ ?_, hrun, hended, _, _, rfl, ?_, ⟨_, rfl⟩, hW, hsame.mono (by decide) (by decide)⟩
              · show Steps p.tables e below (T219.setTop (mkF m 163 #[.val (.int p0), .val (.int p1), .val (.long p2), .second, .val (.int p3), .val (.int vm), .val (.int vv), .val (.long nv), .second, .val (.int lm), .val (.long ls), .second, .val (.long (65535 : Int64)), .second, .val (.long tb), .second] [(own_spec vv.toInt ls.toInt w_NONE w_TINY w_MEDIUM w_LARGE)])) _
                rw [hv221]
                show Steps p.tables e below (T219.setTop (mkF m 163 #[.val (.int p0), .val (.int p1), .val (.long p2), .second, .val (.int p3), .val (.int vm), .val (.int vv), .val (.long nv), .second, .val (.int lm), .val (.long ls), .second, .val (.long (65535 : Int64)), .second, .val (.long tb), .second] [(.ref wq)])) _
                refine XS.astore X219.here hx rfl (hb hby at_163) rfl rfl (l' := #[.val (.int p0), .val (.int p1), .val (.long p2), .second, .val (.int p3), .val (.int vm), .val (.int vv), .val (.long nv), .second, .val (.int lm), .val (.long ls), .second, .val (.ref wq), .unset, .val (.long tb), .second]) rfl ?_
                show Steps p.tables e below (T219.setTop (mkF m 165 #[.val (.int p0), .val (.int p1), .val (.long p2), .second, .val (.int p3), .val (.int vm), .val (.int vv), .val (.long nv), .second, .val (.int lm), .val (.long ls), .second, .val (.ref wq), .unset, .val (.long tb), .second] [])) _
                refine XS.aload X219.here hx rfl (hb hby at_165) rfl rfl ?_
                show Steps p.tables e below (T219.setTop (mkF m 167 #[.val (.int p0), .val (.int p1), .val (.long p2), .second, .val (.int p3), .val (.int vm), .val (.int vv), .val (.long nv), .second, .val (.int lm), .val (.long ls), .second, .val (.ref wq), .unset, .val (.long tb), .second] [(.ref wq)])) _
                refine XS.iload X219.here hx rfl (hb hby at_167) rfl ?_
                show Steps p.tables e below (T219.setTop (mkF m 169 #[.val (.int p0), .val (.int p1), .val (.long p2), .second, .val (.int p3), .val (.int vm), .val (.int vv), .val (.long nv), .second, .val (.int lm), .val (.long ls), .second, .val (.ref wq), .unset, .val (.long tb), .second] [(.int vv), (.ref wq)])) _
                refine XS.lload X219.here hx rfl (hb hby at_169) rfl ?_
                show Steps p.tables e below (T219.setTop (mkF m 171 #[.val (.int p0), .val (.int p1), .val (.long p2), .second, .val (.int p3), .val (.int vm), .val (.int vv), .val (.long nv), .second, .val (.int lm), .val (.long ls), .second, .val (.ref wq), .unset, .val (.long tb), .second] [(.long ls), (.int vv), (.ref wq)])) _
                refine st223 _ ?_
                show Steps p.tables e below (T223.setTop (mkF m 174 #[.val (.int p0), .val (.int p1), .val (.long p2), .second, .val (.int p3), .val (.int vm), .val (.int vv), .val (.long nv), .second, .val (.int lm), .val (.long ls), .second, .val (.ref wq), .unset, .val (.long tb), .second] [(own_spec vv.toInt ls.toInt w_NONE w_TINY w_MEDIUM w_LARGE), (.ref wq)])) _
                rw [hv221]
                show Steps p.tables e below (T223.setTop (mkF m 174 #[.val (.int p0), .val (.int p1), .val (.long p2), .second, .val (.int p3), .val (.int vm), .val (.int vv), .val (.long nv), .second, .val (.int lm), .val (.long ls), .second, .val (.ref wq), .unset, .val (.long tb), .second] [(.ref wq), (.ref wq)])) _
                refine Jvm.RoadKit.acmp (g := (mkF m 174 #[.val (.int p0), .val (.int p1), .val (.long p2), .second, .val (.int p3), .val (.int vm), .val (.int vv), .val (.long nv), .second, .val (.int lm), .val (.long ls), .second, .val (.ref wq), .unset, .val (.long tb), .second] [(.ref wq), (.ref wq)])) X223 hx rfl rfl rfl (pc0 := 174) (pc' := 177) (same := true) rfl (hb hby at_174) rfl (decide_eq_true rfl) (by decide) (by decide) ?_
                show Steps p.tables e below (T223.setTop (mkF m 177 #[.val (.int p0), .val (.int p1), .val (.long p2), .second, .val (.int p3), .val (.int vm), .val (.int vv), .val (.long nv), .second, .val (.int lm), .val (.long ls), .second, .val (.ref wq), .unset, .val (.long tb), .second] [])) _
                refine XS.iconst X223.here hx rfl (hb hby at_177) ?_
                show Steps p.tables e below (T223.setTop (mkF m 178 #[.val (.int p0), .val (.int p1), .val (.long p2), .second, .val (.int p3), .val (.int vm), .val (.int vv), .val (.long nv), .second, .val (.int lm), .val (.long ls), .second, .val (.ref wq), .unset, .val (.long tb), .second] [(.int (1 : Int32))])) _
                refine XS.goto X223.here hx rfl (pc0 := 178) (pc' := 182) rfl (hb hby at_178) (by decide) (by decide) ?_
                show Steps p.tables e below (T223.setTop (mkF m 182 #[.val (.int p0), .val (.int p1), .val (.long p2), .second, .val (.int p3), .val (.int vm), .val (.int vv), .val (.long nv), .second, .val (.int lm), .val (.long ls), .second, .val (.ref wq), .unset, .val (.long tb), .second] [(.int (1 : Int32))])) _
                exact retN X223 hx (t := .boolean) Bd.returns (by simp) (hb hby at_182) hr
              · show own_Pure (some (.int 1)) h0 n0 _ T223.heap _
                rw [e223]
                exact ⟨rfl, N223, rfl⟩
            · -- null
              obtain ⟨_, _, ⟨T224, L224, k224, n224⟩, -, X224, ⟨Lc224, hQ224, l224, y224, z224⟩, st224⟩ := Jvm.LawKit.callS X219 hx (y := (⟨"com/example/rowstrata/rowstrata/row/VarTableSmallestPinLaw", "expected", "(IJ)Lcom/example/rowstrata/rowstrata/row/VarTable;"⟩ : MethodName)) hown (mvT hZ (hw _ (List.mem_of_getElem? (i := 25) rfl))) (mvT hZ (hw _ (List.mem_of_getElem? (i := 26) rfl))) (mvT hZ (hw _ (List.mem_of_getElem? (i := 27) rfl))) (mvT hZ (hw _ (List.mem_of_getElem? (i := 28) rfl))) (by decide) (backOf (W := 1) (rm_exp l Z a0 hw [] vv ls h0 n0 Z0 w_TINY w_NONE w_MEDIUM w_LARGE hWd hls.1 hls.2) hZ (hw _ (List.mem_of_getElem? (i := 28) rfl)) (hw _ (List.mem_of_getElem? (i := 27) rfl)) (by decide) (by decide)) (g := (mkF m 171 #[.val (.int p0), .val (.int p1), .val (.long p2), .second, .val (.int p3), .val (.int vm), .val (.int vv), .val (.long nv), .second, .val (.int lm), .val (.long ls), .second, .val .null, .unset, .val (.long tb), .second] [(.long ls), (.int vv), .null])) rfl (by rw [hml]; rfl) (argsL := [(.int vv), (.long ls)]) (rest := [.null]) (lenOf pd_137 rfl) rfl (by show 2 * 0 + _ ≤ _; exact Nat.le_of_eq rfl) (hb hby at_171) (fun _ _ => ⟨rfl, e219, (by decide : 0 + 0 ≤ _), (by decide : 0 + 0 ≤ _)⟩)
              dsimp only [Pt.U, Pt.locs, Pt.cells, Pt.slots] at X224 l224 y224 z224 st224 hQ224
              subst l224 y224 z224
              obtain ⟨rfl, N224q, e224⟩ := hQ224
              have N224 := Fr.app N219 N224q
              obtain ⟨fs, hr, hrun, hended, hW, hsame⟩ := X224.leave (v := some (.int (1 : Int32))) (fun h => by rw [Bd.returns] at h; cases h)
              refine ⟨_, _, ck220 _ ?_, hrun, hended, _, _, rfl, ?_, ⟨_, rfl⟩, hW, hsame.mono (by decide) (by decide)⟩
              · show Steps p.tables e below (T219.setTop (mkF m 163 #[.val (.int p0), .val (.int p1), .val (.long p2), .second, .val (.int p3), .val (.int vm), .val (.int vv), .val (.long nv), .second, .val (.int lm), .val (.long ls), .second, .val (.long (65535 : Int64)), .second, .val (.long tb), .second] [(own_spec vv.toInt ls.toInt w_NONE w_TINY w_MEDIUM w_LARGE)])) _
                rw [hv222]
                show Steps p.tables e below (T219.setTop (mkF m 163 #[.val (.int p0), .val (.int p1), .val (.long p2), .second, .val (.int p3), .val (.int vm), .val (.int vv), .val (.long nv), .second, .val (.int lm), .val (.long ls), .second, .val (.long (65535 : Int64)), .second, .val (.long tb), .second] [.null])) _
                refine XS.astore X219.here hx rfl (hb hby at_163) rfl rfl (l' := #[.val (.int p0), .val (.int p1), .val (.long p2), .second, .val (.int p3), .val (.int vm), .val (.int vv), .val (.long nv), .second, .val (.int lm), .val (.long ls), .second, .val .null, .unset, .val (.long tb), .second]) rfl ?_
                show Steps p.tables e below (T219.setTop (mkF m 165 #[.val (.int p0), .val (.int p1), .val (.long p2), .second, .val (.int p3), .val (.int vm), .val (.int vv), .val (.long nv), .second, .val (.int lm), .val (.long ls), .second, .val .null, .unset, .val (.long tb), .second] [])) _
                refine XS.aload X219.here hx rfl (hb hby at_165) rfl rfl ?_
                show Steps p.tables e below (T219.setTop (mkF m 167 #[.val (.int p0), .val (.int p1), .val (.long p2), .second, .val (.int p3), .val (.int vm), .val (.int vv), .val (.long nv), .second, .val (.int lm), .val (.long ls), .second, .val .null, .unset, .val (.long tb), .second] [.null])) _
                refine XS.iload X219.here hx rfl (hb hby at_167) rfl ?_
                show Steps p.tables e below (T219.setTop (mkF m 169 #[.val (.int p0), .val (.int p1), .val (.long p2), .second, .val (.int p3), .val (.int vm), .val (.int vv), .val (.long nv), .second, .val (.int lm), .val (.long ls), .second, .val .null, .unset, .val (.long tb), .second] [(.int vv), .null])) _
                refine XS.lload X219.here hx rfl (hb hby at_169) rfl ?_
                show Steps p.tables e below (T219.setTop (mkF m 171 #[.val (.int p0), .val (.int p1), .val (.long p2), .second, .val (.int p3), .val (.int vm), .val (.int vv), .val (.long nv), .second, .val (.int lm), .val (.long ls), .second, .val .null, .unset, .val (.long tb), .second] [(.long ls), (.int vv), .null])) _
                refine st224 _ ?_
                show Steps p.tables e below (T224.setTop (mkF m 174 #[.val (.int p0), .val (.int p1), .val (.long p2), .second, .val (.int p3), .val (.int vm), .val (.int vv), .val (.long nv), .second, .val (.int lm), .val (.long ls), .second, .val .null, .unset, .val (.long tb), .second] [(own_spec vv.toInt ls.toInt w_NONE w_TINY w_MEDIUM w_LARGE), .null])) _
                rw [hv222]
                show Steps p.tables e below (T224.setTop (mkF m 174 #[.val (.int p0), .val (.int p1), .val (.long p2), .second, .val (.int p3), .val (.int vm), .val (.int vv), .val (.long nv), .second, .val (.int lm), .val (.long ls), .second, .val .null, .unset, .val (.long tb), .second] [.null, .null])) _
                refine Jvm.RoadKit.acmp (g := (mkF m 174 #[.val (.int p0), .val (.int p1), .val (.long p2), .second, .val (.int p3), .val (.int vm), .val (.int vv), .val (.long nv), .second, .val (.int lm), .val (.long ls), .second, .val .null, .unset, .val (.long tb), .second] [.null, .null])) X224 hx rfl rfl rfl (pc0 := 174) (pc' := 177) (same := true) rfl (hb hby at_174) rfl (decide_eq_true rfl) (by decide) (by decide) ?_
                show Steps p.tables e below (T224.setTop (mkF m 177 #[.val (.int p0), .val (.int p1), .val (.long p2), .second, .val (.int p3), .val (.int vm), .val (.int vv), .val (.long nv), .second, .val (.int lm), .val (.long ls), .second, .val .null, .unset, .val (.long tb), .second] [])) _
                refine XS.iconst X224.here hx rfl (hb hby at_177) ?_
                show Steps p.tables e below (T224.setTop (mkF m 178 #[.val (.int p0), .val (.int p1), .val (.long p2), .second, .val (.int p3), .val (.int vm), .val (.int vv), .val (.long nv), .second, .val (.int lm), .val (.long ls), .second, .val .null, .unset, .val (.long tb), .second] [(.int (1 : Int32))])) _
                refine XS.goto X224.here hx rfl (pc0 := 178) (pc' := 182) rfl (hb hby at_178) (by decide) (by decide) ?_
                show Steps p.tables e below (T224.setTop (mkF m 182 #[.val (.int p0), .val (.int p1), .val (.long p2), .second, .val (.int p3), .val (.int vm), .val (.int vv), .val (.long nv), .second, .val (.int lm), .val (.long ls), .second, .val .null, .unset, .val (.long tb), .second] [(.int (1 : Int32))])) _
                exact retN X224 hx (t := .boolean) Bd.returns (by simp) (hb hby at_182) hr
              · show own_Pure (some (.int 1)) h0 n0 _ T224.heap _
                rw [e224]
                exact ⟨rfl, N224, rfl⟩
          · -- pc 80: not lm = (2 : Int32)
            obtain ⟨tb, h_tb⟩ : ∃ z : Int64, ((2 : Int64) + ((4 : Int64) * nv)) = z := ⟨_, rfl⟩
            have htb : 0 ≤ tb.toInt ∧ tb.toInt ≤ 8589934590 := by rw [← h_tb]; exact own_tb135 hnv.1 hnv.2
            obtain ⟨xx, h_xx⟩ : ∃ z : Int64, (((4294967295 : Int64) - tb) + ((p3 % (8 : Int32)).toInt64)) = z := ⟨_, rfl⟩
            have hxx : xx.toInt ≤ 4294967303 := by rw [← h_xx]; exact own_xx (by decide) htb.1 htb.2
            obtain ⟨_, _, ⟨T225, L225, k225, n225⟩, -, X225, ⟨Lc225, hQ225, l225, y225, z225⟩, st225⟩ := Jvm.LawKit.callS X199 hx (y := (⟨"java/lang/Math", "max", "(JJ)J"⟩ : MethodName)) hown (mvT hZ (hw _ (List.mem_of_getElem? (i := 0) rfl))) (mvT hZ (hw _ (List.mem_of_getElem? (i := 1) rfl))) (mvT hZ (hw _ (List.mem_of_getElem? (i := 2) rfl))) (mvT hZ (hw _ (List.mem_of_getElem? (i := 3) rfl))) (by decide) (backOf (W := 0) (rm_max l Z a0 hw [] (0 : Int64) xx h0 n0 Z0 (if (lcmpW (0 : Int64) xx) < (0 : Int32) then xx else (0 : Int64)) rfl) hZ (hw _ (List.mem_of_getElem? (i := 3) rfl)) (hw _ (List.mem_of_getElem? (i := 2) rfl)) (by decide) (by decide)) (g := (mkF m 151 #[.val (.int p0), .val (.int p1), .val (.long p2), .second, .val (.int p3), .val (.int vm), .val (.int vv), .val (.long nv), .second, .val (.int lm), .unset, .unset, .val (.long (4294967295 : Int64)), .second, .val (.long tb), .second] [(.long xx), (.long (0 : Int64))])) rfl (by rw [hml]; rfl) (argsL := [(.long (0 : Int64)), (.long xx)]) (rest := []) (lenOf pd_136 rfl) rfl (by show 2 * 0 + _ ≤ _; exact Nat.le_of_eq rfl) (hb hby at_151) (fun _ _ => ⟨rfl, e199, (by decide : 0 + 0 ≤ _), (by decide : 0 + 0 ≤ _)⟩)
            dsimp only [Pt.U, Pt.locs, Pt.cells, Pt.slots] at X225 l225 y225 z225 st225 hQ225
            subst l225 y225 z225
            obtain ⟨rfl, N225q, e225⟩ := hQ225
            have N225 := Fr.app N199 N225q
            obtain ⟨ls, h_ls⟩ : ∃ z : Int64, (if (lcmpW (0 : Int64) xx) < (0 : Int32) then xx else (0 : Int64)) = z := ⟨_, rfl⟩
            have hls : 0 ≤ ls.toInt ∧ ls.toInt ≤ 4611686018427387904 := by rw [← h_ls]; exact own_mx2 hxx
            obtain ⟨_, _, ⟨T226, L226, k226, n226⟩, -, X226, ⟨Lc226, hQ226, l226, y226, z226⟩, st226⟩ := Jvm.LawKit.callS X225 hx (y := (⟨"com/example/rowstrata/rowstrata/row/VarTable", "smallest", "(IJ)Lcom/example/rowstrata/rowstrata/row/VarTable;"⟩ : MethodName)) hown (mvT hZ (hw _ (List.mem_of_getElem? (i := 4) rfl))) (mvT hZ (hw _ (List.mem_of_getElem? (i := 5) rfl))) (mvT hZ (hw _ (List.mem_of_getElem? (i := 6) rfl))) (mvT hZ (hw _ (List.mem_of_getElem? (i := 7) rfl))) (by decide) (backOf (W := 0) (rm_sm l Z a0 hw [] vv ls h0 n0 Z0 w_TINY w_NONE w_MEDIUM w_LARGE hWd w_WT kWT S_WT A_WT hls.1 hls.2) hZ (hw _ (List.mem_of_getElem? (i := 7) rfl)) (hw _ (List.mem_of_getElem? (i := 6) rfl)) (by decide) (by decide)) (g := (mkF m 160 #[.val (.int p0), .val (.int p1), .val (.long p2), .second, .val (.int p3), .val (.int vm), .val (.int vv), .val (.long nv), .second, .val (.int lm), .val (.long ls), .second, .val (.long (4294967295 : Int64)), .second, .val (.long tb), .second] [(.long ls), (.int vv)])) rfl (by rw [hml]; rfl) (argsL := [(.int vv), (.long ls)]) (rest := []) (lenOf pd_137 rfl) rfl (by show 2 * 0 + _ ≤ _; exact Nat.le_of_eq rfl) (hb hby at_160) (fun _ _ => ⟨rfl, e225, (by decide : 0 + 0 ≤ _), (by decide : 0 + 0 ≤ _)⟩)
            dsimp only [Pt.U, Pt.locs, Pt.cells, Pt.slots] at X226 l226 y226 z226 st226 hQ226
            subst l226 y226 z226
            obtain ⟨rfl, N226q, e226⟩ := hQ226
            have N226 := Fr.app N225 N226q
            have ck227 : ∀ t, Steps p.tables e below (T226.setTop (mkF m 163 #[.val (.int p0), .val (.int p1), .val (.long p2), .second, .val (.int p3), .val (.int vm), .val (.int vv), .val (.long nv), .second, .val (.int lm), .val (.long ls), .second, .val (.long (4294967295 : Int64)), .second, .val (.long tb), .second] [(own_spec vv.toInt ls.toInt w_NONE w_TINY w_MEDIUM w_LARGE)])) t → Steps p.tables e below (s₁.setTop (entryFrame m #[(.int p0), (.int p1), (.long p2), (.int p3)] maxLocals)) t := by
              intro t kt
              refine ck217 _ ?_
              show Steps p.tables e below (T199.setTop (mkF m 80 #[.val (.int p0), .val (.int p1), .val (.long p2), .second, .val (.int p3), .val (.int vm), .val (.int vv), .val (.long nv), .second, .val (.int lm), .unset, .unset, .unset, .unset, .unset, .unset] [(.int (2 : Int32)), (.int lm)])) _
              refine XS.icmpYes X199.here hx rfl (pc0 := 80) (pc' := 89) rfl (hb hby at_80) rfl (feq hc80_216).2 (by decide) (by decide) ?_
              show Steps p.tables e below (T199.setTop (mkF m 89 #[.val (.int p0), .val (.int p1), .val (.long p2), .second, .val (.int p3), .val (.int vm), .val (.int vv), .val (.long nv), .second, .val (.int lm), .unset, .unset, .unset, .unset, .unset, .unset] [])) _
              refine X199.ldc2Long hx hown (mvT hZ (hw _ (List.mem_of_getElem? (i := 37) rfl))) (g := (mkF m 89 #[.val (.int p0), .val (.int p1), .val (.long p2), .second, .val (.int p3), .val (.int vm), .val (.int vv), .val (.long nv), .second, .val (.int lm), .unset, .unset, .unset, .unset, .unset, .unset] [])) rfl (hb hby at_89) _ ?_
              show Steps p.tables e below (T199.setTop (mkF m 92 #[.val (.int p0), .val (.int p1), .val (.long p2), .second, .val (.int p3), .val (.int vm), .val (.int vv), .val (.long nv), .second, .val (.int lm), .unset, .unset, .unset, .unset, .unset, .unset] [(.long (4294967295 : Int64))])) _
              refine XS.lstore X199.here hx rfl (hb hby at_92) rfl (l' := #[.val (.int p0), .val (.int p1), .val (.long p2), .second, .val (.int p3), .val (.int vm), .val (.int vv), .val (.long nv), .second, .val (.int lm), .unset, .unset, .val (.long (4294967295 : Int64)), .second, .unset, .unset]) rfl ?_
              show Steps p.tables e below (T199.setTop (mkF m 94 #[.val (.int p0), .val (.int p1), .val (.long p2), .second, .val (.int p3), .val (.int vm), .val (.int vv), .val (.long nv), .second, .val (.int lm), .unset, .unset, .val (.long (4294967295 : Int64)), .second, .unset, .unset] [])) _
              refine XS.iload X199.here hx rfl (hb hby at_94) rfl ?_
              show Steps p.tables e below (T199.setTop (mkF m 96 #[.val (.int p0), .val (.int p1), .val (.long p2), .second, .val (.int p3), .val (.int vm), .val (.int vv), .val (.long nv), .second, .val (.int lm), .unset, .unset, .val (.long (4294967295 : Int64)), .second, .unset, .unset] [(.int lm)])) _
              refine XS.iconst X199.here hx rfl (hb hby at_96) ?_
              show Steps p.tables e below (T199.setTop (mkF m 97 #[.val (.int p0), .val (.int p1), .val (.long p2), .second, .val (.int p3), .val (.int vm), .val (.int vv), .val (.long nv), .second, .val (.int lm), .unset, .unset, .val (.long (4294967295 : Int64)), .second, .unset, .unset] [(.int (1 : Int32)), (.int lm)])) _
              refine XS.icmpYes X199.here hx rfl (pc0 := 97) (pc' := 107) rfl (hb hby at_97) rfl (feq hc68_208).2 (by decide) (by decide) ?_
              show Steps p.tables e below (T199.setTop (mkF m 107 #[.val (.int p0), .val (.int p1), .val (.long p2), .second, .val (.int p3), .val (.int vm), .val (.int vv), .val (.long nv), .second, .val (.int lm), .unset, .unset, .val (.long (4294967295 : Int64)), .second, .unset, .unset] [])) _
              refine XS.iload X199.here hx rfl (hb hby at_107) rfl ?_
              show Steps p.tables e below (T199.setTop (mkF m 109 #[.val (.int p0), .val (.int p1), .val (.long p2), .second, .val (.int p3), .val (.int vm), .val (.int vv), .val (.long nv), .second, .val (.int lm), .unset, .unset, .val (.long (4294967295 : Int64)), .second, .unset, .unset] [(.int lm)])) _
              refine XS.iconst X199.here hx rfl (hb hby at_109) ?_
              show Steps p.tables e below (T199.setTop (mkF m 110 #[.val (.int p0), .val (.int p1), .val (.long p2), .second, .val (.int p3), .val (.int vm), .val (.int vv), .val (.long nv), .second, .val (.int lm), .unset, .unset, .val (.long (4294967295 : Int64)), .second, .unset, .unset] [(.int (2 : Int32)), (.int lm)])) _
              refine XS.icmpYes X199.here hx rfl (pc0 := 110) (pc' := 126) rfl (hb hby at_110) rfl (feq hc80_216).2 (by decide) (by decide) ?_
              show Steps p.tables e below (T199.setTop (mkF m 126 #[.val (.int p0), .val (.int p1), .val (.long p2), .second, .val (.int p3), .val (.int vm), .val (.int vv), .val (.long nv), .second, .val (.int lm), .unset, .unset, .val (.long (4294967295 : Int64)), .second, .unset, .unset] [])) _
              refine X199.ldc2Long hx hown (mvT hZ (hw _ (List.mem_of_getElem? (i := 33) rfl))) (g := (mkF m 126 #[.val (.int p0), .val (.int p1), .val (.long p2), .second, .val (.int p3), .val (.int vm), .val (.int vv), .val (.long nv), .second, .val (.int lm), .unset, .unset, .val (.long (4294967295 : Int64)), .second, .unset, .unset] [])) rfl (hb hby at_126) _ ?_
              show Steps p.tables e below (T199.setTop (mkF m 129 #[.val (.int p0), .val (.int p1), .val (.long p2), .second, .val (.int p3), .val (.int vm), .val (.int vv), .val (.long nv), .second, .val (.int lm), .unset, .unset, .val (.long (4294967295 : Int64)), .second, .unset, .unset] [(.long (2 : Int64))])) _
              refine X199.ldc2Long hx hown (mvT hZ (hw _ (List.mem_of_getElem? (i := 36) rfl))) (g := (mkF m 129 #[.val (.int p0), .val (.int p1), .val (.long p2), .second, .val (.int p3), .val (.int vm), .val (.int vv), .val (.long nv), .second, .val (.int lm), .unset, .unset, .val (.long (4294967295 : Int64)), .second, .unset, .unset] [(.long (2 : Int64))])) rfl (hb hby at_129) _ ?_
              show Steps p.tables e below (T199.setTop (mkF m 132 #[.val (.int p0), .val (.int p1), .val (.long p2), .second, .val (.int p3), .val (.int vm), .val (.int vv), .val (.long nv), .second, .val (.int lm), .unset, .unset, .val (.long (4294967295 : Int64)), .second, .unset, .unset] [(.long (4 : Int64)), (.long (2 : Int64))])) _
              refine XS.lload X199.here hx rfl (hb hby at_132) rfl ?_
              show Steps p.tables e below (T199.setTop (mkF m 134 #[.val (.int p0), .val (.int p1), .val (.long p2), .second, .val (.int p3), .val (.int vm), .val (.int vv), .val (.long nv), .second, .val (.int lm), .unset, .unset, .val (.long (4294967295 : Int64)), .second, .unset, .unset] [(.long nv), (.long (4 : Int64)), (.long (2 : Int64))])) _
              refine XS.lmul X199.here hx rfl (hb hby at_134) rfl ?_
              show Steps p.tables e below (T199.setTop (mkF m 135 #[.val (.int p0), .val (.int p1), .val (.long p2), .second, .val (.int p3), .val (.int vm), .val (.int vv), .val (.long nv), .second, .val (.int lm), .unset, .unset, .val (.long (4294967295 : Int64)), .second, .unset, .unset] [(.long ((4 : Int64) * nv)), (.long (2 : Int64))])) _
              refine XS.ladd X199.here hx rfl (hb hby at_135) rfl ?_
              show Steps p.tables e below (T199.setTop (mkF m 136 #[.val (.int p0), .val (.int p1), .val (.long p2), .second, .val (.int p3), .val (.int vm), .val (.int vv), .val (.long nv), .second, .val (.int lm), .unset, .unset, .val (.long (4294967295 : Int64)), .second, .unset, .unset] [(.long ((2 : Int64) + ((4 : Int64) * nv)))])) _
              rw [h_tb]
              show Steps p.tables e below (T199.setTop (mkF m 136 #[.val (.int p0), .val (.int p1), .val (.long p2), .second, .val (.int p3), .val (.int vm), .val (.int vv), .val (.long nv), .second, .val (.int lm), .unset, .unset, .val (.long (4294967295 : Int64)), .second, .unset, .unset] [(.long tb)])) _
              refine XS.lstore X199.here hx rfl (hb hby at_136) rfl (l' := #[.val (.int p0), .val (.int p1), .val (.long p2), .second, .val (.int p3), .val (.int vm), .val (.int vv), .val (.long nv), .second, .val (.int lm), .unset, .unset, .val (.long (4294967295 : Int64)), .second, .val (.long tb), .second]) rfl ?_
              show Steps p.tables e below (T199.setTop (mkF m 138 #[.val (.int p0), .val (.int p1), .val (.long p2), .second, .val (.int p3), .val (.int vm), .val (.int vv), .val (.long nv), .second, .val (.int lm), .unset, .unset, .val (.long (4294967295 : Int64)), .second, .val (.long tb), .second] [])) _
              refine XS.lconst X199.here hx rfl (hb hby at_138) ?_
              show Steps p.tables e below (T199.setTop (mkF m 139 #[.val (.int p0), .val (.int p1), .val (.long p2), .second, .val (.int p3), .val (.int vm), .val (.int vv), .val (.long nv), .second, .val (.int lm), .unset, .unset, .val (.long (4294967295 : Int64)), .second, .val (.long tb), .second] [(.long (0 : Int64))])) _
              refine XS.lload X199.here hx rfl (hb hby at_139) rfl ?_
              show Steps p.tables e below (T199.setTop (mkF m 141 #[.val (.int p0), .val (.int p1), .val (.long p2), .second, .val (.int p3), .val (.int vm), .val (.int vv), .val (.long nv), .second, .val (.int lm), .unset, .unset, .val (.long (4294967295 : Int64)), .second, .val (.long tb), .second] [(.long (4294967295 : Int64)), (.long (0 : Int64))])) _
              refine XS.lload X199.here hx rfl (hb hby at_141) rfl ?_
              show Steps p.tables e below (T199.setTop (mkF m 143 #[.val (.int p0), .val (.int p1), .val (.long p2), .second, .val (.int p3), .val (.int vm), .val (.int vv), .val (.long nv), .second, .val (.int lm), .unset, .unset, .val (.long (4294967295 : Int64)), .second, .val (.long tb), .second] [(.long tb), (.long (4294967295 : Int64)), (.long (0 : Int64))])) _
              refine XS.lsub X199.here hx rfl (hb hby at_143) rfl ?_
              show Steps p.tables e below (T199.setTop (mkF m 144 #[.val (.int p0), .val (.int p1), .val (.long p2), .second, .val (.int p3), .val (.int vm), .val (.int vv), .val (.long nv), .second, .val (.int lm), .unset, .unset, .val (.long (4294967295 : Int64)), .second, .val (.long tb), .second] [(.long ((4294967295 : Int64) - tb)), (.long (0 : Int64))])) _
              refine XS.iload X199.here hx rfl (hb hby at_144) rfl ?_
              show Steps p.tables e below (T199.setTop (mkF m 146 #[.val (.int p0), .val (.int p1), .val (.long p2), .second, .val (.int p3), .val (.int vm), .val (.int vv), .val (.long nv), .second, .val (.int lm), .unset, .unset, .val (.long (4294967295 : Int64)), .second, .val (.long tb), .second] [(.int p3), (.long ((4294967295 : Int64) - tb)), (.long (0 : Int64))])) _
              refine XS.bipush X199.here hx rfl (hb hby at_146) ?_
              show Steps p.tables e below (T199.setTop (mkF m 148 #[.val (.int p0), .val (.int p1), .val (.long p2), .second, .val (.int p3), .val (.int vm), .val (.int vv), .val (.long nv), .second, .val (.int lm), .unset, .unset, .val (.long (4294967295 : Int64)), .second, .val (.long tb), .second] [(.int (8 : Int32)), (.int p3), (.long ((4294967295 : Int64) - tb)), (.long (0 : Int64))])) _
              refine Jvm.RoadKit.iremM (g := (mkF m 148 #[.val (.int p0), .val (.int p1), .val (.long p2), .second, .val (.int p3), .val (.int vm), .val (.int vv), .val (.long nv), .second, .val (.int lm), .unset, .unset, .val (.long (4294967295 : Int64)), .second, .val (.long tb), .second] [(.int (8 : Int32)), (.int p3), (.long ((4294967295 : Int64) - tb)), (.long (0 : Int64))])) X199 hx rfl (hb hby at_148) rfl (by decide) ?_
              show Steps p.tables e below (T199.setTop (mkF m 149 #[.val (.int p0), .val (.int p1), .val (.long p2), .second, .val (.int p3), .val (.int vm), .val (.int vv), .val (.long nv), .second, .val (.int lm), .unset, .unset, .val (.long (4294967295 : Int64)), .second, .val (.long tb), .second] [(.int (p3 % (8 : Int32))), (.long ((4294967295 : Int64) - tb)), (.long (0 : Int64))])) _
              refine XS.i2l X199.here hx rfl (hb hby at_149) rfl ?_
              show Steps p.tables e below (T199.setTop (mkF m 150 #[.val (.int p0), .val (.int p1), .val (.long p2), .second, .val (.int p3), .val (.int vm), .val (.int vv), .val (.long nv), .second, .val (.int lm), .unset, .unset, .val (.long (4294967295 : Int64)), .second, .val (.long tb), .second] [(.long ((p3 % (8 : Int32)).toInt64)), (.long ((4294967295 : Int64) - tb)), (.long (0 : Int64))])) _
              refine XS.ladd X199.here hx rfl (hb hby at_150) rfl ?_
              show Steps p.tables e below (T199.setTop (mkF m 151 #[.val (.int p0), .val (.int p1), .val (.long p2), .second, .val (.int p3), .val (.int vm), .val (.int vv), .val (.long nv), .second, .val (.int lm), .unset, .unset, .val (.long (4294967295 : Int64)), .second, .val (.long tb), .second] [(.long (((4294967295 : Int64) - tb) + ((p3 % (8 : Int32)).toInt64))), (.long (0 : Int64))])) _
              rw [h_xx]
              show Steps p.tables e below (T199.setTop (mkF m 151 #[.val (.int p0), .val (.int p1), .val (.long p2), .second, .val (.int p3), .val (.int vm), .val (.int vv), .val (.long nv), .second, .val (.int lm), .unset, .unset, .val (.long (4294967295 : Int64)), .second, .val (.long tb), .second] [(.long xx), (.long (0 : Int64))])) _
              refine st225 _ ?_
              show Steps p.tables e below (T225.setTop (mkF m 154 #[.val (.int p0), .val (.int p1), .val (.long p2), .second, .val (.int p3), .val (.int vm), .val (.int vv), .val (.long nv), .second, .val (.int lm), .unset, .unset, .val (.long (4294967295 : Int64)), .second, .val (.long tb), .second] [(.long (if (lcmpW (0 : Int64) xx) < (0 : Int32) then xx else (0 : Int64)))])) _
              rw [h_ls]
              show Steps p.tables e below (T225.setTop (mkF m 154 #[.val (.int p0), .val (.int p1), .val (.long p2), .second, .val (.int p3), .val (.int vm), .val (.int vv), .val (.long nv), .second, .val (.int lm), .unset, .unset, .val (.long (4294967295 : Int64)), .second, .val (.long tb), .second] [(.long ls)])) _
              refine XS.lstore X225.here hx rfl (hb hby at_154) rfl (l' := #[.val (.int p0), .val (.int p1), .val (.long p2), .second, .val (.int p3), .val (.int vm), .val (.int vv), .val (.long nv), .second, .val (.int lm), .val (.long ls), .second, .val (.long (4294967295 : Int64)), .second, .val (.long tb), .second]) rfl ?_
              show Steps p.tables e below (T225.setTop (mkF m 156 #[.val (.int p0), .val (.int p1), .val (.long p2), .second, .val (.int p3), .val (.int vm), .val (.int vv), .val (.long nv), .second, .val (.int lm), .val (.long ls), .second, .val (.long (4294967295 : Int64)), .second, .val (.long tb), .second] [])) _
              refine XS.iload X225.here hx rfl (hb hby at_156) rfl ?_
              show Steps p.tables e below (T225.setTop (mkF m 158 #[.val (.int p0), .val (.int p1), .val (.long p2), .second, .val (.int p3), .val (.int vm), .val (.int vv), .val (.long nv), .second, .val (.int lm), .val (.long ls), .second, .val (.long (4294967295 : Int64)), .second, .val (.long tb), .second] [(.int vv)])) _
              refine XS.lload X225.here hx rfl (hb hby at_158) rfl ?_
              show Steps p.tables e below (T225.setTop (mkF m 160 #[.val (.int p0), .val (.int p1), .val (.long p2), .second, .val (.int p3), .val (.int vm), .val (.int vv), .val (.long nv), .second, .val (.int lm), .val (.long ls), .second, .val (.long (4294967295 : Int64)), .second, .val (.long tb), .second] [(.long ls), (.int vv)])) _
              refine st226 _ ?_
              exact kt
            (try clear N226q); (try clear st226); (try clear Lc226); (try clear n226); (try clear k226); (try clear L226); (try clear N225); (try clear e225); (try clear N225q); (try clear st225); (try clear Lc225); (try clear X225); (try clear n225); (try clear k225); (try clear L225); (try clear T225)
            rcases own_spec_two vv.toInt ls.toInt w_NONE w_TINY w_MEDIUM w_LARGE with ⟨wq, hv228⟩ | hv229
            · -- wq
              obtain ⟨_, _, ⟨T230, L230, k230, n230⟩, -, X230, ⟨Lc230, hQ230, l230, y230, z230⟩, st230⟩ := Jvm.LawKit.callS X226 hx (y := (⟨"com/example/rowstrata/rowstrata/row/VarTableSmallestPinLaw", "expected", "(IJ)Lcom/example/rowstrata/rowstrata/row/VarTable;"⟩ : MethodName)) hown (mvT hZ (hw _ (List.mem_of_getElem? (i := 25) rfl))) (mvT hZ (hw _ (List.mem_of_getElem? (i := 26) rfl))) (mvT hZ (hw _ (List.mem_of_getElem? (i := 27) rfl))) (mvT hZ (hw _ (List.mem_of_getElem? (i := 28) rfl))) (by decide) (backOf (W := 1) (rm_exp l Z a0 hw [] vv ls h0 n0 Z0 w_TINY w_NONE w_MEDIUM w_LARGE hWd hls.1 hls.2) hZ (hw _ (List.mem_of_getElem? (i := 28) rfl)) (hw _ (List.mem_of_getElem? (i := 27) rfl)) (by decide) (by decide)) (g := (mkF m 171 #[.val (.int p0), .val (.int p1), .val (.long p2), .second, .val (.int p3), .val (.int vm), .val (.int vv), .val (.long nv), .second, .val (.int lm), .val (.long ls), .second, .val (.ref wq), .unset, .val (.long tb), .second] [(.long ls), (.int vv), (.ref wq)])) rfl (by rw [hml]; rfl) (argsL := [(.int vv), (.long ls)]) (rest := [(.ref wq)]) (lenOf pd_137 rfl) rfl (by show 2 * 0 + _ ≤ _; exact Nat.le_of_eq rfl) (hb hby at_171) (fun _ _ => ⟨rfl, e226, (by decide : 0 + 0 ≤ _), (by decide : 0 + 0 ≤ _)⟩)
              dsimp only [Pt.U, Pt.locs, Pt.cells, Pt.slots] at X230 l230 y230 z230 st230 hQ230
              subst l230 y230 z230
              obtain ⟨rfl, N230q, e230⟩ := hQ230
              have N230 := Fr.app N226 N230q
              obtain ⟨fs, hr, hrun, hended, hW, hsame⟩ := X230.leave (v := some (.int (1 : Int32))) (fun h => by rw [Bd.returns] at h; cases h)
              refine ⟨_, _, ck227 _ ?_, hrun, hended, _, _, rfl, ?_, ⟨_, rfl⟩, hW, hsame.mono (by decide) (by decide)⟩
              · show Steps p.tables e below (T226.setTop (mkF m 163 #[.val (.int p0), .val (.int p1), .val (.long p2), .second, .val (.int p3), .val (.int vm), .val (.int vv), .val (.long nv), .second, .val (.int lm), .val (.long ls), .second, .val (.long (4294967295 : Int64)), .second, .val (.long tb), .second] [(own_spec vv.toInt ls.toInt w_NONE w_TINY w_MEDIUM w_LARGE)])) _
                rw [hv228]
                show Steps p.tables e below (T226.setTop (mkF m 163 #[.val (.int p0), .val (.int p1), .val (.long p2), .second, .val (.int p3), .val (.int vm), .val (.int vv), .val (.long nv), .second, .val (.int lm), .val (.long ls), .second, .val (.long (4294967295 : Int64)), .second, .val (.long tb), .second] [(.ref wq)])) _
                refine XS.astore X226.here hx rfl (hb hby at_163) rfl rfl (l' := #[.val (.int p0), .val (.int p1), .val (.long p2), .second, .val (.int p3), .val (.int vm), .val (.int vv), .val (.long nv), .second, .val (.int lm), .val (.long ls), .second, .val (.ref wq), .unset, .val (.long tb), .second]) rfl ?_
                show Steps p.tables e below (T226.setTop (mkF m 165 #[.val (.int p0), .val (.int p1), .val (.long p2), .second, .val (.int p3), .val (.int vm), .val (.int vv), .val (.long nv), .second, .val (.int lm), .val (.long ls), .second, .val (.ref wq), .unset, .val (.long tb), .second] [])) _
                refine XS.aload X226.here hx rfl (hb hby at_165) rfl rfl ?_
                show Steps p.tables e below (T226.setTop (mkF m 167 #[.val (.int p0), .val (.int p1), .val (.long p2), .second, .val (.int p3), .val (.int vm), .val (.int vv), .val (.long nv), .second, .val (.int lm), .val (.long ls), .second, .val (.ref wq), .unset, .val (.long tb), .second] [(.ref wq)])) _
                refine XS.iload X226.here hx rfl (hb hby at_167) rfl ?_
                show Steps p.tables e below (T226.setTop (mkF m 169 #[.val (.int p0), .val (.int p1), .val (.long p2), .second, .val (.int p3), .val (.int vm), .val (.int vv), .val (.long nv), .second, .val (.int lm), .val (.long ls), .second, .val (.ref wq), .unset, .val (.long tb), .second] [(.int vv), (.ref wq)])) _
                refine XS.lload X226.here hx rfl (hb hby at_169) rfl ?_
                show Steps p.tables e below (T226.setTop (mkF m 171 #[.val (.int p0), .val (.int p1), .val (.long p2), .second, .val (.int p3), .val (.int vm), .val (.int vv), .val (.long nv), .second, .val (.int lm), .val (.long ls), .second, .val (.ref wq), .unset, .val (.long tb), .second] [(.long ls), (.int vv), (.ref wq)])) _
                refine st230 _ ?_
                show Steps p.tables e below (T230.setTop (mkF m 174 #[.val (.int p0), .val (.int p1), .val (.long p2), .second, .val (.int p3), .val (.int vm), .val (.int vv), .val (.long nv), .second, .val (.int lm), .val (.long ls), .second, .val (.ref wq), .unset, .val (.long tb), .second] [(own_spec vv.toInt ls.toInt w_NONE w_TINY w_MEDIUM w_LARGE), (.ref wq)])) _
                rw [hv228]
                show Steps p.tables e below (T230.setTop (mkF m 174 #[.val (.int p0), .val (.int p1), .val (.long p2), .second, .val (.int p3), .val (.int vm), .val (.int vv), .val (.long nv), .second, .val (.int lm), .val (.long ls), .second, .val (.ref wq), .unset, .val (.long tb), .second] [(.ref wq), (.ref wq)])) _
                refine Jvm.RoadKit.acmp (g := (mkF m 174 #[.val (.int p0), .val (.int p1), .val (.long p2), .second, .val (.int p3), .val (.int vm), .val (.int vv), .val (.long nv), .second, .val (.int lm), .val (.long ls), .second, .val (.ref wq), .unset, .val (.long tb), .second] [(.ref wq), (.ref wq)])) X230 hx rfl rfl rfl (pc0 := 174) (pc' := 177) (same := true) rfl (hb hby at_174) rfl (decide_eq_true rfl) (by decide) (by decide) ?_
                show Steps p.tables e below (T230.setTop (mkF m 177 #[.val (.int p0), .val (.int p1), .val (.long p2), .second, .val (.int p3), .val (.int vm), .val (.int vv), .val (.long nv), .second, .val (.int lm), .val (.long ls), .second, .val (.ref wq), .unset, .val (.long tb), .second] [])) _
                refine XS.iconst X230.here hx rfl (hb hby at_177) ?_
                show Steps p.tables e below (T230.setTop (mkF m 178 #[.val (.int p0), .val (.int p1), .val (.long p2), .second, .val (.int p3), .val (.int vm), .val (.int vv), .val (.long nv), .second, .val (.int lm), .val (.long ls), .second, .val (.ref wq), .unset, .val (.long tb), .second] [(.int (1 : Int32))])) _
                refine XS.goto X230.here hx rfl (pc0 := 178) (pc' := 182) rfl (hb hby at_178) (by decide) (by decide) ?_
                show Steps p.tables e below (T230.setTop (mkF m 182 #[.val (.int p0), .val (.int p1), .val (.long p2), .second, .val (.int p3), .val (.int vm), .val (.int vv), .val (.long nv), .second, .val (.int lm), .val (.long ls), .second, .val (.ref wq), .unset, .val (.long tb), .second] [(.int (1 : Int32))])) _
                exact retN X230 hx (t := .boolean) Bd.returns (by simp) (hb hby at_182) hr
              · show own_Pure (some (.int 1)) h0 n0 _ T230.heap _
                rw [e230]
                exact ⟨rfl, N230, rfl⟩
            · -- null
              obtain ⟨_, _, ⟨T231, L231, k231, n231⟩, -, X231, ⟨Lc231, hQ231, l231, y231, z231⟩, st231⟩ := Jvm.LawKit.callS X226 hx (y := (⟨"com/example/rowstrata/rowstrata/row/VarTableSmallestPinLaw", "expected", "(IJ)Lcom/example/rowstrata/rowstrata/row/VarTable;"⟩ : MethodName)) hown (mvT hZ (hw _ (List.mem_of_getElem? (i := 25) rfl))) (mvT hZ (hw _ (List.mem_of_getElem? (i := 26) rfl))) (mvT hZ (hw _ (List.mem_of_getElem? (i := 27) rfl))) (mvT hZ (hw _ (List.mem_of_getElem? (i := 28) rfl))) (by decide) (backOf (W := 1) (rm_exp l Z a0 hw [] vv ls h0 n0 Z0 w_TINY w_NONE w_MEDIUM w_LARGE hWd hls.1 hls.2) hZ (hw _ (List.mem_of_getElem? (i := 28) rfl)) (hw _ (List.mem_of_getElem? (i := 27) rfl)) (by decide) (by decide)) (g := (mkF m 171 #[.val (.int p0), .val (.int p1), .val (.long p2), .second, .val (.int p3), .val (.int vm), .val (.int vv), .val (.long nv), .second, .val (.int lm), .val (.long ls), .second, .val .null, .unset, .val (.long tb), .second] [(.long ls), (.int vv), .null])) rfl (by rw [hml]; rfl) (argsL := [(.int vv), (.long ls)]) (rest := [.null]) (lenOf pd_137 rfl) rfl (by show 2 * 0 + _ ≤ _; exact Nat.le_of_eq rfl) (hb hby at_171) (fun _ _ => ⟨rfl, e226, (by decide : 0 + 0 ≤ _), (by decide : 0 + 0 ≤ _)⟩)
              dsimp only [Pt.U, Pt.locs, Pt.cells, Pt.slots] at X231 l231 y231 z231 st231 hQ231
              subst l231 y231 z231
              obtain ⟨rfl, N231q, e231⟩ := hQ231
              have N231 := Fr.app N226 N231q
              obtain ⟨fs, hr, hrun, hended, hW, hsame⟩ := X231.leave (v := some (.int (1 : Int32))) (fun h => by rw [Bd.returns] at h; cases h)
              refine ⟨_, _, ck227 _ ?_, hrun, hended, _, _, rfl, ?_, ⟨_, rfl⟩, hW, hsame.mono (by decide) (by decide)⟩
              · show Steps p.tables e below (T226.setTop (mkF m 163 #[.val (.int p0), .val (.int p1), .val (.long p2), .second, .val (.int p3), .val (.int vm), .val (.int vv), .val (.long nv), .second, .val (.int lm), .val (.long ls), .second, .val (.long (4294967295 : Int64)), .second, .val (.long tb), .second] [(own_spec vv.toInt ls.toInt w_NONE w_TINY w_MEDIUM w_LARGE)])) _
                rw [hv229]
                show Steps p.tables e below (T226.setTop (mkF m 163 #[.val (.int p0), .val (.int p1), .val (.long p2), .second, .val (.int p3), .val (.int vm), .val (.int vv), .val (.long nv), .second, .val (.int lm), .val (.long ls), .second, .val (.long (4294967295 : Int64)), .second, .val (.long tb), .second] [.null])) _
                refine XS.astore X226.here hx rfl (hb hby at_163) rfl rfl (l' := #[.val (.int p0), .val (.int p1), .val (.long p2), .second, .val (.int p3), .val (.int vm), .val (.int vv), .val (.long nv), .second, .val (.int lm), .val (.long ls), .second, .val .null, .unset, .val (.long tb), .second]) rfl ?_
                show Steps p.tables e below (T226.setTop (mkF m 165 #[.val (.int p0), .val (.int p1), .val (.long p2), .second, .val (.int p3), .val (.int vm), .val (.int vv), .val (.long nv), .second, .val (.int lm), .val (.long ls), .second, .val .null, .unset, .val (.long tb), .second] [])) _
                refine XS.aload X226.here hx rfl (hb hby at_165) rfl rfl ?_
                show Steps p.tables e below (T226.setTop (mkF m 167 #[.val (.int p0), .val (.int p1), .val (.long p2), .second, .val (.int p3), .val (.int vm), .val (.int vv), .val (.long nv), .second, .val (.int lm), .val (.long ls), .second, .val .null, .unset, .val (.long tb), .second] [.null])) _
                refine XS.iload X226.here hx rfl (hb hby at_167) rfl ?_
                show Steps p.tables e below (T226.setTop (mkF m 169 #[.val (.int p0), .val (.int p1), .val (.long p2), .second, .val (.int p3), .val (.int vm), .val (.int vv), .val (.long nv), .second, .val (.int lm), .val (.long ls), .second, .val .null, .unset, .val (.long tb), .second] [(.int vv), .null])) _
                refine XS.lload X226.here hx rfl (hb hby at_169) rfl ?_
                show Steps p.tables e below (T226.setTop (mkF m 171 #[.val (.int p0), .val (.int p1), .val (.long p2), .second, .val (.int p3), .val (.int vm), .val (.int vv), .val (.long nv), .second, .val (.int lm), .val (.long ls), .second, .val .null, .unset, .val (.long tb), .second] [(.long ls), (.int vv), .null])) _
                refine st231 _ ?_
                show Steps p.tables e below (T231.setTop (mkF m 174 #[.val (.int p0), .val (.int p1), .val (.long p2), .second, .val (.int p3), .val (.int vm), .val (.int vv), .val (.long nv), .second, .val (.int lm), .val (.long ls), .second, .val .null, .unset, .val (.long tb), .second] [(own_spec vv.toInt ls.toInt w_NONE w_TINY w_MEDIUM w_LARGE), .null])) _
                rw [hv229]
                show Steps p.tables e below (T231.setTop (mkF m 174 #[.val (.int p0), .val (.int p1), .val (.long p2), .second, .val (.int p3), .val (.int vm), .val (.int vv), .val (.long nv), .second, .val (.int lm), .val (.long ls), .second, .val .null, .unset, .val (.long tb), .second] [.null, .null])) _
                refine Jvm.RoadKit.acmp (g := (mkF m 174 #[.val (.int p0), .val (.int p1), .val (.long p2), .second, .val (.int p3), .val (.int vm), .val (.int vv), .val (.long nv), .second, .val (.int lm), .val (.long ls), .second, .val .null, .unset, .val (.long tb), .second] [.null, .null])) X231 hx rfl rfl rfl (pc0 := 174) (pc' := 177) (same := true) rfl (hb hby at_174) rfl (decide_eq_true rfl) (by decide) (by decide) ?_
                show Steps p.tables e below (T231.setTop (mkF m 177 #[.val (.int p0), .val (.int p1), .val (.long p2), .second, .val (.int p3), .val (.int vm), .val (.int vv), .val (.long nv), .second, .val (.int lm), .val (.long ls), .second, .val .null, .unset, .val (.long tb), .second] [])) _
                refine XS.iconst X231.here hx rfl (hb hby at_177) ?_
                show Steps p.tables e below (T231.setTop (mkF m 178 #[.val (.int p0), .val (.int p1), .val (.long p2), .second, .val (.int p3), .val (.int vm), .val (.int vv), .val (.long nv), .second, .val (.int lm), .val (.long ls), .second, .val .null, .unset, .val (.long tb), .second] [(.int (1 : Int32))])) _
                refine XS.goto X231.here hx rfl (pc0 := 178) (pc' := 182) rfl (hb hby at_178) (by decide) (by decide) ?_
                show Steps p.tables e below (T231.setTop (mkF m 182 #[.val (.int p0), .val (.int p1), .val (.long p2), .second, .val (.int p3), .val (.int vm), .val (.int vv), .val (.long nv), .second, .val (.int lm), .val (.long ls), .second, .val .null, .unset, .val (.long tb), .second] [(.int (1 : Int32))])) _
                exact retN X231 hx (t := .boolean) Bd.returns (by simp) (hb hby at_182) hr
              · show own_Pure (some (.int 1)) h0 n0 _ T231.heap _
                rw [e231]
                exact ⟨rfl, N231, rfl⟩
set_option maxRecDepth 65536 in
set_option maxHeartbeats 40000000 in
theorem comes_1 {Post : Tables → Env → Array Value → State → Outcome → State → Prop} (hpost : ∀ tb e args s v u, (limb_1_1.after args s (.returned v) u = true ∧ limb_1_2.after args s (.returned v) u = true ∧ True) → FrameEnd s (.returned v) u (Jvm.fieldLocs frame_1_writes args s ++ Jvm.arrayLocs frame_1_arrays args s ++ Jvm.staticLocs frame_1_statics s) 0 0 → Post tb e args s (.returned v) u) :
    ArmFor flags0 classFile x code maxLocals ret World_1 tables_1 room_1 Calls_1 rest_1 Pre_1 Post := by
  intro l hfl _ _ p e ha hc hk s m args below hf hA hF happ hP
  obtain ⟨hcalls, hrest, hpre⟩ := hP
  obtain ⟨-, -, -, hnamed, -, -, -, hat⟩ := (Spec.applies_iff hf).mp happ
  obtain ⟨hg, hn⟩ := and_e (Cond.before_iff.mp (show (Jvm.Cond.and given_1 narrow_1).before args s = true from hpre))
  obtain ⟨gg0, hh0⟩ := and_e hg
  obtain ⟨gg1, hh1⟩ := and_e hh0
  obtain ⟨gg2, hh2⟩ := and_e hh1
  obtain ⟨gg3, hh3⟩ := and_e hh2
  obtain ⟨w0, w1, w2, w3, rfl⟩ : ∃ w0 w1 w2 w3 : Value, args = #[w0, w1, w2, w3] := by
    have hs : args.size = 4 := by simpa [Cond.value, given_1] using gg0
    obtain ⟨L⟩ := args
    match L, hs with
    | [w0, w1, w2, w3], _ => exact ⟨w0, w1, w2, w3, rfl⟩
  have hw := fun d (hd : d ∈ tables_1) => atoms_spec (ws := Jvm.Cond.code x code maxLocals ret :: tables_1) hat d (List.mem_cons_of_mem _ hd)
  have hfit : Fit s := fun {y c} hc i hi => by
    obtain ⟨ha, rfl⟩ := Array.getElem?_eq_some_iff.mp hc
    have q := List.all_eq_true.mp ((Array.all_eq_true_iff_forall_mem.mp hF) _ (Array.getElem_mem ha)) i (List.mem_range.mpr hi)
    simpa [Array.getElem?_eq_getElem hi] using q
  obtain ⟨i0, ei0⟩ := is_v gg1
  obtain rfl : w0 = (.int i0) := Option.some.inj ei0
  obtain ⟨i1, ei1⟩ := is_v gg2
  obtain rfl : w1 = (.int i1) := Option.some.inj ei1
  obtain ⟨i2, ei2⟩ := isL_v gg3
  obtain rfl : w2 = (.long i2) := Option.some.inj ei2
  obtain ⟨i3, ei3⟩ := is_v hh3
  obtain rfl : w3 = (.int i3) := Option.some.inj ei3
  obtain ⟨g1, g2⟩ := and_e hn
  obtain ⟨g3, g4⟩ := and_e g2
  obtain ⟨g5, g6⟩ := and_e g4
  obtain ⟨g7, g8⟩ := and_e g6
  obtain ⟨g9, g10⟩ := and_e g8
  obtain ⟨g11, g12⟩ := and_e g10
  obtain ⟨g13, g14⟩ := and_e g12
  obtain ⟨g15, g16⟩ := and_e g14
  obtain ⟨g17, g18⟩ := and_e g16
  obtain ⟨g19, g20⟩ := and_e g18
  obtain ⟨g21, g22⟩ := and_e g20
  obtain ⟨g23, g24⟩ := and_e g22
  obtain ⟨g25, g26⟩ := and_e g24
  obtain ⟨g27, g28⟩ := and_e g26
  obtain ⟨g29, g30⟩ := and_e g28
  obtain ⟨g31, g32⟩ := and_e g30
  obtain ⟨g33, g34⟩ := and_e g32
  obtain ⟨g35, g36⟩ := and_e g34
  obtain ⟨g37, g38⟩ := and_e g36
  obtain ⟨g39, g40⟩ := and_e g38
  obtain ⟨w_TINY, ev_TINY⟩ := exa_v g5
  have E_TINY := Exa.start ev_TINY g5
  have S_TINY := Sta.start ev_TINY (Or.inr ⟨hw _ (List.mem_of_getElem? (i := 6) rfl), hw _ (List.mem_of_getElem? (i := 10) rfl)⟩)
  have F_TINY_countBytes := own_fld_eq ev_TINY g9
  have F_TINY_ordinal := own_fld_eq ev_TINY g13
  have F_TINY_offsetBytes := own_fld_eq ev_TINY g17
  obtain ⟨w_NONE, ev_NONE⟩ := exa_v g11
  have E_NONE := Exa.start ev_NONE g11
  have S_NONE := Sta.start ev_NONE (Or.inr ⟨hw _ (List.mem_of_getElem? (i := 6) rfl), hw _ (List.mem_of_getElem? (i := 22) rfl)⟩)
  have F_NONE_ordinal := own_fld_eq ev_NONE g15
  have F_NONE_countBytes := own_fld_eq ev_NONE g39
  have F_NONE_offsetBytes := own_fld_eq ev_NONE g40
  obtain ⟨w_MEDIUM, ev_MEDIUM⟩ := exa_v g19
  have E_MEDIUM := Exa.start ev_MEDIUM g19
  have S_MEDIUM := Sta.start ev_MEDIUM (Or.inr ⟨hw _ (List.mem_of_getElem? (i := 6) rfl), hw _ (List.mem_of_getElem? (i := 34) rfl)⟩)
  have F_MEDIUM_countBytes := own_fld_eq ev_MEDIUM g23
  have F_MEDIUM_ordinal := own_fld_eq ev_MEDIUM g25
  have F_MEDIUM_offsetBytes := own_fld_eq ev_MEDIUM g27
  obtain ⟨w_LARGE, ev_LARGE⟩ := exa_v g29
  have E_LARGE := Exa.start ev_LARGE g29
  have S_LARGE := Sta.start ev_LARGE (Or.inr ⟨hw _ (List.mem_of_getElem? (i := 6) rfl), hw _ (List.mem_of_getElem? (i := 35) rfl)⟩)
  have F_LARGE_countBytes := own_fld_eq ev_LARGE g33
  have F_LARGE_ordinal := own_fld_eq ev_LARGE g35
  have F_LARGE_offsetBytes := own_fld_eq ev_LARGE g37
  have hW0 : own_W s s.heap w_TINY w_NONE w_MEDIUM w_LARGE := ⟨S_TINY, E_TINY, F_TINY_countBytes, F_TINY_ordinal, F_TINY_offsetBytes, S_NONE, E_NONE, F_NONE_ordinal, F_NONE_countBytes, F_NONE_offsetBytes, S_MEDIUM, E_MEDIUM, F_MEDIUM_countBytes, F_MEDIUM_ordinal, F_MEDIUM_offsetBytes, S_LARGE, E_LARGE, F_LARGE_countBytes, F_LARGE_ordinal, F_LARGE_offsetBytes⟩
  obtain ⟨w_WT, ev_WT⟩ := arr_v g1
  obtain ⟨cl, A1⟩ := Arr.start ev_WT g1
  have S_WT := Sta.start ev_WT (Or.inr ⟨hw _ (List.mem_of_getElem? (i := 6) rfl), hw _ (List.mem_of_getElem? (i := 9) rfl)⟩)
  have A_WT : Arv s s.heap w_WT cl.cls (.object "com/example/rowstrata/rowstrata/row/VarTable") (3 : Int32) [(.ref w_TINY), (.ref w_MEDIUM), (.ref w_LARGE)] .null := own_arvL hfit ev_WT A1 g3 (by decide) rfl ⟨own_elem ev_WT A1 ev_TINY g7, own_elem ev_WT A1 ev_MEDIUM g21, own_elem ev_WT A1 ev_LARGE g31, trivial⟩
  obtain ⟨n, o, h1, h2, h3, _, L, rfl, hQ0, hq⟩ := rm_law l s _ hw tables_1 i0 i1 i2 i3 s.heap s.heap.size (Nat.le_refl _) w_TINY w_NONE w_MEDIUM w_LARGE hW0 w_WT _ S_WT A_WT p e ha hc hk s m _ below hf ((Spec.applies_iff_loose hf).mp happ).1 ⟨rfl, State.Warmed39.refl s, rfl⟩ trivial
  have N := hQ0.2.1
  obtain rfl := hQ0.1
  refine ⟨n, _, h1, h2, h3, hpost _ _ _ _ _ _ ⟨Cond.after_iff.mpr rfl, Cond.after_iff.mpr (eq_i res_at (Term.int_eval (1)) rfl), trivial⟩ ⟨hq.1, hq.2.1, (hq.2.2.sift fun y hy => Or.inr (N y hy)).mono (by decide) (by decide)⟩⟩
theorem main_1_1 : Claimed_1_1 := comes_1 fun _ _ _ _ _ _ h hF => ⟨h.1, hF⟩
theorem main_1_2 : Claimed_1_2 := comes_1 fun _ _ _ _ _ _ h hF => ⟨h.2.1, hF⟩
end Jvm.Pilot.@@N@@
namespace Jvm.Pilot.@@N@@
open Jvm Jvm.ClassFile Sem Op Lib Jvm.Free Jvm.Stand Jvm.Pilot.@@N@@.Jvm.D
/-! MADE BY PROGRAM (witnessworld.py) out of the Statement's table words and the real class files: 14 classes; the members and pool entries that the words name. The judged class is class 1, her method 1. -/
namespace start1
open Jvm.ClassFile
def u (s : String) : CpInfo := .utf8 (stringToUtf16 s)
/-- a pool by its gaps: so many unusable entries, then the entry; so many at the end -/
def gap : Nat → List CpInfo → List CpInfo
  | 0, r => r
  | n + 1, r => .unusable :: gap n r
def poolList (es : List (Nat × CpInfo)) (last : Nat) : List CpInfo := es.foldr (fun e r => gap e.1 (e.2 :: r)) (gap last [])
def pool (es : List (Nat × CpInfo)) (last : Nat) : Array CpInfo := ⟨poolList es last⟩
def fileOf (pool : Array CpInfo) (this : Nat) (attrs : Array Attribute := #[]) (ms : Array MethodInfo := #[]) (fl : Nat := 33) (sup : Nat := 0) (ifs : Array Nat := #[]) (fds : Array FieldInfo := #[]) : ClassFile where
  minorVersion := 0
  majorVersion := 65
  constantPool := pool
  accessFlags := fl
  thisClass := this
  superClass := sup
  interfaces := ifs
  fields := fds
  methods := ms
  attributes := attrs
def plain (name : String) (sup : Option ClassId) : Class where
  name := name
  kind := .ordinary
  loader := none
  accessFlags := 33
  super := sup
  interfaces := #[]
  cf := none
  fields := #[]
  methods := #[]
  instanceTypes := #[]
  staticTypes := #[]
  resolved := #[]
  callSites := []
  init := .initialized
  statics := none
  mirror := none

def pool0 : Array CpInfo := pool [(5, u "<init>"), (0, u "()V"), (1, .class_ 10), (1, u "java/lang/Object")] 113

def k0m0 : Method := { name := "<init>", desc := "()V", sig := { parameters := [], returnType := none }, accessFlags := 1, code := none }
/-- java/lang/Object -/
def k0 : Class := { plain "java/lang/Object" none with
  accessFlags := 33
  interfaces := #[]
  cf := some (fileOf pool0 8 #[] #[{ accessFlags := 1, nameIndex := 5, descriptorIndex := 6, attributes := #[] }] 33 0 #[] #[])
  fields := #[]
  methods := #[k0m0]
  instanceTypes := #[]
  staticTypes := #[]
  resolved := Array.replicate 124 none
  statics := none }

def pool1 : Array CpInfo := pool [(2, .class_ 4), (1, u "java/lang/Object"), (0, u "<init>"), (0, u "()V"), (0, .integer 131071), (0, .methodref 9 10), (0, .class_ 11), (0, .nameAndType 12 13), (0, u "java/lang/Math"), (0, u "max"), (0, u "(JJ)J"), (0, .long 255), (1, .long 65535), (1, .long 4294967295), (1, .long 2), (1, .long 4), (1, .methodref 25 26), (0, .class_ 27), (0, .nameAndType 28 29), (0, u "com/example/rowstrata/rowstrata/row/VarTable"), (0, u "smallest"), (0, u "(IJ)Lcom/example/rowstrata/rowstrata/row/VarTable;"), (0, .methodref 31 32), (0, .class_ 33), (0, .nameAndType 34 29), (0, u "com/example/rowstrata/rowstrata/row/VarTableSmallestPinLaw"), (0, u "expected"), (0, .fieldref 25 36), (0, .nameAndType 37 38), (0, u "NONE"), (0, u "Lcom/example/rowstrata/rowstrata/row/VarTable;"), (0, .fieldref 25 40), (0, .nameAndType 41 38), (0, u "TINY"), (0, .fieldref 25 43), (0, .nameAndType 44 38), (0, u "MEDIUM"), (0, .fieldref 25 46), (0, .nameAndType 47 38), (0, u "LARGE"), (2, u "law"), (0, u "(IIJI)Z")] 3

def k1m0 : Method := { name := "<init>", desc := "()V", sig := { parameters := [], returnType := none }, accessFlags := 2, code := none }
def k1c1 : Code := { maxStack := 6, maxLocals := 16, code := code, exceptionTable := #[], attributes := #[] }
def k1m1 : Method := { name := "law", desc := "(IIJI)Z", sig := { parameters := [.int, .int, .long, .int], returnType := some .boolean }, accessFlags := 9, code := some k1c1 }
def k1c2 : Code := { maxStack := 6, maxLocals := 5, code := method_3_code, exceptionTable := #[], attributes := #[] }
def k1m2 : Method := { name := "expected", desc := "(IJ)Lcom/example/rowstrata/rowstrata/row/VarTable;", sig := { parameters := [.int, .long], returnType := some (.object "com/example/rowstrata/rowstrata/row/VarTable") }, accessFlags := 10, code := some k1c2 }
/-- com/example/rowstrata/rowstrata/row/VarTableSmallestPinLaw -/
def k1 : Class := { plain "com/example/rowstrata/rowstrata/row/VarTableSmallestPinLaw" (some 0) with
  accessFlags := 49
  interfaces := #[]
  cf := some (fileOf pool1 31 #[] #[{ accessFlags := 2, nameIndex := 5, descriptorIndex := 6, attributes := #[] }, { accessFlags := 9, nameIndex := 50, descriptorIndex := 51, attributes := #[] }, { accessFlags := 10, nameIndex := 34, descriptorIndex := 29, attributes := #[] }] 49 2 #[] #[])
  fields := #[]
  methods := #[k1m0, k1m1, k1m2]
  instanceTypes := #[]
  staticTypes := #[]
  resolved := Array.replicate 55 none
  statics := none }

def pool2 : Array CpInfo := pool [(1, .class_ 2), (0, u "java/lang/Math"), (1, .class_ 6), (1, u "java/lang/Object"), (0, u "<init>"), (0, u "()V"), (89, .class_ 100), (1, u "java/lang/Math$RandomNumberGeneratorHolder"), (20, u "(JJ)J"), (50, u "negativeZeroFloatBits"), (0, u "J"), (2, u "negativeZeroDoubleBits"), (21, u "max"), (46, u "$assertionsDisabled"), (0, u "Z"), (91, u "twoToTheDoubleScaleDown"), (0, u "D"), (4, u "twoToTheDoubleScaleUp"), (9, u "E"), (3, u "PI"), (2, u "TAU"), (2, u "DEGREES_TO_RADIANS"), (0, u "RADIANS_TO_DEGREES")] 94

def k2m0 : Method := { name := "<init>", desc := "()V", sig := { parameters := [], returnType := none }, accessFlags := 2, code := none }
def k2c1 : Code := { maxStack := 4, maxLocals := 4, code := jdk_29_method_66_code, exceptionTable := #[], attributes := #[] }
def k2m1 : Method := { name := "max", desc := "(JJ)J", sig := { parameters := [.long, .long], returnType := some .long }, accessFlags := 9, code := some k2c1 }
/-- java/lang/Math -/
def k2 : Class := { plain "java/lang/Math" (some 0) with
  accessFlags := 49
  interfaces := #[]
  cf := some (fileOf pool2 1 #[.nestMembers #[98]] #[{ accessFlags := 2, nameIndex := 7, descriptorIndex := 8, attributes := #[] }, { accessFlags := 9, nameIndex := 198, descriptorIndex := 121, attributes := #[] }] 49 4 #[] #[{ accessFlags := 25, nameIndex := 354, descriptorIndex := 339, attributes := #[] }, { accessFlags := 25, nameIndex := 358, descriptorIndex := 339, attributes := #[] }, { accessFlags := 25, nameIndex := 361, descriptorIndex := 339, attributes := #[] }, { accessFlags := 26, nameIndex := 364, descriptorIndex := 339, attributes := #[] }, { accessFlags := 26, nameIndex := 365, descriptorIndex := 339, attributes := #[] }, { accessFlags := 26, nameIndex := 172, descriptorIndex := 173, attributes := #[] }, { accessFlags := 26, nameIndex := 176, descriptorIndex := 173, attributes := #[] }, { accessFlags := 8, nameIndex := 344, descriptorIndex := 339, attributes := #[] }, { accessFlags := 8, nameIndex := 338, descriptorIndex := 339, attributes := #[] }, { accessFlags := 4120, nameIndex := 245, descriptorIndex := 246, attributes := #[] }])
  fields := #[{ name := "E", type := .double, accessFlags := 25, slot := 0, constantValue := 0 }, { name := "PI", type := .double, accessFlags := 25, slot := 1, constantValue := 0 }, { name := "TAU", type := .double, accessFlags := 25, slot := 2, constantValue := 0 }, { name := "DEGREES_TO_RADIANS", type := .double, accessFlags := 26, slot := 3, constantValue := 0 }, { name := "RADIANS_TO_DEGREES", type := .double, accessFlags := 26, slot := 4, constantValue := 0 }, { name := "negativeZeroFloatBits", type := .long, accessFlags := 26, slot := 5, constantValue := 0 }, { name := "negativeZeroDoubleBits", type := .long, accessFlags := 26, slot := 6, constantValue := 0 }, { name := "twoToTheDoubleScaleUp", type := .double, accessFlags := 8, slot := 7, constantValue := 0 }, { name := "twoToTheDoubleScaleDown", type := .double, accessFlags := 8, slot := 8, constantValue := 0 }, { name := "$assertionsDisabled", type := .boolean, accessFlags := 4120, slot := 9, constantValue := 0 }]
  methods := #[k2m0, k2m1]
  instanceTypes := #[]
  staticTypes := #[.double, .double, .double, .double, .double, .long, .long, .double, .double, .boolean]
  resolved := Array.replicate 460 none
  statics := none }

def pool3 : Array CpInfo := pool [(1, .class_ 2), (0, u "java/lang/constant/Constable"), (0, .class_ 4), (0, u "java/lang/Object")] 6

/-- java/lang/constant/Constable -/
def k3 : Class := { plain "java/lang/constant/Constable" (some 0) with
  accessFlags := 1537
  interfaces := #[]
  cf := some (fileOf pool3 1 #[] #[] 1537 3 #[] #[])
  fields := #[]
  methods := #[]
  instanceTypes := #[]
  staticTypes := #[]
  resolved := Array.replicate 11 none
  statics := none }

def pool4 : Array CpInfo := pool [(1, .class_ 2), (0, u "java/lang/Comparable"), (0, .class_ 4), (0, u "java/lang/Object")] 7

/-- java/lang/Comparable -/
def k4 : Class := { plain "java/lang/Comparable" (some 0) with
  accessFlags := 1537
  interfaces := #[]
  cf := some (fileOf pool4 1 #[] #[] 1537 3 #[] #[])
  fields := #[]
  methods := #[]
  instanceTypes := #[]
  staticTypes := #[]
  resolved := Array.replicate 12 none
  statics := none }

def pool5 : Array CpInfo := pool [(1, .class_ 2), (0, u "java/io/Serializable"), (0, .class_ 4), (0, u "java/lang/Object")] 2

/-- java/io/Serializable -/
def k5 : Class := { plain "java/io/Serializable" (some 0) with
  accessFlags := 1537
  interfaces := #[]
  cf := some (fileOf pool5 1 #[] #[] 1537 3 #[] #[])
  fields := #[]
  methods := #[]
  instanceTypes := #[]
  staticTypes := #[]
  resolved := Array.replicate 7 none
  statics := none }

def pool6 : Array CpInfo := pool [(2, .class_ 4), (1, u "java/lang/Enum"), (0, u "name"), (0, u "Ljava/lang/String;"), (2, u "ordinal"), (0, u "I"), (1, .class_ 14), (1, u "java/lang/Object"), (4, u "hash"), (86, .class_ 108), (1, u "java/lang/Enum$EnumDesc"), (2, .class_ 112), (0, u "java/lang/constant/Constable"), (0, .class_ 114), (0, u "java/lang/Comparable"), (0, .class_ 116), (0, u "java/io/Serializable")] 87

/-- java/lang/Enum -/
def k6 : Class := { plain "java/lang/Enum" (some 0) with
  accessFlags := 1057
  interfaces := #[3, 4, 5]
  cf := some (fileOf pool6 2 #[.nestMembers #[106]] #[] 1057 12 #[111, 113, 115] #[{ accessFlags := 18, nameIndex := 5, descriptorIndex := 6, attributes := #[] }, { accessFlags := 18, nameIndex := 9, descriptorIndex := 10, attributes := #[] }, { accessFlags := 2, nameIndex := 19, descriptorIndex := 10, attributes := #[] }])
  fields := #[{ name := "name", type := (.object "java/lang/String"), accessFlags := 18, slot := 0, constantValue := 0 }, { name := "ordinal", type := .int, accessFlags := 18, slot := 1, constantValue := 0 }, { name := "hash", type := .int, accessFlags := 2, slot := 2, constantValue := 0 }]
  methods := #[]
  instanceTypes := #[(.object "java/lang/String"), .int, .int]
  staticTypes := #[]
  resolved := Array.replicate 204 none
  statics := none }

def pool7 : Array CpInfo := pool [(1, .class_ 2), (0, u "com/example/rowstrata/rowstrata/row/VarTable"), (0, .fieldref 1 4), (0, .nameAndType 5 6), (0, u "NONE"), (0, u "Lcom/example/rowstrata/rowstrata/row/VarTable;"), (2, u "TINY"), (2, u "MEDIUM"), (2, u "LARGE"), (2, u "$VALUES"), (0, u "[Lcom/example/rowstrata/rowstrata/row/VarTable;"), (6, .class_ 28), (1, u "java/lang/Enum"), (6, .fieldref 1 36), (0, .nameAndType 37 38), (0, u "countBytes"), (0, u "I"), (0, .fieldref 1 40), (0, .nameAndType 41 38), (0, u "offsetBytes"), (2, u "BY_CODE"), (0, .fieldref 1 46), (0, .nameAndType 47 19), (0, u "WITH_TABLE"), (0, .methodref 1 49), (0, .nameAndType 50 51), (0, u "max"), (0, u "(I)J"), (0, .methodref 1 53), (0, .nameAndType 54 55), (0, u "size"), (0, u "(I)I"), (39, u "smallest"), (0, u "(IJ)Lcom/example/rowstrata/rowstrata/row/VarTable;")] 14

def k7c0 : Code := { maxStack := 4, maxLocals := 7, code := prog_15_method_5_code, exceptionTable := #[], attributes := #[] }
def k7m0 : Method := { name := "smallest", desc := "(IJ)Lcom/example/rowstrata/rowstrata/row/VarTable;", sig := { parameters := [.int, .long], returnType := some (.object "com/example/rowstrata/rowstrata/row/VarTable") }, accessFlags := 8, code := some k7c0 }
def k7c1 : Code := { maxStack := 3, maxLocals := 2, code := prog_15_method_7_code, exceptionTable := #[], attributes := #[] }
def k7m1 : Method := { name := "size", desc := "(I)I", sig := { parameters := [.int], returnType := some .int }, accessFlags := 0, code := some k7c1 }
def k7c2 : Code := { maxStack := 4, maxLocals := 1, code := prog_15_method_12_code, exceptionTable := #[], attributes := #[] }
def k7m2 : Method := { name := "max", desc := "(I)J", sig := { parameters := [.int], returnType := some .long }, accessFlags := 10, code := some k7c2 }
/-- com/example/rowstrata/rowstrata/row/VarTable -/
def k7 : Class := { plain "com/example/rowstrata/rowstrata/row/VarTable" (some 6) with
  accessFlags := 16432
  interfaces := #[]
  cf := some (fileOf pool7 1 #[] #[{ accessFlags := 8, nameIndex := 95, descriptorIndex := 96, attributes := #[] }, { accessFlags := 0, nameIndex := 54, descriptorIndex := 55, attributes := #[] }, { accessFlags := 10, nameIndex := 50, descriptorIndex := 51, attributes := #[] }] 16432 26 #[] #[{ accessFlags := 16409, nameIndex := 5, descriptorIndex := 6, attributes := #[] }, { accessFlags := 16409, nameIndex := 9, descriptorIndex := 6, attributes := #[] }, { accessFlags := 16409, nameIndex := 12, descriptorIndex := 6, attributes := #[] }, { accessFlags := 16409, nameIndex := 15, descriptorIndex := 6, attributes := #[] }, { accessFlags := 26, nameIndex := 44, descriptorIndex := 19, attributes := #[] }, { accessFlags := 26, nameIndex := 47, descriptorIndex := 19, attributes := #[] }, { accessFlags := 18, nameIndex := 37, descriptorIndex := 38, attributes := #[] }, { accessFlags := 18, nameIndex := 41, descriptorIndex := 38, attributes := #[] }, { accessFlags := 4122, nameIndex := 18, descriptorIndex := 19, attributes := #[] }])
  fields := #[{ name := "NONE", type := (.object "com/example/rowstrata/rowstrata/row/VarTable"), accessFlags := 16409, slot := 0, constantValue := 0 }, { name := "TINY", type := (.object "com/example/rowstrata/rowstrata/row/VarTable"), accessFlags := 16409, slot := 1, constantValue := 0 }, { name := "MEDIUM", type := (.object "com/example/rowstrata/rowstrata/row/VarTable"), accessFlags := 16409, slot := 2, constantValue := 0 }, { name := "LARGE", type := (.object "com/example/rowstrata/rowstrata/row/VarTable"), accessFlags := 16409, slot := 3, constantValue := 0 }, { name := "BY_CODE", type := (.array (.object "com/example/rowstrata/rowstrata/row/VarTable")), accessFlags := 26, slot := 4, constantValue := 0 }, { name := "WITH_TABLE", type := (.array (.object "com/example/rowstrata/rowstrata/row/VarTable")), accessFlags := 26, slot := 5, constantValue := 0 }, { name := "countBytes", type := .int, accessFlags := 18, slot := 3, constantValue := 0 }, { name := "offsetBytes", type := .int, accessFlags := 18, slot := 4, constantValue := 0 }, { name := "$VALUES", type := (.array (.object "com/example/rowstrata/rowstrata/row/VarTable")), accessFlags := 4122, slot := 6, constantValue := 0 }]
  methods := #[k7m0, k7m1, k7m2]
  instanceTypes := #[(.object "java/lang/String"), .int, .int, .int, .int]
  staticTypes := #[(.object "com/example/rowstrata/rowstrata/row/VarTable"), (.object "com/example/rowstrata/rowstrata/row/VarTable"), (.object "com/example/rowstrata/rowstrata/row/VarTable"), (.object "com/example/rowstrata/rowstrata/row/VarTable"), (.array (.object "com/example/rowstrata/rowstrata/row/VarTable")), (.array (.object "com/example/rowstrata/rowstrata/row/VarTable")), (.array (.object "com/example/rowstrata/rowstrata/row/VarTable"))]
  resolved := Array.replicate 111 none
  statics := some 0 }

def pool8 : Array CpInfo := pool [(1, u "java/lang/Cloneable"), (0, .class_ 1), (0, u "java/lang/Object"), (0, .class_ 3)] 3

/-- java/lang/Cloneable -/
def k8 : Class := { plain "java/lang/Cloneable" (some 0) with
  accessFlags := 1537
  interfaces := #[]
  cf := some (fileOf pool8 2 #[] #[] 1537 4 #[] #[])
  fields := #[]
  methods := #[]
  instanceTypes := #[]
  staticTypes := #[]
  resolved := Array.replicate 8 none
  statics := none }

/-- the primitive byte -/
def k9 : Class := { plain "byte" none with kind := .primitive 'B', accessFlags := 0x411 }
/-- [B -/
def k10 : Class := { plain "[B" (some 0) with kind := .array 9 .byte, interfaces := #[8, 5], accessFlags := 1041 }

/-- the primitive int -/
def k11 : Class := { plain "int" none with kind := .primitive 'I', accessFlags := 0x411 }
/-- [I -/
def k12 : Class := { plain "[I" (some 0) with kind := .array 11 .int, interfaces := #[8, 5], accessFlags := 1041 }

/-- [Lcom/example/rowstrata/rowstrata/row/VarTable; -/
def k13 : Class := { plain "[Lcom/example/rowstrata/rowstrata/row/VarTable;" (some 0) with kind := .array 7 (.object "com/example/rowstrata/rowstrata/row/VarTable"), interfaces := #[8, 5], accessFlags := 1041 }

def heap : Heap := #[{ cls := 7, slots := #[.ref 3, .ref 2, .ref 4, .ref 5, .null, .ref 1, .null], vm := .statics 7 },
  { cls := 13, slots := #[.ref 2, .ref 4, .ref 5], vm := .none },
  { cls := 7, slots := #[.null, .int 1, .int 0, .int 1, .int 1], vm := .none },
  { cls := 7, slots := #[.null, .int 0, .int 0, .int 0, .int 0], vm := .none },
  { cls := 7, slots := #[.null, .int 2, .int 0, .int 2, .int 2], vm := .none },
  { cls := 7, slots := #[.null, .int 3, .int 0, .int 2, .int 4], vm := .none }]
def classes : Array Class := #[k0, k1, k2, k3, k4, k5, k6, k7, k8, k9, k10, k11, k12, k13]
def interned : List (Array UInt16 × Addr) := []
def slotsUsed : Nat := 30
def theMethod : MethodId := ⟨1, 1⟩
def args0 : Array Value := #[.int 5, .int 7, .long 9, .int 3]
def aboutOver (below : List Frame) : State where
  vm := { classes := classes, interned := interned.toArray }
  heap := heap
  slotsUsed := slotsUsed
  threads := #[{ frames := .invoking theMethod args0 :: below }]
def below0 : List Frame := [.native { method := ⟨0, 0⟩, args := #[] }]
def about1 : State := aboutOver below0
def p0 : Program := .bare "" "" ""
def e0 : Env := launch0.env 0 0 0
theorem w_frames : about1.frames = Frame.invoking theMethod args0 :: below0 := rfl
set_option maxRecDepth 65536 in
theorem w_args : argsFit about1.vm theMethod args0 = true := by decide +kernel
set_option maxRecDepth 65536 in
theorem w_heap : heapFits about1 = true := by decide +kernel
set_option maxRecDepth 65536 in
theorem w_runnable : about1.curStatus? = some .runnable := by decide +kernel
set_option maxRecDepth 65536 in
theorem w_alone : about1.alone = true := by decide +kernel
set_option maxRecDepth 65536 in
theorem w_named : about1.methodNamed? x = some theMethod := by decide +kernel
set_option maxRecDepth 65536 in
theorem w_hears : about1.hears theMethod below0 = true := by decide +kernel
set_option maxRecDepth 65536 in
theorem w_ripe : about1.ripe theMethod args0 below0 = true := by decide +kernel
theorem w_running : about1.status = .running := rfl
set_option maxRecDepth 65536 in
theorem w_room : about1.hasRoom e0.platform room_1 = true :=
  launch0.hasRoom_least _ room_1 (by decide +kernel) (by decide +kernel) (by decide +kernel) (by decide +kernel) (by decide +kernel) (by decide +kernel)
theorem allAtoms_all (ts : List Jvm.Cond) (a : Array Jvm.Value) (st : Jvm.State) : (allAtoms ts).before a st = ts.all (fun c => c.before a st) := by
  induction ts with
  | nil => rfl
  | cons c t ih =>
    show (Jvm.Cond.and c (allAtoms t)).before a st = _
    rw [Jvm.Cond.before_and, ih, List.all_cons]
def words1 : List Jvm.Cond := Jvm.Cond.code x code maxLocals ret :: tables_1
/-- a 'code' word, met by the world's own term for the bytes: nothing is compared byte by byte -/
theorem code_word {y : MethodName} {bytes : ByteArray} {mx : Nat} {rt : Option FieldType} {a : Array Value} {s : State} {m : MethodId} {meth : Method} {c : Code} (h1 : s.methodNamed? y = some m) (h2 : s.vm.method? m = some meth) (h3 : meth.code = some c) (h4 : c.code = bytes)
    (h5 : (c.maxLocals == mx && c.exceptionTable.isEmpty && decide (c.maxStack ≤ mostOperands) && decide (meth.sig.returnType = rt) && !meth.locks && decide (parseMethodDescriptor y.desc = some meth.sig)) = true) : (Jvm.Cond.code y bytes mx rt).before a s = true := by
  simp only [Bool.and_eq_true, beq_iff_eq, Bool.not_eq_true', decide_eq_true_eq] at h5
  obtain ⟨⟨⟨⟨⟨g1, g2⟩, g3⟩, g4⟩, g5⟩, g6⟩ := h5
  simp [Cond.before, Cond.holds, Cond.value, h1, h2, h3, h4, g1, g2, g3, g4, g5, g6]
def isCode : Jvm.Cond → Bool
  | .code _ _ _ _ => true
  | _ => false
theorem all_split {L : List Jvm.Cond} {P : Jvm.Cond → Bool} (h1 : L.all (fun c => isCode c || P c) = true) (h2 : ∀ c ∈ L.filter isCode, P c = true) : L.all P = true := by
  refine List.all_eq_true.mpr fun c hc => ?_
  have h := List.all_eq_true.mp h1 c hc
  rcases Bool.eq_false_or_eq_true (isCode c) with hi | hi
  · exact h2 c (List.mem_filter.mpr ⟨hc, hi⟩)
  · simpa [hi] using h
set_option maxRecDepth 65536 in
theorem w_c0 : (Jvm.Cond.code x code maxLocals ret).before args0 about1 = true := code_word (m := ⟨1, 1⟩) (meth := k1m1) (c := k1c1) (by decide +kernel) rfl rfl rfl (by decide +kernel)
set_option maxRecDepth 65536 in
theorem w_c1 : (Jvm.Cond.code ({ cls := "java/lang/Math", name := "max", desc := "(JJ)J" } : Jvm.MethodName) jdk_29_method_66_code (4 : Nat) (Option.some Jvm.ClassFile.FieldType.long)).before args0 about1 = true := code_word (m := ⟨2, 1⟩) (meth := k2m1) (c := k2c1) (by decide +kernel) rfl rfl rfl (by decide +kernel)
set_option maxRecDepth 65536 in
theorem w_c2 : (Jvm.Cond.code ({ cls := "com/example/rowstrata/rowstrata/row/VarTable", name := "smallest", desc := "(IJ)Lcom/example/rowstrata/rowstrata/row/VarTable;" } : Jvm.MethodName) prog_15_method_5_code (7 : Nat) (Option.some (Jvm.ClassFile.FieldType.object "com/example/rowstrata/rowstrata/row/VarTable"))).before args0 about1 = true := code_word (m := ⟨7, 0⟩) (meth := k7m0) (c := k7c0) (by decide +kernel) rfl rfl rfl (by decide +kernel)
set_option maxRecDepth 65536 in
theorem w_c3 : (Jvm.Cond.code ({ cls := "com/example/rowstrata/rowstrata/row/VarTable", name := "max", desc := "(I)J" } : Jvm.MethodName) prog_15_method_12_code (1 : Nat) (Option.some Jvm.ClassFile.FieldType.long)).before args0 about1 = true := code_word (m := ⟨7, 2⟩) (meth := k7m2) (c := k7c2) (by decide +kernel) rfl rfl rfl (by decide +kernel)
set_option maxRecDepth 65536 in
theorem w_c4 : (Jvm.Cond.code ({ cls := "com/example/rowstrata/rowstrata/row/VarTable", name := "size", desc := "(I)I" } : Jvm.MethodName) prog_15_method_7_code (2 : Nat) (Option.some Jvm.ClassFile.FieldType.int)).before args0 about1 = true := code_word (m := ⟨7, 1⟩) (meth := k7m1) (c := k7c1) (by decide +kernel) rfl rfl rfl (by decide +kernel)
set_option maxRecDepth 65536 in
theorem w_c5 : (Jvm.Cond.code ({ cls := "com/example/rowstrata/rowstrata/row/VarTableSmallestPinLaw", name := "expected", desc := "(IJ)Lcom/example/rowstrata/rowstrata/row/VarTable;" } : Jvm.MethodName) method_3_code (5 : Nat) (Option.some (Jvm.ClassFile.FieldType.object "com/example/rowstrata/rowstrata/row/VarTable"))).before args0 about1 = true := code_word (m := ⟨1, 2⟩) (meth := k1m2) (c := k1c2) (by decide +kernel) rfl rfl rfl (by decide +kernel)
def codes1 : List Jvm.Cond := [Jvm.Cond.code x code maxLocals ret, Jvm.Cond.code ({ cls := "java/lang/Math", name := "max", desc := "(JJ)J" } : Jvm.MethodName) jdk_29_method_66_code (4 : Nat) (Option.some Jvm.ClassFile.FieldType.long), Jvm.Cond.code ({ cls := "com/example/rowstrata/rowstrata/row/VarTable", name := "smallest", desc := "(IJ)Lcom/example/rowstrata/rowstrata/row/VarTable;" } : Jvm.MethodName) prog_15_method_5_code (7 : Nat) (Option.some (Jvm.ClassFile.FieldType.object "com/example/rowstrata/rowstrata/row/VarTable")), Jvm.Cond.code ({ cls := "com/example/rowstrata/rowstrata/row/VarTable", name := "max", desc := "(I)J" } : Jvm.MethodName) prog_15_method_12_code (1 : Nat) (Option.some Jvm.ClassFile.FieldType.long), Jvm.Cond.code ({ cls := "com/example/rowstrata/rowstrata/row/VarTable", name := "size", desc := "(I)I" } : Jvm.MethodName) prog_15_method_7_code (2 : Nat) (Option.some Jvm.ClassFile.FieldType.int), Jvm.Cond.code ({ cls := "com/example/rowstrata/rowstrata/row/VarTableSmallestPinLaw", name := "expected", desc := "(IJ)Lcom/example/rowstrata/rowstrata/row/VarTable;" } : Jvm.MethodName) method_3_code (5 : Nat) (Option.some (Jvm.ClassFile.FieldType.object "com/example/rowstrata/rowstrata/row/VarTable"))]
set_option maxRecDepth 65536 in
theorem codes_eq : words1.filter isCode = codes1 := rfl
theorem w_codes : ∀ c ∈ words1.filter isCode, c.before args0 about1 = true := by
  rw [codes_eq]
  intro c hc
  simp only [codes1, List.mem_cons, List.not_mem_nil, or_false] at hc
  rcases hc with rfl | rfl | rfl | rfl | rfl | rfl
  · exact w_c0
  · exact w_c1
  · exact w_c2
  · exact w_c3
  · exact w_c4
  · exact w_c5
set_option maxRecDepth 65536 in
theorem w_t1 : (words1.take 24).all (fun c => isCode c || c.before args0 about1) = true := by decide +kernel
set_option maxRecDepth 65536 in
theorem w_t2 : (words1.drop 24).all (fun c => isCode c || c.before args0 about1) = true := by decide +kernel
theorem w_tables : (allAtoms (Jvm.Cond.code x code maxLocals ret :: tables_1)).before args0 about1 = true := by
  rw [allAtoms_all]
  show words1.all (fun c => c.before args0 about1) = true
  refine all_split ?_ w_codes
  rw [← List.take_append_drop 24 words1, List.all_append, w_t1, w_t2]
  rfl
set_option maxRecDepth 65536 in
theorem w_case : (Jvm.Cond.and given_1 narrow_1).before args0 about1 = true := by decide +kernel
theorem w_applies : (headSpec (Jvm.Cond.code x code maxLocals ret :: tables_1) room_1).applies x e0.platform about1 = true :=
  (Spec.applies_iff w_frames).mpr ⟨w_running, w_runnable, w_alone, w_named, w_hears, w_ripe, w_room, w_tables⟩
theorem atStart : AtStart classFile x code maxLocals ret World_1 tables_1 room_1 Calls_1 rest_1 Pre_1 launch0 p0 e0 about1 theMethod args0 below0 :=
  ⟨lists_1, trivial, launch0.admits_env _ _ _, launch0.least_env, fairChoices_fair.cas, fairChoices_fair.clock, w_frames, w_args, w_heap, w_applies, trivial, trivial, w_case⟩
end start1
theorem witness_1 : WitnessClaimed_1 := ⟨start1.p0, start1.e0, start1.about1, start1.theMethod, start1.args0, start1.below0, start1.atStart⟩
end Jvm.Pilot.@@N@@
