import JvmDerived
import JvmDerived.Pilot.@@N@@Statement
import JvmDerived.Pilot.@@N@@Code
set_option linter.unusedVariables false
set_option linter.unusedSimpArgs false

namespace Jvm.Pilot.@@N@@
open Jvm Jvm.ClassFile Sem Op Lib Jvm.Free Jvm.Stand Jvm.LawKit Jvm.RoadKit Bundle Jvm.Pilot.@@N@@.Jvm.D
/-- a body that writes nothing and returns r -/
def own_Pure (r : Option Value) (h0 : Heap) (n0 : Nat) (v : Option Value) (h : Heap) (L : List Loc) : Prop := v = r ∧ Fr n0 L ∧ h = h0
theorem own_fld_eq {args : Array Value} {Z : State} {t : Term} {a : Addr} {C n d : String} {k : Int32} (ht : t.eval args Z none [] Z = some (.ref a))
    (h : (Cond.eq (.field t C n d) (.int k)).value args Z none Z [] = some true) : Fld Z Z.heap a C n d (.int k) := by
  apply Fld.start
  have e1 : (Term.field t C n d).eval args Z none [] Z = Z.fieldOf? a C n d := fld_at ht
  rw [← e1]
  have e2 : (Term.int k).eval args Z none [] Z = some (.int k) := Term.int_eval k
  simp only [Cond.value] at h
  cases hx : (Term.field t C n d).eval args Z none [] Z with
  | none => simp [hx] at h
  | some v => cases v <;> simp [hx, e2] at h ⊢; exact h
/-- what the case says of the pinned statics -/
def own_W (Z : State) (h : Heap) (w_NONE w_MEDIUM w_TINY w_LARGE : Addr) : Prop :=
  Sta Z h "com/example/rowstrata/rowstrata/row/VarTable" "NONE" "Lcom/example/rowstrata/rowstrata/row/VarTable;" (.ref w_NONE) ∧
  Exa Z h w_NONE "com/example/rowstrata/rowstrata/row/VarTable" ∧
  Fld Z h w_NONE "java/lang/Enum" "ordinal" "I" (.int (0 : Int32)) ∧
  Fld Z h w_NONE "com/example/rowstrata/rowstrata/row/VarTable" "countBytes" "I" (.int (0 : Int32)) ∧
  Fld Z h w_NONE "com/example/rowstrata/rowstrata/row/VarTable" "offsetBytes" "I" (.int (0 : Int32)) ∧
  Sta Z h "com/example/rowstrata/rowstrata/row/VarTable" "MEDIUM" "Lcom/example/rowstrata/rowstrata/row/VarTable;" (.ref w_MEDIUM) ∧
  Exa Z h w_MEDIUM "com/example/rowstrata/rowstrata/row/VarTable" ∧
  Fld Z h w_MEDIUM "java/lang/Enum" "ordinal" "I" (.int (2 : Int32)) ∧
  Fld Z h w_MEDIUM "com/example/rowstrata/rowstrata/row/VarTable" "countBytes" "I" (.int (2 : Int32)) ∧
  Fld Z h w_MEDIUM "com/example/rowstrata/rowstrata/row/VarTable" "offsetBytes" "I" (.int (2 : Int32)) ∧
  Sta Z h "com/example/rowstrata/rowstrata/row/VarTable" "TINY" "Lcom/example/rowstrata/rowstrata/row/VarTable;" (.ref w_TINY) ∧
  Exa Z h w_TINY "com/example/rowstrata/rowstrata/row/VarTable" ∧
  Fld Z h w_TINY "java/lang/Enum" "ordinal" "I" (.int (1 : Int32)) ∧
  Fld Z h w_TINY "com/example/rowstrata/rowstrata/row/VarTable" "countBytes" "I" (.int (1 : Int32)) ∧
  Fld Z h w_TINY "com/example/rowstrata/rowstrata/row/VarTable" "offsetBytes" "I" (.int (1 : Int32)) ∧
  Sta Z h "com/example/rowstrata/rowstrata/row/VarTable" "LARGE" "Lcom/example/rowstrata/rowstrata/row/VarTable;" (.ref w_LARGE) ∧
  Exa Z h w_LARGE "com/example/rowstrata/rowstrata/row/VarTable" ∧
  Fld Z h w_LARGE "java/lang/Enum" "ordinal" "I" (.int (3 : Int32)) ∧
  Fld Z h w_LARGE "com/example/rowstrata/rowstrata/row/VarTable" "countBytes" "I" (.int (2 : Int32)) ∧
  Fld Z h w_LARGE "com/example/rowstrata/rowstrata/row/VarTable" "offsetBytes" "I" (.int (4 : Int32))
theorem own_W.ext {Z : State} {h h' : Heap} {w_NONE w_MEDIUM w_TINY w_LARGE : Addr} (E : Ext h h') (H : own_W Z h w_NONE w_MEDIUM w_TINY w_LARGE) : own_W Z h' w_NONE w_MEDIUM w_TINY w_LARGE := by
  obtain ⟨S_NONE, E_NONE, F_NONE_ordinal, F_NONE_countBytes, F_NONE_offsetBytes, S_MEDIUM, E_MEDIUM, F_MEDIUM_ordinal, F_MEDIUM_countBytes, F_MEDIUM_offsetBytes, S_TINY, E_TINY, F_TINY_ordinal, F_TINY_countBytes, F_TINY_offsetBytes, S_LARGE, E_LARGE, F_LARGE_ordinal, F_LARGE_countBytes, F_LARGE_offsetBytes⟩ := H
  exact ⟨S_NONE.ext E, E_NONE.ext E, F_NONE_ordinal.ext E, F_NONE_countBytes.ext E, F_NONE_offsetBytes.ext E, S_MEDIUM.ext E, E_MEDIUM.ext E, F_MEDIUM_ordinal.ext E, F_MEDIUM_countBytes.ext E, F_MEDIUM_offsetBytes.ext E, S_TINY.ext E, E_TINY.ext E, F_TINY_ordinal.ext E, F_TINY_countBytes.ext E, F_TINY_offsetBytes.ext E, S_LARGE.ext E, E_LARGE.ext E, F_LARGE_ordinal.ext E, F_LARGE_countBytes.ext E, F_LARGE_offsetBytes.ext E⟩
theorem own_and3 (x : Int32) : x &&& (3 : Int32) = (0 : Int32) ∨ x &&& (3 : Int32) = (1 : Int32) ∨ x &&& (3 : Int32) = (2 : Int32) ∨ x &&& (3 : Int32) = (3 : Int32) := by
  have h1 : (x &&& (3 : Int32)).toInt = x.toInt % 4 := c_mask x (3 : Int32) 2 (by decide) (by decide)
  have h3 : (x &&& (3 : Int32)).toInt = 0 ∨ (x &&& (3 : Int32)).toInt = 1 ∨ (x &&& (3 : Int32)).toInt = 2 ∨ (x &&& (3 : Int32)).toInt = 3 := by omega
  rcases h3 with h | h | h | h
  · exact Or.inl (Int32.toInt_inj.mp (by rw [h]; decide))
  · exact Or.inr (Or.inl (Int32.toInt_inj.mp (by rw [h]; decide)))
  · exact Or.inr (Or.inr (Or.inl (Int32.toInt_inj.mp (by rw [h]; decide))))
  · exact Or.inr (Or.inr (Or.inr ((Int32.toInt_inj.mp (by rw [h]; decide)))))
theorem own_eq0 (p1 : Int32)  : (lcmpW (0 : Int64) (0 : Int64)) = (0 : Int32) := by
  apply Int32.toInt_inj.mp
  have f1 : (0 : Int64).toInt = 0 := by decide
  have f2 := c_lcmp (0 : Int64) (0 : Int64)
  have f3 := rng32 (lcmpW (0 : Int64) (0 : Int64))
  have f4 : (0 : Int32).toInt = 0 := by decide
  omega
theorem own_eq1 (p1 : Int32)  : (lcmpW (((1 : Int32) + ((((1 : Int32) + (p1 &&& (536870911 : Int32))) - (1 : Int32)) * (1 : Int32))).toInt64) ((1 : Int64) + ((((1 : Int32) + (p1 &&& (536870911 : Int32))).toInt64) - (1 : Int64)))) = (0 : Int32) := by
  apply Int32.toInt_inj.mp
  have f1 : (1 : Int32).toInt = 1 := by decide
  have f2 := rng32 p1
  have f3 : (536870911 : Int32).toInt = 536870911 := by decide
  have f4 : (p1 &&& (536870911 : Int32)).toInt = p1.toInt % 536870912 := c_mask p1 (536870911 : Int32) 29 (by decide) (by decide)
  have f5 := rng32 (p1 &&& (536870911 : Int32))
  have f6 := c_iadd (1 : Int32) (p1 &&& (536870911 : Int32))
  have f7 := rng32 ((1 : Int32) + (p1 &&& (536870911 : Int32)))
  have f8 := c_isub ((1 : Int32) + (p1 &&& (536870911 : Int32))) (1 : Int32)
  have f9 := rng32 (((1 : Int32) + (p1 &&& (536870911 : Int32))) - (1 : Int32))
  have f10 : (((((1 : Int32) + (p1 &&& (536870911 : Int32))) - (1 : Int32)) * (1 : Int32)).toInt - ((((1 : Int32) + (p1 &&& (536870911 : Int32))) - (1 : Int32)).toInt * 1)) % 4294967296 = 0 := c_imul (((1 : Int32) + (p1 &&& (536870911 : Int32))) - (1 : Int32)) (1 : Int32)
  have f11 := rng32 ((((1 : Int32) + (p1 &&& (536870911 : Int32))) - (1 : Int32)) * (1 : Int32))
  have f12 := c_iadd (1 : Int32) ((((1 : Int32) + (p1 &&& (536870911 : Int32))) - (1 : Int32)) * (1 : Int32))
  have f13 := rng32 ((1 : Int32) + ((((1 : Int32) + (p1 &&& (536870911 : Int32))) - (1 : Int32)) * (1 : Int32)))
  have f14 := c_i2l ((1 : Int32) + ((((1 : Int32) + (p1 &&& (536870911 : Int32))) - (1 : Int32)) * (1 : Int32)))
  have f15 := rng64 (((1 : Int32) + ((((1 : Int32) + (p1 &&& (536870911 : Int32))) - (1 : Int32)) * (1 : Int32))).toInt64)
  have f16 : (1 : Int64).toInt = 1 := by decide
  have f17 := c_i2l ((1 : Int32) + (p1 &&& (536870911 : Int32)))
  have f18 := rng64 (((1 : Int32) + (p1 &&& (536870911 : Int32))).toInt64)
  have f19 := c_lsub (((1 : Int32) + (p1 &&& (536870911 : Int32))).toInt64) (1 : Int64)
  have f20 := rng64 ((((1 : Int32) + (p1 &&& (536870911 : Int32))).toInt64) - (1 : Int64))
  have f21 := c_ladd (1 : Int64) ((((1 : Int32) + (p1 &&& (536870911 : Int32))).toInt64) - (1 : Int64))
  have f22 := rng64 ((1 : Int64) + ((((1 : Int32) + (p1 &&& (536870911 : Int32))).toInt64) - (1 : Int64)))
  have f23 := c_lcmp (((1 : Int32) + ((((1 : Int32) + (p1 &&& (536870911 : Int32))) - (1 : Int32)) * (1 : Int32))).toInt64) ((1 : Int64) + ((((1 : Int32) + (p1 &&& (536870911 : Int32))).toInt64) - (1 : Int64)))
  have f24 := rng32 (lcmpW (((1 : Int32) + ((((1 : Int32) + (p1 &&& (536870911 : Int32))) - (1 : Int32)) * (1 : Int32))).toInt64) ((1 : Int64) + ((((1 : Int32) + (p1 &&& (536870911 : Int32))).toInt64) - (1 : Int64))))
  have f25 : (0 : Int32).toInt = 0 := by decide
  omega
theorem own_eq2 (p1 : Int32)  : (lcmpW (((2 : Int32) + ((((1 : Int32) + (p1 &&& (536870911 : Int32))) - (1 : Int32)) * (2 : Int32))).toInt64) ((2 : Int64) + ((2 : Int64) * ((((1 : Int32) + (p1 &&& (536870911 : Int32))).toInt64) - (1 : Int64))))) = (0 : Int32) := by
  apply Int32.toInt_inj.mp
  have f1 : (2 : Int32).toInt = 2 := by decide
  have f2 : (1 : Int32).toInt = 1 := by decide
  have f3 := rng32 p1
  have f4 : (536870911 : Int32).toInt = 536870911 := by decide
  have f5 : (p1 &&& (536870911 : Int32)).toInt = p1.toInt % 536870912 := c_mask p1 (536870911 : Int32) 29 (by decide) (by decide)
  have f6 := rng32 (p1 &&& (536870911 : Int32))
  have f7 := c_iadd (1 : Int32) (p1 &&& (536870911 : Int32))
  have f8 := rng32 ((1 : Int32) + (p1 &&& (536870911 : Int32)))
  have f9 := c_isub ((1 : Int32) + (p1 &&& (536870911 : Int32))) (1 : Int32)
  have f10 := rng32 (((1 : Int32) + (p1 &&& (536870911 : Int32))) - (1 : Int32))
  have f11 : (((((1 : Int32) + (p1 &&& (536870911 : Int32))) - (1 : Int32)) * (2 : Int32)).toInt - ((((1 : Int32) + (p1 &&& (536870911 : Int32))) - (1 : Int32)).toInt * 2)) % 4294967296 = 0 := c_imul (((1 : Int32) + (p1 &&& (536870911 : Int32))) - (1 : Int32)) (2 : Int32)
  have f12 := rng32 ((((1 : Int32) + (p1 &&& (536870911 : Int32))) - (1 : Int32)) * (2 : Int32))
  have f13 := c_iadd (2 : Int32) ((((1 : Int32) + (p1 &&& (536870911 : Int32))) - (1 : Int32)) * (2 : Int32))
  have f14 := rng32 ((2 : Int32) + ((((1 : Int32) + (p1 &&& (536870911 : Int32))) - (1 : Int32)) * (2 : Int32)))
  have f15 := c_i2l ((2 : Int32) + ((((1 : Int32) + (p1 &&& (536870911 : Int32))) - (1 : Int32)) * (2 : Int32)))
  have f16 := rng64 (((2 : Int32) + ((((1 : Int32) + (p1 &&& (536870911 : Int32))) - (1 : Int32)) * (2 : Int32))).toInt64)
  have f17 : (2 : Int64).toInt = 2 := by decide
  have f18 := c_i2l ((1 : Int32) + (p1 &&& (536870911 : Int32)))
  have f19 := rng64 (((1 : Int32) + (p1 &&& (536870911 : Int32))).toInt64)
  have f20 : (1 : Int64).toInt = 1 := by decide
  have f21 := c_lsub (((1 : Int32) + (p1 &&& (536870911 : Int32))).toInt64) (1 : Int64)
  have f22 := rng64 ((((1 : Int32) + (p1 &&& (536870911 : Int32))).toInt64) - (1 : Int64))
  have f23 : (((2 : Int64) * ((((1 : Int32) + (p1 &&& (536870911 : Int32))).toInt64) - (1 : Int64))).toInt - (2 * ((((1 : Int32) + (p1 &&& (536870911 : Int32))).toInt64) - (1 : Int64)).toInt)) % 18446744073709551616 = 0 := c_lmul (2 : Int64) ((((1 : Int32) + (p1 &&& (536870911 : Int32))).toInt64) - (1 : Int64))
  have f24 := rng64 ((2 : Int64) * ((((1 : Int32) + (p1 &&& (536870911 : Int32))).toInt64) - (1 : Int64)))
  have f25 := c_ladd (2 : Int64) ((2 : Int64) * ((((1 : Int32) + (p1 &&& (536870911 : Int32))).toInt64) - (1 : Int64)))
  have f26 := rng64 ((2 : Int64) + ((2 : Int64) * ((((1 : Int32) + (p1 &&& (536870911 : Int32))).toInt64) - (1 : Int64))))
  have f27 := c_lcmp (((2 : Int32) + ((((1 : Int32) + (p1 &&& (536870911 : Int32))) - (1 : Int32)) * (2 : Int32))).toInt64) ((2 : Int64) + ((2 : Int64) * ((((1 : Int32) + (p1 &&& (536870911 : Int32))).toInt64) - (1 : Int64))))
  have f28 := rng32 (lcmpW (((2 : Int32) + ((((1 : Int32) + (p1 &&& (536870911 : Int32))) - (1 : Int32)) * (2 : Int32))).toInt64) ((2 : Int64) + ((2 : Int64) * ((((1 : Int32) + (p1 &&& (536870911 : Int32))).toInt64) - (1 : Int64)))))
  have f29 : (0 : Int32).toInt = 0 := by decide
  omega
theorem own_eq3 (p1 : Int32)  : (lcmpW (((2 : Int32) + ((((1 : Int32) + (p1 &&& (536870911 : Int32))) - (1 : Int32)) * (4 : Int32))).toInt64) ((2 : Int64) + ((4 : Int64) * ((((1 : Int32) + (p1 &&& (536870911 : Int32))).toInt64) - (1 : Int64))))) = (0 : Int32) := by
  apply Int32.toInt_inj.mp
  have f1 : (2 : Int32).toInt = 2 := by decide
  have f2 : (1 : Int32).toInt = 1 := by decide
  have f3 := rng32 p1
  have f4 : (536870911 : Int32).toInt = 536870911 := by decide
  have f5 : (p1 &&& (536870911 : Int32)).toInt = p1.toInt % 536870912 := c_mask p1 (536870911 : Int32) 29 (by decide) (by decide)
  have f6 := rng32 (p1 &&& (536870911 : Int32))
  have f7 := c_iadd (1 : Int32) (p1 &&& (536870911 : Int32))
  have f8 := rng32 ((1 : Int32) + (p1 &&& (536870911 : Int32)))
  have f9 := c_isub ((1 : Int32) + (p1 &&& (536870911 : Int32))) (1 : Int32)
  have f10 := rng32 (((1 : Int32) + (p1 &&& (536870911 : Int32))) - (1 : Int32))
  have f11 : (4 : Int32).toInt = 4 := by decide
  have f12 : (((((1 : Int32) + (p1 &&& (536870911 : Int32))) - (1 : Int32)) * (4 : Int32)).toInt - ((((1 : Int32) + (p1 &&& (536870911 : Int32))) - (1 : Int32)).toInt * 4)) % 4294967296 = 0 := c_imul (((1 : Int32) + (p1 &&& (536870911 : Int32))) - (1 : Int32)) (4 : Int32)
  have f13 := rng32 ((((1 : Int32) + (p1 &&& (536870911 : Int32))) - (1 : Int32)) * (4 : Int32))
  have f14 := c_iadd (2 : Int32) ((((1 : Int32) + (p1 &&& (536870911 : Int32))) - (1 : Int32)) * (4 : Int32))
  have f15 := rng32 ((2 : Int32) + ((((1 : Int32) + (p1 &&& (536870911 : Int32))) - (1 : Int32)) * (4 : Int32)))
  have f16 := c_i2l ((2 : Int32) + ((((1 : Int32) + (p1 &&& (536870911 : Int32))) - (1 : Int32)) * (4 : Int32)))
  have f17 := rng64 (((2 : Int32) + ((((1 : Int32) + (p1 &&& (536870911 : Int32))) - (1 : Int32)) * (4 : Int32))).toInt64)
  have f18 : (2 : Int64).toInt = 2 := by decide
  have f19 : (4 : Int64).toInt = 4 := by decide
  have f20 := c_i2l ((1 : Int32) + (p1 &&& (536870911 : Int32)))
  have f21 := rng64 (((1 : Int32) + (p1 &&& (536870911 : Int32))).toInt64)
  have f22 : (1 : Int64).toInt = 1 := by decide
  have f23 := c_lsub (((1 : Int32) + (p1 &&& (536870911 : Int32))).toInt64) (1 : Int64)
  have f24 := rng64 ((((1 : Int32) + (p1 &&& (536870911 : Int32))).toInt64) - (1 : Int64))
  have f25 : (((4 : Int64) * ((((1 : Int32) + (p1 &&& (536870911 : Int32))).toInt64) - (1 : Int64))).toInt - (4 * ((((1 : Int32) + (p1 &&& (536870911 : Int32))).toInt64) - (1 : Int64)).toInt)) % 18446744073709551616 = 0 := c_lmul (4 : Int64) ((((1 : Int32) + (p1 &&& (536870911 : Int32))).toInt64) - (1 : Int64))
  have f26 := rng64 ((4 : Int64) * ((((1 : Int32) + (p1 &&& (536870911 : Int32))).toInt64) - (1 : Int64)))
  have f27 := c_ladd (2 : Int64) ((4 : Int64) * ((((1 : Int32) + (p1 &&& (536870911 : Int32))).toInt64) - (1 : Int64)))
  have f28 := rng64 ((2 : Int64) + ((4 : Int64) * ((((1 : Int32) + (p1 &&& (536870911 : Int32))).toInt64) - (1 : Int64))))
  have f29 := c_lcmp (((2 : Int32) + ((((1 : Int32) + (p1 &&& (536870911 : Int32))) - (1 : Int32)) * (4 : Int32))).toInt64) ((2 : Int64) + ((4 : Int64) * ((((1 : Int32) + (p1 &&& (536870911 : Int32))).toInt64) - (1 : Int64))))
  have f30 := rng32 (lcmpW (((2 : Int32) + ((((1 : Int32) + (p1 &&& (536870911 : Int32))) - (1 : Int32)) * (4 : Int32))).toInt64) ((2 : Int64) + ((4 : Int64) * ((((1 : Int32) + (p1 &&& (536870911 : Int32))).toInt64) - (1 : Int64)))))
  have f31 : (0 : Int32).toInt = 0 := by decide
  omega
theorem d1_0 : decode prog_15_method_7_code 0 = .ok (.aload_n 0, 1) := by decide +kernel
theorem d1_1 : decode prog_15_method_7_code 1 = .ok (.getstatic 3, 3) := by decide +kernel
theorem d1_4 : decode prog_15_method_7_code 4 = .ok (.if_acmp .ne 7, 3) := by decide +kernel
theorem d1_7 : decode prog_15_method_7_code 7 = .ok (.iconst 0, 1) := by decide +kernel
theorem d1_8 : decode prog_15_method_7_code 8 = .ok (.goto 16, 3) := by decide +kernel
theorem d1_24 : decode prog_15_method_7_code 24 = .ok (.ireturn, 1) := by decide +kernel
theorem pn_6 : plainName "com/example/rowstrata/rowstrata/row/VarTable" = true := by first | (simp [plainName, overriddenIn]; done) | decide +kernel
theorem ef_rm_size_NONE (m : MethodId) (x0 : Addr) (x1 : Int32) : entryFrame m #[(.ref x0), (.int x1)] 2 = mkF m 0 #[.val (.ref x0), .val (.int x1)] [] := by first | (simp [entryFrame, mkF, argsToLocals, Value.category]; done) | rfl
set_option maxRecDepth 65536 in
set_option maxHeartbeats 40000000 in
theorem rm_size_NONE (l : Launch) (Z : State) (a0 : Array Value) (hw : ∀ d ∈ tables_1, d.before a0 Z = true) (ws : List Jvm.Cond) (w_NONE : Addr) (n : Int32) (h0 : Heap) (n0 : Nat) (Z0 : n0 ≤ h0.size) (w_MEDIUM w_TINY w_LARGE : Addr) (hWd : own_W Z h0 w_NONE w_MEDIUM w_TINY w_LARGE) :
    MetFree l (⟨"com/example/rowstrata/rowstrata/row/VarTable", "size", "(I)I"⟩ : MethodName) (head1 (Jvm.Cond.code (⟨"com/example/rowstrata/rowstrata/row/VarTable", "size", "(I)I"⟩ : MethodName) prog_15_method_7_code 2 (some .int) :: ws) ({ frames := 0, cells := 0, slots := 0, locals := 0 } : Room)) (fun aQ UQ => aQ = #[(.ref w_NONE), (.int n)] ∧ Z.Warmed39 UQ.vm ∧ UQ.heap = h0) (fun _ _ _ _ _ => True) (fun _ UQ oQ UR => ∃ vQ LQ, oQ = .returned vQ ∧ own_Pure (some (.int (0 : Int32))) h0 n0 vQ UR.heap LQ ∧ FrameEnd UQ oQ UR LQ ({ frames := 0, cells := 0, slots := 0, locals := 0 } : Room).cells ({ frames := 0, cells := 0, slots := 0, locals := 0 } : Room).slots) := by
  refine MetFree.of_bodySF (plainFor_of_name pn_6) hisR ?_
  intro p e s m args below meth c s₁ Bd hml0 hP hK
  obtain ⟨rfl, hZ, hh⟩ := hP
  have hx := Bd.exec
  have hby := Bd.bytes
  have hml : c.maxLocals = 2 := hml0
  have hown : s.vm.findClass "com/example/rowstrata/rowstrata/row/VarTable" = some m.cls := findClass_of_methodNamed Bd.named
  have hnm := (name_of_methodNamed Bd.named Bd.method).1
  have X0 : Stand p l e ({ frames := 0, cells := 0, slots := 0, locals := 0 } : Room) s m #[(.ref w_NONE), (.int n)] below meth c s₁ [] 0 0 := Stand.of_body Bd
  have e0 : s₁.heap = h0 := by rw [← hh, Bd.state]; rfl
  have N0 := Fr.nil n0
  have pre0 : ∀ t, Steps p.tables e below (s₁.setTop (mkF m 0 #[.val (.ref w_NONE), .val (.int n)] [])) t → Steps p.tables e below (s₁.setTop (entryFrame m #[(.ref w_NONE), (.int n)] 2)) t := fun t kq => castTop (ef_rm_size_NONE m w_NONE n) kq
  obtain ⟨S_NONE, E_NONE, F_NONE_ordinal, F_NONE_countBytes, F_NONE_offsetBytes, S_MEDIUM, E_MEDIUM, F_MEDIUM_ordinal, F_MEDIUM_countBytes, F_MEDIUM_offsetBytes, S_TINY, E_TINY, F_TINY_ordinal, F_TINY_countBytes, F_TINY_offsetBytes, S_LARGE, E_LARGE, F_LARGE_ordinal, F_LARGE_countBytes, F_LARGE_offsetBytes⟩ := hWd
  obtain ⟨T31, X31, e31, st31⟩ := getS2 X0 hx hZ hown (host := "") (Or.inl (hw _ (List.mem_of_getElem? (i := 9) rfl))) Via.refl e0 S_NONE (g := (mkF m 1 #[.val (.ref w_NONE), .val (.int n)] [(.ref w_NONE)])) rfl (hb hby d1_1)
  obtain ⟨fs, hr, hrun, hended, hW, hsame⟩ := X31.leave (v := some (.int (0 : Int32))) (fun h => by rw [Bd.returns] at h; cases h)
  refine ⟨_, _, pre0 _ ?_, hrun, hended, _, _, rfl, ?_, ⟨_, rfl⟩, hW, hsame.mono (by decide) (by decide)⟩
  · show Steps p.tables e below (s₁.setTop (mkF m 0 #[.val (.ref w_NONE), .val (.int n)] [])) _
    refine XS.aloadN X0.here hx rfl (hb hby d1_0) rfl rfl ?_
    show Steps p.tables e below (s₁.setTop (mkF m 1 #[.val (.ref w_NONE), .val (.int n)] [(.ref w_NONE)])) _
    refine st31 _ ?_
    show Steps p.tables e below (T31.setTop (mkF m 4 #[.val (.ref w_NONE), .val (.int n)] [(.ref w_NONE), (.ref w_NONE)])) _
    refine Jvm.RoadKit.acmp (g := (mkF m 4 #[.val (.ref w_NONE), .val (.int n)] [(.ref w_NONE), (.ref w_NONE)])) X31 hx rfl rfl rfl (pc0 := 4) (pc' := 7) (same := true) rfl (hb hby d1_4) rfl (decide_eq_true rfl) (by decide) (by decide) ?_
    show Steps p.tables e below (T31.setTop (mkF m 7 #[.val (.ref w_NONE), .val (.int n)] [])) _
    refine XS.iconst X31.here hx rfl (hb hby d1_7) ?_
    show Steps p.tables e below (T31.setTop (mkF m 8 #[.val (.ref w_NONE), .val (.int n)] [(.int (0 : Int32))])) _
    refine XS.goto X31.here hx rfl (pc0 := 8) (pc' := 24) rfl (hb hby d1_8) (by decide) (by decide) ?_
    show Steps p.tables e below (T31.setTop (mkF m 24 #[.val (.ref w_NONE), .val (.int n)] [(.int (0 : Int32))])) _
    exact retOut X31 hx Bd.returns rfl (Or.inl ⟨rfl, Or.inl rfl, _, rfl⟩) (hb hby d1_24) hr
  · show own_Pure (some (.int (0 : Int32))) h0 n0 _ T31.heap _
    rw [e31]
    exact ⟨rfl, N0, rfl⟩
theorem d1_11 : decode prog_15_method_7_code 11 = .ok (.aload_n 0, 1) := by decide +kernel
theorem d1_12 : decode prog_15_method_7_code 12 = .ok (.getfield 35, 3) := by decide +kernel
theorem d1_15 : decode prog_15_method_7_code 15 = .ok (.iload_n 1, 1) := by decide +kernel
theorem d1_16 : decode prog_15_method_7_code 16 = .ok (.iconst 1, 1) := by decide +kernel
theorem d1_17 : decode prog_15_method_7_code 17 = .ok (.isub, 1) := by decide +kernel
theorem d1_18 : decode prog_15_method_7_code 18 = .ok (.aload_n 0, 1) := by decide +kernel
theorem d1_19 : decode prog_15_method_7_code 19 = .ok (.getfield 39, 3) := by decide +kernel
theorem d1_22 : decode prog_15_method_7_code 22 = .ok (.imul, 1) := by decide +kernel
theorem d1_23 : decode prog_15_method_7_code 23 = .ok (.iadd, 1) := by decide +kernel
theorem ef_rm_size_TINY (m : MethodId) (x0 : Addr) (x1 : Int32) : entryFrame m #[(.ref x0), (.int x1)] 2 = mkF m 0 #[.val (.ref x0), .val (.int x1)] [] := by first | (simp [entryFrame, mkF, argsToLocals, Value.category]; done) | rfl
set_option maxRecDepth 65536 in
set_option maxHeartbeats 40000000 in
theorem rm_size_TINY (l : Launch) (Z : State) (a0 : Array Value) (hw : ∀ d ∈ tables_1, d.before a0 Z = true) (ws : List Jvm.Cond) (w_TINY : Addr) (n : Int32) (h0 : Heap) (n0 : Nat) (Z0 : n0 ≤ h0.size) (w_NONE w_MEDIUM w_LARGE : Addr) (hWd : own_W Z h0 w_NONE w_MEDIUM w_TINY w_LARGE) :
    MetFree l (⟨"com/example/rowstrata/rowstrata/row/VarTable", "size", "(I)I"⟩ : MethodName) (head1 (Jvm.Cond.code (⟨"com/example/rowstrata/rowstrata/row/VarTable", "size", "(I)I"⟩ : MethodName) prog_15_method_7_code 2 (some .int) :: ws) ({ frames := 0, cells := 0, slots := 0, locals := 0 } : Room)) (fun aQ UQ => aQ = #[(.ref w_TINY), (.int n)] ∧ Z.Warmed39 UQ.vm ∧ UQ.heap = h0) (fun _ _ _ _ _ => True) (fun _ UQ oQ UR => ∃ vQ LQ, oQ = .returned vQ ∧ own_Pure (some (.int ((1 : Int32) + ((n - (1 : Int32)) * (1 : Int32))))) h0 n0 vQ UR.heap LQ ∧ FrameEnd UQ oQ UR LQ ({ frames := 0, cells := 0, slots := 0, locals := 0 } : Room).cells ({ frames := 0, cells := 0, slots := 0, locals := 0 } : Room).slots) := by
  refine MetFree.of_bodySF (plainFor_of_name pn_6) hisR ?_
  intro p e s m args below meth c s₁ Bd hml0 hP hK
  obtain ⟨rfl, hZ, hh⟩ := hP
  have hx := Bd.exec
  have hby := Bd.bytes
  have hml : c.maxLocals = 2 := hml0
  have hown : s.vm.findClass "com/example/rowstrata/rowstrata/row/VarTable" = some m.cls := findClass_of_methodNamed Bd.named
  have hnm := (name_of_methodNamed Bd.named Bd.method).1
  have X0 : Stand p l e ({ frames := 0, cells := 0, slots := 0, locals := 0 } : Room) s m #[(.ref w_TINY), (.int n)] below meth c s₁ [] 0 0 := Stand.of_body Bd
  have e0 : s₁.heap = h0 := by rw [← hh, Bd.state]; rfl
  have N0 := Fr.nil n0
  have pre0 : ∀ t, Steps p.tables e below (s₁.setTop (mkF m 0 #[.val (.ref w_TINY), .val (.int n)] [])) t → Steps p.tables e below (s₁.setTop (entryFrame m #[(.ref w_TINY), (.int n)] 2)) t := fun t kq => castTop (ef_rm_size_TINY m w_TINY n) kq
  obtain ⟨S_NONE, E_NONE, F_NONE_ordinal, F_NONE_countBytes, F_NONE_offsetBytes, S_MEDIUM, E_MEDIUM, F_MEDIUM_ordinal, F_MEDIUM_countBytes, F_MEDIUM_offsetBytes, S_TINY, E_TINY, F_TINY_ordinal, F_TINY_countBytes, F_TINY_offsetBytes, S_LARGE, E_LARGE, F_LARGE_ordinal, F_LARGE_countBytes, F_LARGE_offsetBytes⟩ := hWd
  obtain ⟨T32, X32, e32, st32⟩ := getS2 X0 hx hZ hown (host := "") (Or.inl (hw _ (List.mem_of_getElem? (i := 9) rfl))) Via.refl e0 S_NONE (g := (mkF m 1 #[.val (.ref w_TINY), .val (.int n)] [(.ref w_TINY)])) rfl (hb hby d1_1)
  obtain ⟨T33, X33, e33, st33⟩ := getF X32 hx hZ hown (host := "") (Or.inl (hw _ (List.mem_of_getElem? (i := 13) rfl))) Via.refl e32 F_TINY_countBytes (g := (mkF m 12 #[.val (.ref w_TINY), .val (.int n)] [(.ref w_TINY)])) rfl rfl (hb hby d1_12)
  obtain ⟨T34, X34, e34, st34⟩ := getF X33 hx hZ hown (host := "") (Or.inl (hw _ (List.mem_of_getElem? (i := 15) rfl))) Via.refl e33 F_TINY_offsetBytes (g := (mkF m 19 #[.val (.ref w_TINY), .val (.int n)] [(.ref w_TINY), (.int (n - (1 : Int32))), (.int (1 : Int32))])) rfl rfl (hb hby d1_19)
  obtain ⟨fs, hr, hrun, hended, hW, hsame⟩ := X34.leave (v := some (.int ((1 : Int32) + ((n - (1 : Int32)) * (1 : Int32))))) (fun h => by rw [Bd.returns] at h; cases h)
  refine ⟨_, _, pre0 _ ?_, hrun, hended, _, _, rfl, ?_, ⟨_, rfl⟩, hW, hsame.mono (by decide) (by decide)⟩
  · show Steps p.tables e below (s₁.setTop (mkF m 0 #[.val (.ref w_TINY), .val (.int n)] [])) _
    refine XS.aloadN X0.here hx rfl (hb hby d1_0) rfl rfl ?_
    show Steps p.tables e below (s₁.setTop (mkF m 1 #[.val (.ref w_TINY), .val (.int n)] [(.ref w_TINY)])) _
    refine st32 _ ?_
    show Steps p.tables e below (T32.setTop (mkF m 4 #[.val (.ref w_TINY), .val (.int n)] [(.ref w_NONE), (.ref w_TINY)])) _
    refine Jvm.RoadKit.acmp (g := (mkF m 4 #[.val (.ref w_TINY), .val (.int n)] [(.ref w_NONE), (.ref w_TINY)])) X32 hx rfl rfl rfl (pc0 := 4) (pc' := 11) (same := false) rfl (hb hby d1_4) rfl (decide_eq_false fun q => (F_TINY_ordinal.ne F_NONE_ordinal (by decide)) (Value.ref.inj q)) (by decide) (by decide) ?_
    show Steps p.tables e below (T32.setTop (mkF m 11 #[.val (.ref w_TINY), .val (.int n)] [])) _
    refine XS.aloadN X32.here hx rfl (hb hby d1_11) rfl rfl ?_
    show Steps p.tables e below (T32.setTop (mkF m 12 #[.val (.ref w_TINY), .val (.int n)] [(.ref w_TINY)])) _
    refine st33 _ ?_
    show Steps p.tables e below (T33.setTop (mkF m 15 #[.val (.ref w_TINY), .val (.int n)] [(.int (1 : Int32))])) _
    refine XS.iloadN X33.here hx rfl (hb hby d1_15) rfl ?_
    show Steps p.tables e below (T33.setTop (mkF m 16 #[.val (.ref w_TINY), .val (.int n)] [(.int n), (.int (1 : Int32))])) _
    refine XS.iconst X33.here hx rfl (hb hby d1_16) ?_
    show Steps p.tables e below (T33.setTop (mkF m 17 #[.val (.ref w_TINY), .val (.int n)] [(.int (1 : Int32)), (.int n), (.int (1 : Int32))])) _
    refine XS.isub X33.here hx rfl (hb hby d1_17) rfl ?_
    show Steps p.tables e below (T33.setTop (mkF m 18 #[.val (.ref w_TINY), .val (.int n)] [(.int (n - (1 : Int32))), (.int (1 : Int32))])) _
    refine XS.aloadN X33.here hx rfl (hb hby d1_18) rfl rfl ?_
    show Steps p.tables e below (T33.setTop (mkF m 19 #[.val (.ref w_TINY), .val (.int n)] [(.ref w_TINY), (.int (n - (1 : Int32))), (.int (1 : Int32))])) _
    refine st34 _ ?_
    show Steps p.tables e below (T34.setTop (mkF m 22 #[.val (.ref w_TINY), .val (.int n)] [(.int (1 : Int32)), (.int (n - (1 : Int32))), (.int (1 : Int32))])) _
    refine XS.imul X34.here hx rfl (hb hby d1_22) rfl ?_
    show Steps p.tables e below (T34.setTop (mkF m 23 #[.val (.ref w_TINY), .val (.int n)] [(.int ((n - (1 : Int32)) * (1 : Int32))), (.int (1 : Int32))])) _
    refine XS.iadd X34.here hx rfl (hb hby d1_23) rfl ?_
    show Steps p.tables e below (T34.setTop (mkF m 24 #[.val (.ref w_TINY), .val (.int n)] [(.int ((1 : Int32) + ((n - (1 : Int32)) * (1 : Int32))))])) _
    exact retOut X34 hx Bd.returns rfl (Or.inl ⟨rfl, Or.inl rfl, _, rfl⟩) (hb hby d1_24) hr
  · show own_Pure (some (.int ((1 : Int32) + ((n - (1 : Int32)) * (1 : Int32))))) h0 n0 _ T34.heap _
    rw [e34]
    exact ⟨rfl, N0, rfl⟩
theorem ef_rm_size_MEDIUM (m : MethodId) (x0 : Addr) (x1 : Int32) : entryFrame m #[(.ref x0), (.int x1)] 2 = mkF m 0 #[.val (.ref x0), .val (.int x1)] [] := by first | (simp [entryFrame, mkF, argsToLocals, Value.category]; done) | rfl
set_option maxRecDepth 65536 in
set_option maxHeartbeats 40000000 in
theorem rm_size_MEDIUM (l : Launch) (Z : State) (a0 : Array Value) (hw : ∀ d ∈ tables_1, d.before a0 Z = true) (ws : List Jvm.Cond) (w_MEDIUM : Addr) (n : Int32) (h0 : Heap) (n0 : Nat) (Z0 : n0 ≤ h0.size) (w_NONE w_TINY w_LARGE : Addr) (hWd : own_W Z h0 w_NONE w_MEDIUM w_TINY w_LARGE) :
    MetFree l (⟨"com/example/rowstrata/rowstrata/row/VarTable", "size", "(I)I"⟩ : MethodName) (head1 (Jvm.Cond.code (⟨"com/example/rowstrata/rowstrata/row/VarTable", "size", "(I)I"⟩ : MethodName) prog_15_method_7_code 2 (some .int) :: ws) ({ frames := 0, cells := 0, slots := 0, locals := 0 } : Room)) (fun aQ UQ => aQ = #[(.ref w_MEDIUM), (.int n)] ∧ Z.Warmed39 UQ.vm ∧ UQ.heap = h0) (fun _ _ _ _ _ => True) (fun _ UQ oQ UR => ∃ vQ LQ, oQ = .returned vQ ∧ own_Pure (some (.int ((2 : Int32) + ((n - (1 : Int32)) * (2 : Int32))))) h0 n0 vQ UR.heap LQ ∧ FrameEnd UQ oQ UR LQ ({ frames := 0, cells := 0, slots := 0, locals := 0 } : Room).cells ({ frames := 0, cells := 0, slots := 0, locals := 0 } : Room).slots) := by
  refine MetFree.of_bodySF (plainFor_of_name pn_6) hisR ?_
  intro p e s m args below meth c s₁ Bd hml0 hP hK
  obtain ⟨rfl, hZ, hh⟩ := hP
  have hx := Bd.exec
  have hby := Bd.bytes
  have hml : c.maxLocals = 2 := hml0
  have hown : s.vm.findClass "com/example/rowstrata/rowstrata/row/VarTable" = some m.cls := findClass_of_methodNamed Bd.named
  have hnm := (name_of_methodNamed Bd.named Bd.method).1
  have X0 : Stand p l e ({ frames := 0, cells := 0, slots := 0, locals := 0 } : Room) s m #[(.ref w_MEDIUM), (.int n)] below meth c s₁ [] 0 0 := Stand.of_body Bd
  have e0 : s₁.heap = h0 := by rw [← hh, Bd.state]; rfl
  have N0 := Fr.nil n0
  have pre0 : ∀ t, Steps p.tables e below (s₁.setTop (mkF m 0 #[.val (.ref w_MEDIUM), .val (.int n)] [])) t → Steps p.tables e below (s₁.setTop (entryFrame m #[(.ref w_MEDIUM), (.int n)] 2)) t := fun t kq => castTop (ef_rm_size_MEDIUM m w_MEDIUM n) kq
  obtain ⟨S_NONE, E_NONE, F_NONE_ordinal, F_NONE_countBytes, F_NONE_offsetBytes, S_MEDIUM, E_MEDIUM, F_MEDIUM_ordinal, F_MEDIUM_countBytes, F_MEDIUM_offsetBytes, S_TINY, E_TINY, F_TINY_ordinal, F_TINY_countBytes, F_TINY_offsetBytes, S_LARGE, E_LARGE, F_LARGE_ordinal, F_LARGE_countBytes, F_LARGE_offsetBytes⟩ := hWd
  obtain ⟨T35, X35, e35, st35⟩ := getS2 X0 hx hZ hown (host := "") (Or.inl (hw _ (List.mem_of_getElem? (i := 9) rfl))) Via.refl e0 S_NONE (g := (mkF m 1 #[.val (.ref w_MEDIUM), .val (.int n)] [(.ref w_MEDIUM)])) rfl (hb hby d1_1)
  obtain ⟨T36, X36, e36, st36⟩ := getF X35 hx hZ hown (host := "") (Or.inl (hw _ (List.mem_of_getElem? (i := 13) rfl))) Via.refl e35 F_MEDIUM_countBytes (g := (mkF m 12 #[.val (.ref w_MEDIUM), .val (.int n)] [(.ref w_MEDIUM)])) rfl rfl (hb hby d1_12)
  obtain ⟨T37, X37, e37, st37⟩ := getF X36 hx hZ hown (host := "") (Or.inl (hw _ (List.mem_of_getElem? (i := 15) rfl))) Via.refl e36 F_MEDIUM_offsetBytes (g := (mkF m 19 #[.val (.ref w_MEDIUM), .val (.int n)] [(.ref w_MEDIUM), (.int (n - (1 : Int32))), (.int (2 : Int32))])) rfl rfl (hb hby d1_19)
  obtain ⟨fs, hr, hrun, hended, hW, hsame⟩ := X37.leave (v := some (.int ((2 : Int32) + ((n - (1 : Int32)) * (2 : Int32))))) (fun h => by rw [Bd.returns] at h; cases h)
  refine ⟨_, _, pre0 _ ?_, hrun, hended, _, _, rfl, ?_, ⟨_, rfl⟩, hW, hsame.mono (by decide) (by decide)⟩
  · show Steps p.tables e below (s₁.setTop (mkF m 0 #[.val (.ref w_MEDIUM), .val (.int n)] [])) _
    refine XS.aloadN X0.here hx rfl (hb hby d1_0) rfl rfl ?_
    show Steps p.tables e below (s₁.setTop (mkF m 1 #[.val (.ref w_MEDIUM), .val (.int n)] [(.ref w_MEDIUM)])) _
    refine st35 _ ?_
    show Steps p.tables e below (T35.setTop (mkF m 4 #[.val (.ref w_MEDIUM), .val (.int n)] [(.ref w_NONE), (.ref w_MEDIUM)])) _
    refine Jvm.RoadKit.acmp (g := (mkF m 4 #[.val (.ref w_MEDIUM), .val (.int n)] [(.ref w_NONE), (.ref w_MEDIUM)])) X35 hx rfl rfl rfl (pc0 := 4) (pc' := 11) (same := false) rfl (hb hby d1_4) rfl (decide_eq_false fun q => (F_MEDIUM_ordinal.ne F_NONE_ordinal (by decide)) (Value.ref.inj q)) (by decide) (by decide) ?_
    show Steps p.tables e below (T35.setTop (mkF m 11 #[.val (.ref w_MEDIUM), .val (.int n)] [])) _
    refine XS.aloadN X35.here hx rfl (hb hby d1_11) rfl rfl ?_
    show Steps p.tables e below (T35.setTop (mkF m 12 #[.val (.ref w_MEDIUM), .val (.int n)] [(.ref w_MEDIUM)])) _
    refine st36 _ ?_
    show Steps p.tables e below (T36.setTop (mkF m 15 #[.val (.ref w_MEDIUM), .val (.int n)] [(.int (2 : Int32))])) _
    refine XS.iloadN X36.here hx rfl (hb hby d1_15) rfl ?_
    show Steps p.tables e below (T36.setTop (mkF m 16 #[.val (.ref w_MEDIUM), .val (.int n)] [(.int n), (.int (2 : Int32))])) _
    refine XS.iconst X36.here hx rfl (hb hby d1_16) ?_
    show Steps p.tables e below (T36.setTop (mkF m 17 #[.val (.ref w_MEDIUM), .val (.int n)] [(.int (1 : Int32)), (.int n), (.int (2 : Int32))])) _
    refine XS.isub X36.here hx rfl (hb hby d1_17) rfl ?_
    show Steps p.tables e below (T36.setTop (mkF m 18 #[.val (.ref w_MEDIUM), .val (.int n)] [(.int (n - (1 : Int32))), (.int (2 : Int32))])) _
    refine XS.aloadN X36.here hx rfl (hb hby d1_18) rfl rfl ?_
    show Steps p.tables e below (T36.setTop (mkF m 19 #[.val (.ref w_MEDIUM), .val (.int n)] [(.ref w_MEDIUM), (.int (n - (1 : Int32))), (.int (2 : Int32))])) _
    refine st37 _ ?_
    show Steps p.tables e below (T37.setTop (mkF m 22 #[.val (.ref w_MEDIUM), .val (.int n)] [(.int (2 : Int32)), (.int (n - (1 : Int32))), (.int (2 : Int32))])) _
    refine XS.imul X37.here hx rfl (hb hby d1_22) rfl ?_
    show Steps p.tables e below (T37.setTop (mkF m 23 #[.val (.ref w_MEDIUM), .val (.int n)] [(.int ((n - (1 : Int32)) * (2 : Int32))), (.int (2 : Int32))])) _
    refine XS.iadd X37.here hx rfl (hb hby d1_23) rfl ?_
    show Steps p.tables e below (T37.setTop (mkF m 24 #[.val (.ref w_MEDIUM), .val (.int n)] [(.int ((2 : Int32) + ((n - (1 : Int32)) * (2 : Int32))))])) _
    exact retOut X37 hx Bd.returns rfl (Or.inl ⟨rfl, Or.inl rfl, _, rfl⟩) (hb hby d1_24) hr
  · show own_Pure (some (.int ((2 : Int32) + ((n - (1 : Int32)) * (2 : Int32))))) h0 n0 _ T37.heap _
    rw [e37]
    exact ⟨rfl, N0, rfl⟩
theorem ef_rm_size_LARGE (m : MethodId) (x0 : Addr) (x1 : Int32) : entryFrame m #[(.ref x0), (.int x1)] 2 = mkF m 0 #[.val (.ref x0), .val (.int x1)] [] := by first | (simp [entryFrame, mkF, argsToLocals, Value.category]; done) | rfl
set_option maxRecDepth 65536 in
set_option maxHeartbeats 40000000 in
theorem rm_size_LARGE (l : Launch) (Z : State) (a0 : Array Value) (hw : ∀ d ∈ tables_1, d.before a0 Z = true) (ws : List Jvm.Cond) (w_LARGE : Addr) (n : Int32) (h0 : Heap) (n0 : Nat) (Z0 : n0 ≤ h0.size) (w_NONE w_MEDIUM w_TINY : Addr) (hWd : own_W Z h0 w_NONE w_MEDIUM w_TINY w_LARGE) :
    MetFree l (⟨"com/example/rowstrata/rowstrata/row/VarTable", "size", "(I)I"⟩ : MethodName) (head1 (Jvm.Cond.code (⟨"com/example/rowstrata/rowstrata/row/VarTable", "size", "(I)I"⟩ : MethodName) prog_15_method_7_code 2 (some .int) :: ws) ({ frames := 0, cells := 0, slots := 0, locals := 0 } : Room)) (fun aQ UQ => aQ = #[(.ref w_LARGE), (.int n)] ∧ Z.Warmed39 UQ.vm ∧ UQ.heap = h0) (fun _ _ _ _ _ => True) (fun _ UQ oQ UR => ∃ vQ LQ, oQ = .returned vQ ∧ own_Pure (some (.int ((2 : Int32) + ((n - (1 : Int32)) * (4 : Int32))))) h0 n0 vQ UR.heap LQ ∧ FrameEnd UQ oQ UR LQ ({ frames := 0, cells := 0, slots := 0, locals := 0 } : Room).cells ({ frames := 0, cells := 0, slots := 0, locals := 0 } : Room).slots) := by
  refine MetFree.of_bodySF (plainFor_of_name pn_6) hisR ?_
  intro p e s m args below meth c s₁ Bd hml0 hP hK
  obtain ⟨rfl, hZ, hh⟩ := hP
  have hx := Bd.exec
  have hby := Bd.bytes
  have hml : c.maxLocals = 2 := hml0
  have hown : s.vm.findClass "com/example/rowstrata/rowstrata/row/VarTable" = some m.cls := findClass_of_methodNamed Bd.named
  have hnm := (name_of_methodNamed Bd.named Bd.method).1
  have X0 : Stand p l e ({ frames := 0, cells := 0, slots := 0, locals := 0 } : Room) s m #[(.ref w_LARGE), (.int n)] below meth c s₁ [] 0 0 := Stand.of_body Bd
  have e0 : s₁.heap = h0 := by rw [← hh, Bd.state]; rfl
  have N0 := Fr.nil n0
  have pre0 : ∀ t, Steps p.tables e below (s₁.setTop (mkF m 0 #[.val (.ref w_LARGE), .val (.int n)] [])) t → Steps p.tables e below (s₁.setTop (entryFrame m #[(.ref w_LARGE), (.int n)] 2)) t := fun t kq => castTop (ef_rm_size_LARGE m w_LARGE n) kq
  obtain ⟨S_NONE, E_NONE, F_NONE_ordinal, F_NONE_countBytes, F_NONE_offsetBytes, S_MEDIUM, E_MEDIUM, F_MEDIUM_ordinal, F_MEDIUM_countBytes, F_MEDIUM_offsetBytes, S_TINY, E_TINY, F_TINY_ordinal, F_TINY_countBytes, F_TINY_offsetBytes, S_LARGE, E_LARGE, F_LARGE_ordinal, F_LARGE_countBytes, F_LARGE_offsetBytes⟩ := hWd
  obtain ⟨T38, X38, e38, st38⟩ := getS2 X0 hx hZ hown (host := "") (Or.inl (hw _ (List.mem_of_getElem? (i := 9) rfl))) Via.refl e0 S_NONE (g := (mkF m 1 #[.val (.ref w_LARGE), .val (.int n)] [(.ref w_LARGE)])) rfl (hb hby d1_1)
  obtain ⟨T39, X39, e39, st39⟩ := getF X38 hx hZ hown (host := "") (Or.inl (hw _ (List.mem_of_getElem? (i := 13) rfl))) Via.refl e38 F_LARGE_countBytes (g := (mkF m 12 #[.val (.ref w_LARGE), .val (.int n)] [(.ref w_LARGE)])) rfl rfl (hb hby d1_12)
  obtain ⟨T40, X40, e40, st40⟩ := getF X39 hx hZ hown (host := "") (Or.inl (hw _ (List.mem_of_getElem? (i := 15) rfl))) Via.refl e39 F_LARGE_offsetBytes (g := (mkF m 19 #[.val (.ref w_LARGE), .val (.int n)] [(.ref w_LARGE), (.int (n - (1 : Int32))), (.int (2 : Int32))])) rfl rfl (hb hby d1_19)
  obtain ⟨fs, hr, hrun, hended, hW, hsame⟩ := X40.leave (v := some (.int ((2 : Int32) + ((n - (1 : Int32)) * (4 : Int32))))) (fun h => by rw [Bd.returns] at h; cases h)
  refine ⟨_, _, pre0 _ ?_, hrun, hended, _, _, rfl, ?_, ⟨_, rfl⟩, hW, hsame.mono (by decide) (by decide)⟩
  · show Steps p.tables e below (s₁.setTop (mkF m 0 #[.val (.ref w_LARGE), .val (.int n)] [])) _
    refine XS.aloadN X0.here hx rfl (hb hby d1_0) rfl rfl ?_
    show Steps p.tables e below (s₁.setTop (mkF m 1 #[.val (.ref w_LARGE), .val (.int n)] [(.ref w_LARGE)])) _
    refine st38 _ ?_
    show Steps p.tables e below (T38.setTop (mkF m 4 #[.val (.ref w_LARGE), .val (.int n)] [(.ref w_NONE), (.ref w_LARGE)])) _
    refine Jvm.RoadKit.acmp (g := (mkF m 4 #[.val (.ref w_LARGE), .val (.int n)] [(.ref w_NONE), (.ref w_LARGE)])) X38 hx rfl rfl rfl (pc0 := 4) (pc' := 11) (same := false) rfl (hb hby d1_4) rfl (decide_eq_false fun q => (F_LARGE_ordinal.ne F_NONE_ordinal (by decide)) (Value.ref.inj q)) (by decide) (by decide) ?_
    show Steps p.tables e below (T38.setTop (mkF m 11 #[.val (.ref w_LARGE), .val (.int n)] [])) _
    refine XS.aloadN X38.here hx rfl (hb hby d1_11) rfl rfl ?_
    show Steps p.tables e below (T38.setTop (mkF m 12 #[.val (.ref w_LARGE), .val (.int n)] [(.ref w_LARGE)])) _
    refine st39 _ ?_
    show Steps p.tables e below (T39.setTop (mkF m 15 #[.val (.ref w_LARGE), .val (.int n)] [(.int (2 : Int32))])) _
    refine XS.iloadN X39.here hx rfl (hb hby d1_15) rfl ?_
    show Steps p.tables e below (T39.setTop (mkF m 16 #[.val (.ref w_LARGE), .val (.int n)] [(.int n), (.int (2 : Int32))])) _
    refine XS.iconst X39.here hx rfl (hb hby d1_16) ?_
    show Steps p.tables e below (T39.setTop (mkF m 17 #[.val (.ref w_LARGE), .val (.int n)] [(.int (1 : Int32)), (.int n), (.int (2 : Int32))])) _
    refine XS.isub X39.here hx rfl (hb hby d1_17) rfl ?_
    show Steps p.tables e below (T39.setTop (mkF m 18 #[.val (.ref w_LARGE), .val (.int n)] [(.int (n - (1 : Int32))), (.int (2 : Int32))])) _
    refine XS.aloadN X39.here hx rfl (hb hby d1_18) rfl rfl ?_
    show Steps p.tables e below (T39.setTop (mkF m 19 #[.val (.ref w_LARGE), .val (.int n)] [(.ref w_LARGE), (.int (n - (1 : Int32))), (.int (2 : Int32))])) _
    refine st40 _ ?_
    show Steps p.tables e below (T40.setTop (mkF m 22 #[.val (.ref w_LARGE), .val (.int n)] [(.int (4 : Int32)), (.int (n - (1 : Int32))), (.int (2 : Int32))])) _
    refine XS.imul X40.here hx rfl (hb hby d1_22) rfl ?_
    show Steps p.tables e below (T40.setTop (mkF m 23 #[.val (.ref w_LARGE), .val (.int n)] [(.int ((n - (1 : Int32)) * (4 : Int32))), (.int (2 : Int32))])) _
    refine XS.iadd X40.here hx rfl (hb hby d1_23) rfl ?_
    show Steps p.tables e below (T40.setTop (mkF m 24 #[.val (.ref w_LARGE), .val (.int n)] [(.int ((2 : Int32) + ((n - (1 : Int32)) * (4 : Int32))))])) _
    exact retOut X40 hx Bd.returns rfl (Or.inl ⟨rfl, Or.inl rfl, _, rfl⟩) (hb hby d1_24) hr
  · show own_Pure (some (.int ((2 : Int32) + ((n - (1 : Int32)) * (4 : Int32))))) h0 n0 _ T40.heap _
    rw [e40]
    exact ⟨rfl, N0, rfl⟩
theorem pd_16 : parseMethodDescriptor "(I)I" = some ⟨[.int], some .int⟩ := by decide +kernel
theorem pn_17 : plainName "com/example/rowstrata/rowstrata/row/VarTableSizePinLaw" = true := by first | (simp [plainName, overriddenIn]; done) | decide +kernel
theorem ef_rm_law (m : MethodId) (x0 : Int32) (x1 : Int32) : entryFrame m #[(.int x0), (.int x1)] maxLocals = mkF m 0 #[.val (.int x0), .val (.int x1), .unset, .unset, .unset, .unset, .unset, .unset, .unset, .unset] [] := by first | (simp [entryFrame, mkF, argsToLocals, Value.category, maxLocals]; done) | rfl
set_option maxRecDepth 65536 in
set_option maxHeartbeats 40000000 in
theorem rm_law (l : Launch) (Z : State) (a0 : Array Value) (hw : ∀ d ∈ tables_1, d.before a0 Z = true) (ws : List Jvm.Cond) (p0 : Int32) (p1 : Int32) (h0 : Heap) (n0 : Nat) (Z0 : n0 ≤ h0.size) (w_NONE w_MEDIUM w_TINY w_LARGE : Addr) (hWd : own_W Z h0 w_NONE w_MEDIUM w_TINY w_LARGE) :
    MetFree l x (head1 (Jvm.Cond.code x code maxLocals ret :: ws) room_1) (fun aQ UQ => aQ = #[(.int p0), (.int p1)] ∧ Z.Warmed39 UQ.vm ∧ UQ.heap = h0) (fun _ _ _ _ _ => True) (fun _ UQ oQ UR => ∃ vQ LQ, oQ = .returned vQ ∧ own_Pure (some (.int 1)) h0 n0 vQ UR.heap LQ ∧ FrameEnd UQ oQ UR LQ room_1.cells room_1.slots) := by
  refine MetFree.of_bodySF (plainFor_of_name pn_17) hisR ?_
  intro p e s m args below meth c s₁ Bd hml0 hP hK
  obtain ⟨rfl, hZ, hh⟩ := hP
  have hx := Bd.exec
  have hby := Bd.bytes
  have hml : c.maxLocals = 10 := hml0
  have hown : s.vm.findClass "com/example/rowstrata/rowstrata/row/VarTableSizePinLaw" = some m.cls := findClass_of_methodNamed Bd.named
  have hnm := (name_of_methodNamed Bd.named Bd.method).1
  have X0 : Stand p l e room_1 s m #[(.int p0), (.int p1)] below meth c s₁ [] 0 0 := Stand.of_body Bd
  have e0 : s₁.heap = h0 := by rw [← hh, Bd.state]; rfl
  have N0 := Fr.nil n0
  have pre0 : ∀ t, Steps p.tables e below (s₁.setTop (mkF m 0 #[.val (.int p0), .val (.int p1), .unset, .unset, .unset, .unset, .unset, .unset, .unset, .unset] [])) t → Steps p.tables e below (s₁.setTop (entryFrame m #[(.int p0), (.int p1)] maxLocals)) t := fun t kq => castTop (ef_rm_law m p0 p1) kq
  have hWd' := hWd
  obtain ⟨S_NONE, E_NONE, F_NONE_ordinal, F_NONE_countBytes, F_NONE_offsetBytes, S_MEDIUM, E_MEDIUM, F_MEDIUM_ordinal, F_MEDIUM_countBytes, F_MEDIUM_offsetBytes, S_TINY, E_TINY, F_TINY_ordinal, F_TINY_countBytes, F_TINY_offsetBytes, S_LARGE, E_LARGE, F_LARGE_ordinal, F_LARGE_countBytes, F_LARGE_offsetBytes⟩ := hWd'
  rcases own_and3 p0 with hv41 | hv42 | hv43 | hv44
  · -- (0 : Int32)
    obtain ⟨T45, X45, e45, st45⟩ := getS2 X0 hx hZ hown (host := "") (Or.inl (hw _ (List.mem_of_getElem? (i := 1) rfl))) Via.refl e0 S_NONE (g := (mkF m 21 #[.val (.int p0), .val (.int p1), .val (.int (0 : Int32)), .val (.int ((1 : Int32) + (p1 &&& (536870911 : Int32)))), .val (.long ((((1 : Int32) + (p1 &&& (536870911 : Int32))).toInt64) - (1 : Int64))), .second, .unset, .unset, .unset, .unset] [])) rfl (hb hby at_21)
    obtain ⟨cq46, kq46, q46a, q46b, q46c⟩ := isOf hZ e45 (E_NONE)
    obtain ⟨_, _, ⟨T46, L46, k46, n46⟩, -, X46, ⟨Lc46, hQ46, l46, y46, z46⟩, st46⟩ := X45.virtualBack hx (y := (⟨"com/example/rowstrata/rowstrata/row/VarTable", "size", "(I)I"⟩ : MethodName)) (z := (⟨"com/example/rowstrata/rowstrata/row/VarTable", "size", "(I)I"⟩ : MethodName)) hown (mvT hZ (hw _ (List.mem_of_getElem? (i := 4) rfl))) (mvT hZ (hw _ (List.mem_of_getElem? (i := 5) rfl))) (notFace_of_selects (args := #[]) (mvT hZ (hw _ (List.mem_of_getElem? (i := 7) rfl)))) (mvT hZ (hw _ (List.mem_of_getElem? (i := 7) rfl))) (mvT hZ (hw _ (List.mem_of_getElem? (i := 6) rfl))) (by decide) (backOf (W := 0) (rm_size_NONE l Z a0 hw [] w_NONE ((1 : Int32) + (p1 &&& (536870911 : Int32))) h0 n0 Z0 w_MEDIUM w_TINY w_LARGE hWd) hZ (hw _ (List.mem_of_getElem? (i := 8) rfl)) (hw _ (List.mem_of_getElem? (i := 2) rfl)) (by decide) (by decide)) q46a q46c (g := (mkF m 96 #[.val (.int p0), .val (.int p1), .val (.int (0 : Int32)), .val (.int ((1 : Int32) + (p1 &&& (536870911 : Int32)))), .val (.long ((((1 : Int32) + (p1 &&& (536870911 : Int32))).toInt64) - (1 : Int64))), .second, .val (.ref w_NONE), .val (.long (0 : Int64)), .second, .unset] [(.int ((1 : Int32) + (p1 &&& (536870911 : Int32)))), (.ref w_NONE)])) rfl (by rw [hml]; rfl) (Steps.refl _) (argsL := [(.int ((1 : Int32) + (p1 &&& (536870911 : Int32))))]) (rest := []) (lenOf pd_16 rfl) rfl (by show 2 * 0 + _ ≤ _; exact Nat.le_of_eq rfl) (hb hby at_96) (fun _ _ => ⟨rfl, e45, (by decide : 0 + 0 ≤ _), (by decide : 0 + 0 ≤ _)⟩)
    dsimp only [Pt.U, Pt.locs, Pt.cells, Pt.slots] at X46 l46 y46 z46 st46 hQ46
    subst l46 y46 z46
    obtain ⟨rfl, N46q, e46⟩ := hQ46
    have N46 := Fr.app N0 N46q
    obtain ⟨fs, hr, hrun, hended, hW, hsame⟩ := X46.leave (v := some (.int (1 : Int32))) (fun h => by rw [Bd.returns] at h; cases h)
    refine ⟨_, _, pre0 _ ?_, hrun, hended, _, _, rfl, ?_, ⟨_, rfl⟩, hW, hsame.mono (by decide) (by decide)⟩
    · show Steps p.tables e below (s₁.setTop (mkF m 0 #[.val (.int p0), .val (.int p1), .unset, .unset, .unset, .unset, .unset, .unset, .unset, .unset] [])) _
      refine XS.iloadN X0.here hx rfl (hb hby at_0) rfl ?_
      show Steps p.tables e below (s₁.setTop (mkF m 1 #[.val (.int p0), .val (.int p1), .unset, .unset, .unset, .unset, .unset, .unset, .unset, .unset] [(.int p0)])) _
      refine XS.iconst X0.here hx rfl (hb hby at_1) ?_
      show Steps p.tables e below (s₁.setTop (mkF m 2 #[.val (.int p0), .val (.int p1), .unset, .unset, .unset, .unset, .unset, .unset, .unset, .unset] [(.int (3 : Int32)), (.int p0)])) _
      refine XS.iand X0.here hx rfl (hb hby at_2) rfl ?_
      show Steps p.tables e below (s₁.setTop (mkF m 3 #[.val (.int p0), .val (.int p1), .unset, .unset, .unset, .unset, .unset, .unset, .unset, .unset] [(.int (p0 &&& (3 : Int32)))])) _
      rw [hv41]
      show Steps p.tables e below (s₁.setTop (mkF m 3 #[.val (.int p0), .val (.int p1), .unset, .unset, .unset, .unset, .unset, .unset, .unset, .unset] [(.int (0 : Int32))])) _
      refine XS.istoreN X0.here hx rfl (hb hby at_3) rfl (l' := #[.val (.int p0), .val (.int p1), .val (.int (0 : Int32)), .unset, .unset, .unset, .unset, .unset, .unset, .unset]) rfl ?_
      show Steps p.tables e below (s₁.setTop (mkF m 4 #[.val (.int p0), .val (.int p1), .val (.int (0 : Int32)), .unset, .unset, .unset, .unset, .unset, .unset, .unset] [])) _
      refine XS.iconst X0.here hx rfl (hb hby at_4) ?_
      show Steps p.tables e below (s₁.setTop (mkF m 5 #[.val (.int p0), .val (.int p1), .val (.int (0 : Int32)), .unset, .unset, .unset, .unset, .unset, .unset, .unset] [(.int (1 : Int32))])) _
      refine XS.iloadN X0.here hx rfl (hb hby at_5) rfl ?_
      show Steps p.tables e below (s₁.setTop (mkF m 6 #[.val (.int p0), .val (.int p1), .val (.int (0 : Int32)), .unset, .unset, .unset, .unset, .unset, .unset, .unset] [(.int p1), (.int (1 : Int32))])) _
      refine X0.ldcInt hx hown (mvT hZ (hw _ (List.mem_of_getElem? (i := 0) rfl))) (g := (mkF m 6 #[.val (.int p0), .val (.int p1), .val (.int (0 : Int32)), .unset, .unset, .unset, .unset, .unset, .unset, .unset] [(.int p1), (.int (1 : Int32))])) rfl (hb hby at_6) _ ?_
      show Steps p.tables e below (s₁.setTop (mkF m 8 #[.val (.int p0), .val (.int p1), .val (.int (0 : Int32)), .unset, .unset, .unset, .unset, .unset, .unset, .unset] [(.int (536870911 : Int32)), (.int p1), (.int (1 : Int32))])) _
      refine XS.iand X0.here hx rfl (hb hby at_8) rfl ?_
      show Steps p.tables e below (s₁.setTop (mkF m 9 #[.val (.int p0), .val (.int p1), .val (.int (0 : Int32)), .unset, .unset, .unset, .unset, .unset, .unset, .unset] [(.int (p1 &&& (536870911 : Int32))), (.int (1 : Int32))])) _
      refine XS.iadd X0.here hx rfl (hb hby at_9) rfl ?_
      show Steps p.tables e below (s₁.setTop (mkF m 10 #[.val (.int p0), .val (.int p1), .val (.int (0 : Int32)), .unset, .unset, .unset, .unset, .unset, .unset, .unset] [(.int ((1 : Int32) + (p1 &&& (536870911 : Int32))))])) _
      refine XS.istoreN X0.here hx rfl (hb hby at_10) rfl (l' := #[.val (.int p0), .val (.int p1), .val (.int (0 : Int32)), .val (.int ((1 : Int32) + (p1 &&& (536870911 : Int32)))), .unset, .unset, .unset, .unset, .unset, .unset]) rfl ?_
      show Steps p.tables e below (s₁.setTop (mkF m 11 #[.val (.int p0), .val (.int p1), .val (.int (0 : Int32)), .val (.int ((1 : Int32) + (p1 &&& (536870911 : Int32)))), .unset, .unset, .unset, .unset, .unset, .unset] [])) _
      refine XS.iloadN X0.here hx rfl (hb hby at_11) rfl ?_
      show Steps p.tables e below (s₁.setTop (mkF m 12 #[.val (.int p0), .val (.int p1), .val (.int (0 : Int32)), .val (.int ((1 : Int32) + (p1 &&& (536870911 : Int32)))), .unset, .unset, .unset, .unset, .unset, .unset] [(.int ((1 : Int32) + (p1 &&& (536870911 : Int32))))])) _
      refine XS.i2l X0.here hx rfl (hb hby at_12) rfl ?_
      show Steps p.tables e below (s₁.setTop (mkF m 13 #[.val (.int p0), .val (.int p1), .val (.int (0 : Int32)), .val (.int ((1 : Int32) + (p1 &&& (536870911 : Int32)))), .unset, .unset, .unset, .unset, .unset, .unset] [(.long (((1 : Int32) + (p1 &&& (536870911 : Int32))).toInt64))])) _
      refine XS.lconst X0.here hx rfl (hb hby at_13) ?_
      show Steps p.tables e below (s₁.setTop (mkF m 14 #[.val (.int p0), .val (.int p1), .val (.int (0 : Int32)), .val (.int ((1 : Int32) + (p1 &&& (536870911 : Int32)))), .unset, .unset, .unset, .unset, .unset, .unset] [(.long (1 : Int64)), (.long (((1 : Int32) + (p1 &&& (536870911 : Int32))).toInt64))])) _
      refine XS.lsub X0.here hx rfl (hb hby at_14) rfl ?_
      show Steps p.tables e below (s₁.setTop (mkF m 15 #[.val (.int p0), .val (.int p1), .val (.int (0 : Int32)), .val (.int ((1 : Int32) + (p1 &&& (536870911 : Int32)))), .unset, .unset, .unset, .unset, .unset, .unset] [(.long ((((1 : Int32) + (p1 &&& (536870911 : Int32))).toInt64) - (1 : Int64)))])) _
      refine XS.lstore X0.here hx rfl (hb hby at_15) rfl (l' := #[.val (.int p0), .val (.int p1), .val (.int (0 : Int32)), .val (.int ((1 : Int32) + (p1 &&& (536870911 : Int32)))), .val (.long ((((1 : Int32) + (p1 &&& (536870911 : Int32))).toInt64) - (1 : Int64))), .second, .unset, .unset, .unset, .unset]) rfl ?_
      show Steps p.tables e below (s₁.setTop (mkF m 17 #[.val (.int p0), .val (.int p1), .val (.int (0 : Int32)), .val (.int ((1 : Int32) + (p1 &&& (536870911 : Int32)))), .val (.long ((((1 : Int32) + (p1 &&& (536870911 : Int32))).toInt64) - (1 : Int64))), .second, .unset, .unset, .unset, .unset] [])) _
      refine XS.iloadN X0.here hx rfl (hb hby at_17) rfl ?_
      show Steps p.tables e below (s₁.setTop (mkF m 18 #[.val (.int p0), .val (.int p1), .val (.int (0 : Int32)), .val (.int ((1 : Int32) + (p1 &&& (536870911 : Int32)))), .val (.long ((((1 : Int32) + (p1 &&& (536870911 : Int32))).toInt64) - (1 : Int64))), .second, .unset, .unset, .unset, .unset] [(.int (0 : Int32))])) _
      refine XS.ifNo X0.here hx rfl (hb hby at_18) rfl ((if0 _ _).trans (teq (by decide : (0 : Int32) = (0 : Int32))).2) ?_
      show Steps p.tables e below (s₁.setTop (mkF m 21 #[.val (.int p0), .val (.int p1), .val (.int (0 : Int32)), .val (.int ((1 : Int32) + (p1 &&& (536870911 : Int32)))), .val (.long ((((1 : Int32) + (p1 &&& (536870911 : Int32))).toInt64) - (1 : Int64))), .second, .unset, .unset, .unset, .unset] [])) _
      refine st45 _ ?_
      show Steps p.tables e below (T45.setTop (mkF m 24 #[.val (.int p0), .val (.int p1), .val (.int (0 : Int32)), .val (.int ((1 : Int32) + (p1 &&& (536870911 : Int32)))), .val (.long ((((1 : Int32) + (p1 &&& (536870911 : Int32))).toInt64) - (1 : Int64))), .second, .unset, .unset, .unset, .unset] [(.ref w_NONE)])) _
      refine XS.astore X45.here hx rfl (hb hby at_24) rfl rfl (l' := #[.val (.int p0), .val (.int p1), .val (.int (0 : Int32)), .val (.int ((1 : Int32) + (p1 &&& (536870911 : Int32)))), .val (.long ((((1 : Int32) + (p1 &&& (536870911 : Int32))).toInt64) - (1 : Int64))), .second, .val (.ref w_NONE), .unset, .unset, .unset]) rfl ?_
      show Steps p.tables e below (T45.setTop (mkF m 26 #[.val (.int p0), .val (.int p1), .val (.int (0 : Int32)), .val (.int ((1 : Int32) + (p1 &&& (536870911 : Int32)))), .val (.long ((((1 : Int32) + (p1 &&& (536870911 : Int32))).toInt64) - (1 : Int64))), .second, .val (.ref w_NONE), .unset, .unset, .unset] [])) _
      refine XS.lconst X45.here hx rfl (hb hby at_26) ?_
      show Steps p.tables e below (T45.setTop (mkF m 27 #[.val (.int p0), .val (.int p1), .val (.int (0 : Int32)), .val (.int ((1 : Int32) + (p1 &&& (536870911 : Int32)))), .val (.long ((((1 : Int32) + (p1 &&& (536870911 : Int32))).toInt64) - (1 : Int64))), .second, .val (.ref w_NONE), .unset, .unset, .unset] [(.long (0 : Int64))])) _
      refine XS.lstore X45.here hx rfl (hb hby at_27) rfl (l' := #[.val (.int p0), .val (.int p1), .val (.int (0 : Int32)), .val (.int ((1 : Int32) + (p1 &&& (536870911 : Int32)))), .val (.long ((((1 : Int32) + (p1 &&& (536870911 : Int32))).toInt64) - (1 : Int64))), .second, .val (.ref w_NONE), .val (.long (0 : Int64)), .second, .unset]) rfl ?_
      show Steps p.tables e below (T45.setTop (mkF m 29 #[.val (.int p0), .val (.int p1), .val (.int (0 : Int32)), .val (.int ((1 : Int32) + (p1 &&& (536870911 : Int32)))), .val (.long ((((1 : Int32) + (p1 &&& (536870911 : Int32))).toInt64) - (1 : Int64))), .second, .val (.ref w_NONE), .val (.long (0 : Int64)), .second, .unset] [])) _
      refine XS.goto X45.here hx rfl (pc0 := 29) (pc' := 93) rfl (hb hby at_29) (by decide) (by decide) ?_
      show Steps p.tables e below (T45.setTop (mkF m 93 #[.val (.int p0), .val (.int p1), .val (.int (0 : Int32)), .val (.int ((1 : Int32) + (p1 &&& (536870911 : Int32)))), .val (.long ((((1 : Int32) + (p1 &&& (536870911 : Int32))).toInt64) - (1 : Int64))), .second, .val (.ref w_NONE), .val (.long (0 : Int64)), .second, .unset] [])) _
      refine XS.aload X45.here hx rfl (hb hby at_93) rfl rfl ?_
      show Steps p.tables e below (T45.setTop (mkF m 95 #[.val (.int p0), .val (.int p1), .val (.int (0 : Int32)), .val (.int ((1 : Int32) + (p1 &&& (536870911 : Int32)))), .val (.long ((((1 : Int32) + (p1 &&& (536870911 : Int32))).toInt64) - (1 : Int64))), .second, .val (.ref w_NONE), .val (.long (0 : Int64)), .second, .unset] [(.ref w_NONE)])) _
      refine XS.iloadN X45.here hx rfl (hb hby at_95) rfl ?_
      show Steps p.tables e below (T45.setTop (mkF m 96 #[.val (.int p0), .val (.int p1), .val (.int (0 : Int32)), .val (.int ((1 : Int32) + (p1 &&& (536870911 : Int32)))), .val (.long ((((1 : Int32) + (p1 &&& (536870911 : Int32))).toInt64) - (1 : Int64))), .second, .val (.ref w_NONE), .val (.long (0 : Int64)), .second, .unset] [(.int ((1 : Int32) + (p1 &&& (536870911 : Int32)))), (.ref w_NONE)])) _
      refine st46.trans ?_
      show Steps p.tables e below (T46.setTop (mkF m 99 #[.val (.int p0), .val (.int p1), .val (.int (0 : Int32)), .val (.int ((1 : Int32) + (p1 &&& (536870911 : Int32)))), .val (.long ((((1 : Int32) + (p1 &&& (536870911 : Int32))).toInt64) - (1 : Int64))), .second, .val (.ref w_NONE), .val (.long (0 : Int64)), .second, .unset] [(.int (0 : Int32))])) _
      refine XS.istore X46.here hx rfl (hb hby at_99) rfl (l' := #[.val (.int p0), .val (.int p1), .val (.int (0 : Int32)), .val (.int ((1 : Int32) + (p1 &&& (536870911 : Int32)))), .val (.long ((((1 : Int32) + (p1 &&& (536870911 : Int32))).toInt64) - (1 : Int64))), .second, .val (.ref w_NONE), .val (.long (0 : Int64)), .second, .val (.int (0 : Int32))]) rfl ?_
      show Steps p.tables e below (T46.setTop (mkF m 101 #[.val (.int p0), .val (.int p1), .val (.int (0 : Int32)), .val (.int ((1 : Int32) + (p1 &&& (536870911 : Int32)))), .val (.long ((((1 : Int32) + (p1 &&& (536870911 : Int32))).toInt64) - (1 : Int64))), .second, .val (.ref w_NONE), .val (.long (0 : Int64)), .second, .val (.int (0 : Int32))] [])) _
      refine XS.iload X46.here hx rfl (hb hby at_101) rfl ?_
      show Steps p.tables e below (T46.setTop (mkF m 103 #[.val (.int p0), .val (.int p1), .val (.int (0 : Int32)), .val (.int ((1 : Int32) + (p1 &&& (536870911 : Int32)))), .val (.long ((((1 : Int32) + (p1 &&& (536870911 : Int32))).toInt64) - (1 : Int64))), .second, .val (.ref w_NONE), .val (.long (0 : Int64)), .second, .val (.int (0 : Int32))] [(.int (0 : Int32))])) _
      refine XS.i2l X46.here hx rfl (hb hby at_103) rfl ?_
      show Steps p.tables e below (T46.setTop (mkF m 104 #[.val (.int p0), .val (.int p1), .val (.int (0 : Int32)), .val (.int ((1 : Int32) + (p1 &&& (536870911 : Int32)))), .val (.long ((((1 : Int32) + (p1 &&& (536870911 : Int32))).toInt64) - (1 : Int64))), .second, .val (.ref w_NONE), .val (.long (0 : Int64)), .second, .val (.int (0 : Int32))] [(.long (0 : Int64))])) _
      refine XS.lload X46.here hx rfl (hb hby at_104) rfl ?_
      show Steps p.tables e below (T46.setTop (mkF m 106 #[.val (.int p0), .val (.int p1), .val (.int (0 : Int32)), .val (.int ((1 : Int32) + (p1 &&& (536870911 : Int32)))), .val (.long ((((1 : Int32) + (p1 &&& (536870911 : Int32))).toInt64) - (1 : Int64))), .second, .val (.ref w_NONE), .val (.long (0 : Int64)), .second, .val (.int (0 : Int32))] [(.long (0 : Int64)), (.long (0 : Int64))])) _
      refine XS.lcmp X46.here hx rfl (hb hby at_106) rfl ?_
      show Steps p.tables e below (T46.setTop (mkF m 107 #[.val (.int p0), .val (.int p1), .val (.int (0 : Int32)), .val (.int ((1 : Int32) + (p1 &&& (536870911 : Int32)))), .val (.long ((((1 : Int32) + (p1 &&& (536870911 : Int32))).toInt64) - (1 : Int64))), .second, .val (.ref w_NONE), .val (.long (0 : Int64)), .second, .val (.int (0 : Int32))] [(.int (lcmpW (0 : Int64) (0 : Int64)))])) _
      refine XS.ifNo X46.here hx rfl (hb hby at_107) rfl ((if0 _ _).trans (teq (own_eq0 p1)).2) ?_
      show Steps p.tables e below (T46.setTop (mkF m 110 #[.val (.int p0), .val (.int p1), .val (.int (0 : Int32)), .val (.int ((1 : Int32) + (p1 &&& (536870911 : Int32)))), .val (.long ((((1 : Int32) + (p1 &&& (536870911 : Int32))).toInt64) - (1 : Int64))), .second, .val (.ref w_NONE), .val (.long (0 : Int64)), .second, .val (.int (0 : Int32))] [])) _
      refine XS.iconst X46.here hx rfl (hb hby at_110) ?_
      show Steps p.tables e below (T46.setTop (mkF m 111 #[.val (.int p0), .val (.int p1), .val (.int (0 : Int32)), .val (.int ((1 : Int32) + (p1 &&& (536870911 : Int32)))), .val (.long ((((1 : Int32) + (p1 &&& (536870911 : Int32))).toInt64) - (1 : Int64))), .second, .val (.ref w_NONE), .val (.long (0 : Int64)), .second, .val (.int (0 : Int32))] [(.int (1 : Int32))])) _
      refine XS.goto X46.here hx rfl (pc0 := 111) (pc' := 115) rfl (hb hby at_111) (by decide) (by decide) ?_
      show Steps p.tables e below (T46.setTop (mkF m 115 #[.val (.int p0), .val (.int p1), .val (.int (0 : Int32)), .val (.int ((1 : Int32) + (p1 &&& (536870911 : Int32)))), .val (.long ((((1 : Int32) + (p1 &&& (536870911 : Int32))).toInt64) - (1 : Int64))), .second, .val (.ref w_NONE), .val (.long (0 : Int64)), .second, .val (.int (0 : Int32))] [(.int (1 : Int32))])) _
      exact retN X46 hx (t := .boolean) Bd.returns (by simp) (hb hby at_115) hr
    · show own_Pure (some (.int 1)) h0 n0 _ T46.heap _
      rw [e46]
      exact ⟨rfl, N46, rfl⟩
  · -- (1 : Int32)
    obtain ⟨T47, X47, e47, st47⟩ := getS2 X0 hx hZ hown (host := "") (Or.inl (hw _ (List.mem_of_getElem? (i := 17) rfl))) Via.refl e0 S_TINY (g := (mkF m 37 #[.val (.int p0), .val (.int p1), .val (.int (1 : Int32)), .val (.int ((1 : Int32) + (p1 &&& (536870911 : Int32)))), .val (.long ((((1 : Int32) + (p1 &&& (536870911 : Int32))).toInt64) - (1 : Int64))), .second, .unset, .unset, .unset, .unset] [])) rfl (hb hby at_37)
    obtain ⟨cq48, kq48, q48a, q48b, q48c⟩ := isOf hZ e47 (E_TINY)
    obtain ⟨_, _, ⟨T48, L48, k48, n48⟩, -, X48, ⟨Lc48, hQ48, l48, y48, z48⟩, st48⟩ := X47.virtualBack hx (y := (⟨"com/example/rowstrata/rowstrata/row/VarTable", "size", "(I)I"⟩ : MethodName)) (z := (⟨"com/example/rowstrata/rowstrata/row/VarTable", "size", "(I)I"⟩ : MethodName)) hown (mvT hZ (hw _ (List.mem_of_getElem? (i := 4) rfl))) (mvT hZ (hw _ (List.mem_of_getElem? (i := 5) rfl))) (notFace_of_selects (args := #[]) (mvT hZ (hw _ (List.mem_of_getElem? (i := 7) rfl)))) (mvT hZ (hw _ (List.mem_of_getElem? (i := 7) rfl))) (mvT hZ (hw _ (List.mem_of_getElem? (i := 6) rfl))) (by decide) (backOf (W := 0) (rm_size_TINY l Z a0 hw [] w_TINY ((1 : Int32) + (p1 &&& (536870911 : Int32))) h0 n0 Z0 w_NONE w_MEDIUM w_LARGE hWd) hZ (hw _ (List.mem_of_getElem? (i := 8) rfl)) (hw _ (List.mem_of_getElem? (i := 2) rfl)) (by decide) (by decide)) q48a q48c (g := (mkF m 96 #[.val (.int p0), .val (.int p1), .val (.int (1 : Int32)), .val (.int ((1 : Int32) + (p1 &&& (536870911 : Int32)))), .val (.long ((((1 : Int32) + (p1 &&& (536870911 : Int32))).toInt64) - (1 : Int64))), .second, .val (.ref w_TINY), .val (.long ((1 : Int64) + ((((1 : Int32) + (p1 &&& (536870911 : Int32))).toInt64) - (1 : Int64)))), .second, .unset] [(.int ((1 : Int32) + (p1 &&& (536870911 : Int32)))), (.ref w_TINY)])) rfl (by rw [hml]; rfl) (Steps.refl _) (argsL := [(.int ((1 : Int32) + (p1 &&& (536870911 : Int32))))]) (rest := []) (lenOf pd_16 rfl) rfl (by show 2 * 0 + _ ≤ _; exact Nat.le_of_eq rfl) (hb hby at_96) (fun _ _ => ⟨rfl, e47, (by decide : 0 + 0 ≤ _), (by decide : 0 + 0 ≤ _)⟩)
    dsimp only [Pt.U, Pt.locs, Pt.cells, Pt.slots] at X48 l48 y48 z48 st48 hQ48
    subst l48 y48 z48
    obtain ⟨rfl, N48q, e48⟩ := hQ48
    have N48 := Fr.app N0 N48q
    obtain ⟨fs, hr, hrun, hended, hW, hsame⟩ := X48.leave (v := some (.int (1 : Int32))) (fun h => by rw [Bd.returns] at h; cases h)
    refine ⟨_, _, pre0 _ ?_, hrun, hended, _, _, rfl, ?_, ⟨_, rfl⟩, hW, hsame.mono (by decide) (by decide)⟩
    · show Steps p.tables e below (s₁.setTop (mkF m 0 #[.val (.int p0), .val (.int p1), .unset, .unset, .unset, .unset, .unset, .unset, .unset, .unset] [])) _
      refine XS.iloadN X0.here hx rfl (hb hby at_0) rfl ?_
      show Steps p.tables e below (s₁.setTop (mkF m 1 #[.val (.int p0), .val (.int p1), .unset, .unset, .unset, .unset, .unset, .unset, .unset, .unset] [(.int p0)])) _
      refine XS.iconst X0.here hx rfl (hb hby at_1) ?_
      show Steps p.tables e below (s₁.setTop (mkF m 2 #[.val (.int p0), .val (.int p1), .unset, .unset, .unset, .unset, .unset, .unset, .unset, .unset] [(.int (3 : Int32)), (.int p0)])) _
      refine XS.iand X0.here hx rfl (hb hby at_2) rfl ?_
      show Steps p.tables e below (s₁.setTop (mkF m 3 #[.val (.int p0), .val (.int p1), .unset, .unset, .unset, .unset, .unset, .unset, .unset, .unset] [(.int (p0 &&& (3 : Int32)))])) _
      rw [hv42]
      show Steps p.tables e below (s₁.setTop (mkF m 3 #[.val (.int p0), .val (.int p1), .unset, .unset, .unset, .unset, .unset, .unset, .unset, .unset] [(.int (1 : Int32))])) _
      refine XS.istoreN X0.here hx rfl (hb hby at_3) rfl (l' := #[.val (.int p0), .val (.int p1), .val (.int (1 : Int32)), .unset, .unset, .unset, .unset, .unset, .unset, .unset]) rfl ?_
      show Steps p.tables e below (s₁.setTop (mkF m 4 #[.val (.int p0), .val (.int p1), .val (.int (1 : Int32)), .unset, .unset, .unset, .unset, .unset, .unset, .unset] [])) _
      refine XS.iconst X0.here hx rfl (hb hby at_4) ?_
      show Steps p.tables e below (s₁.setTop (mkF m 5 #[.val (.int p0), .val (.int p1), .val (.int (1 : Int32)), .unset, .unset, .unset, .unset, .unset, .unset, .unset] [(.int (1 : Int32))])) _
      refine XS.iloadN X0.here hx rfl (hb hby at_5) rfl ?_
      show Steps p.tables e below (s₁.setTop (mkF m 6 #[.val (.int p0), .val (.int p1), .val (.int (1 : Int32)), .unset, .unset, .unset, .unset, .unset, .unset, .unset] [(.int p1), (.int (1 : Int32))])) _
      refine X0.ldcInt hx hown (mvT hZ (hw _ (List.mem_of_getElem? (i := 0) rfl))) (g := (mkF m 6 #[.val (.int p0), .val (.int p1), .val (.int (1 : Int32)), .unset, .unset, .unset, .unset, .unset, .unset, .unset] [(.int p1), (.int (1 : Int32))])) rfl (hb hby at_6) _ ?_
      show Steps p.tables e below (s₁.setTop (mkF m 8 #[.val (.int p0), .val (.int p1), .val (.int (1 : Int32)), .unset, .unset, .unset, .unset, .unset, .unset, .unset] [(.int (536870911 : Int32)), (.int p1), (.int (1 : Int32))])) _
      refine XS.iand X0.here hx rfl (hb hby at_8) rfl ?_
      show Steps p.tables e below (s₁.setTop (mkF m 9 #[.val (.int p0), .val (.int p1), .val (.int (1 : Int32)), .unset, .unset, .unset, .unset, .unset, .unset, .unset] [(.int (p1 &&& (536870911 : Int32))), (.int (1 : Int32))])) _
      refine XS.iadd X0.here hx rfl (hb hby at_9) rfl ?_
      show Steps p.tables e below (s₁.setTop (mkF m 10 #[.val (.int p0), .val (.int p1), .val (.int (1 : Int32)), .unset, .unset, .unset, .unset, .unset, .unset, .unset] [(.int ((1 : Int32) + (p1 &&& (536870911 : Int32))))])) _
      refine XS.istoreN X0.here hx rfl (hb hby at_10) rfl (l' := #[.val (.int p0), .val (.int p1), .val (.int (1 : Int32)), .val (.int ((1 : Int32) + (p1 &&& (536870911 : Int32)))), .unset, .unset, .unset, .unset, .unset, .unset]) rfl ?_
      show Steps p.tables e below (s₁.setTop (mkF m 11 #[.val (.int p0), .val (.int p1), .val (.int (1 : Int32)), .val (.int ((1 : Int32) + (p1 &&& (536870911 : Int32)))), .unset, .unset, .unset, .unset, .unset, .unset] [])) _
      refine XS.iloadN X0.here hx rfl (hb hby at_11) rfl ?_
      show Steps p.tables e below (s₁.setTop (mkF m 12 #[.val (.int p0), .val (.int p1), .val (.int (1 : Int32)), .val (.int ((1 : Int32) + (p1 &&& (536870911 : Int32)))), .unset, .unset, .unset, .unset, .unset, .unset] [(.int ((1 : Int32) + (p1 &&& (536870911 : Int32))))])) _
      refine XS.i2l X0.here hx rfl (hb hby at_12) rfl ?_
      show Steps p.tables e below (s₁.setTop (mkF m 13 #[.val (.int p0), .val (.int p1), .val (.int (1 : Int32)), .val (.int ((1 : Int32) + (p1 &&& (536870911 : Int32)))), .unset, .unset, .unset, .unset, .unset, .unset] [(.long (((1 : Int32) + (p1 &&& (536870911 : Int32))).toInt64))])) _
      refine XS.lconst X0.here hx rfl (hb hby at_13) ?_
      show Steps p.tables e below (s₁.setTop (mkF m 14 #[.val (.int p0), .val (.int p1), .val (.int (1 : Int32)), .val (.int ((1 : Int32) + (p1 &&& (536870911 : Int32)))), .unset, .unset, .unset, .unset, .unset, .unset] [(.long (1 : Int64)), (.long (((1 : Int32) + (p1 &&& (536870911 : Int32))).toInt64))])) _
      refine XS.lsub X0.here hx rfl (hb hby at_14) rfl ?_
      show Steps p.tables e below (s₁.setTop (mkF m 15 #[.val (.int p0), .val (.int p1), .val (.int (1 : Int32)), .val (.int ((1 : Int32) + (p1 &&& (536870911 : Int32)))), .unset, .unset, .unset, .unset, .unset, .unset] [(.long ((((1 : Int32) + (p1 &&& (536870911 : Int32))).toInt64) - (1 : Int64)))])) _
      refine XS.lstore X0.here hx rfl (hb hby at_15) rfl (l' := #[.val (.int p0), .val (.int p1), .val (.int (1 : Int32)), .val (.int ((1 : Int32) + (p1 &&& (536870911 : Int32)))), .val (.long ((((1 : Int32) + (p1 &&& (536870911 : Int32))).toInt64) - (1 : Int64))), .second, .unset, .unset, .unset, .unset]) rfl ?_
      show Steps p.tables e below (s₁.setTop (mkF m 17 #[.val (.int p0), .val (.int p1), .val (.int (1 : Int32)), .val (.int ((1 : Int32) + (p1 &&& (536870911 : Int32)))), .val (.long ((((1 : Int32) + (p1 &&& (536870911 : Int32))).toInt64) - (1 : Int64))), .second, .unset, .unset, .unset, .unset] [])) _
      refine XS.iloadN X0.here hx rfl (hb hby at_17) rfl ?_
      show Steps p.tables e below (s₁.setTop (mkF m 18 #[.val (.int p0), .val (.int p1), .val (.int (1 : Int32)), .val (.int ((1 : Int32) + (p1 &&& (536870911 : Int32)))), .val (.long ((((1 : Int32) + (p1 &&& (536870911 : Int32))).toInt64) - (1 : Int64))), .second, .unset, .unset, .unset, .unset] [(.int (1 : Int32))])) _
      refine XS.ifYes X0.here hx rfl (pc0 := 18) (pc' := 32) rfl (hb hby at_18) rfl ((if0 _ _).trans (feq (by decide : ¬ ((1 : Int32) = (0 : Int32)))).2) (by decide) (by decide) ?_
      show Steps p.tables e below (s₁.setTop (mkF m 32 #[.val (.int p0), .val (.int p1), .val (.int (1 : Int32)), .val (.int ((1 : Int32) + (p1 &&& (536870911 : Int32)))), .val (.long ((((1 : Int32) + (p1 &&& (536870911 : Int32))).toInt64) - (1 : Int64))), .second, .unset, .unset, .unset, .unset] [])) _
      refine XS.iloadN X0.here hx rfl (hb hby at_32) rfl ?_
      show Steps p.tables e below (s₁.setTop (mkF m 33 #[.val (.int p0), .val (.int p1), .val (.int (1 : Int32)), .val (.int ((1 : Int32) + (p1 &&& (536870911 : Int32)))), .val (.long ((((1 : Int32) + (p1 &&& (536870911 : Int32))).toInt64) - (1 : Int64))), .second, .unset, .unset, .unset, .unset] [(.int (1 : Int32))])) _
      refine XS.iconst X0.here hx rfl (hb hby at_33) ?_
      show Steps p.tables e below (s₁.setTop (mkF m 34 #[.val (.int p0), .val (.int p1), .val (.int (1 : Int32)), .val (.int ((1 : Int32) + (p1 &&& (536870911 : Int32)))), .val (.long ((((1 : Int32) + (p1 &&& (536870911 : Int32))).toInt64) - (1 : Int64))), .second, .unset, .unset, .unset, .unset] [(.int (1 : Int32)), (.int (1 : Int32))])) _
      refine XS.icmpNo X0.here hx rfl (hb hby at_34) rfl (teq (by decide : (1 : Int32) = (1 : Int32))).2 ?_
      show Steps p.tables e below (s₁.setTop (mkF m 37 #[.val (.int p0), .val (.int p1), .val (.int (1 : Int32)), .val (.int ((1 : Int32) + (p1 &&& (536870911 : Int32)))), .val (.long ((((1 : Int32) + (p1 &&& (536870911 : Int32))).toInt64) - (1 : Int64))), .second, .unset, .unset, .unset, .unset] [])) _
      refine st47 _ ?_
      show Steps p.tables e below (T47.setTop (mkF m 40 #[.val (.int p0), .val (.int p1), .val (.int (1 : Int32)), .val (.int ((1 : Int32) + (p1 &&& (536870911 : Int32)))), .val (.long ((((1 : Int32) + (p1 &&& (536870911 : Int32))).toInt64) - (1 : Int64))), .second, .unset, .unset, .unset, .unset] [(.ref w_TINY)])) _
      refine XS.astore X47.here hx rfl (hb hby at_40) rfl rfl (l' := #[.val (.int p0), .val (.int p1), .val (.int (1 : Int32)), .val (.int ((1 : Int32) + (p1 &&& (536870911 : Int32)))), .val (.long ((((1 : Int32) + (p1 &&& (536870911 : Int32))).toInt64) - (1 : Int64))), .second, .val (.ref w_TINY), .unset, .unset, .unset]) rfl ?_
      show Steps p.tables e below (T47.setTop (mkF m 42 #[.val (.int p0), .val (.int p1), .val (.int (1 : Int32)), .val (.int ((1 : Int32) + (p1 &&& (536870911 : Int32)))), .val (.long ((((1 : Int32) + (p1 &&& (536870911 : Int32))).toInt64) - (1 : Int64))), .second, .val (.ref w_TINY), .unset, .unset, .unset] [])) _
      refine XS.lconst X47.here hx rfl (hb hby at_42) ?_
      show Steps p.tables e below (T47.setTop (mkF m 43 #[.val (.int p0), .val (.int p1), .val (.int (1 : Int32)), .val (.int ((1 : Int32) + (p1 &&& (536870911 : Int32)))), .val (.long ((((1 : Int32) + (p1 &&& (536870911 : Int32))).toInt64) - (1 : Int64))), .second, .val (.ref w_TINY), .unset, .unset, .unset] [(.long (1 : Int64))])) _
      refine XS.lload X47.here hx rfl (hb hby at_43) rfl ?_
      show Steps p.tables e below (T47.setTop (mkF m 45 #[.val (.int p0), .val (.int p1), .val (.int (1 : Int32)), .val (.int ((1 : Int32) + (p1 &&& (536870911 : Int32)))), .val (.long ((((1 : Int32) + (p1 &&& (536870911 : Int32))).toInt64) - (1 : Int64))), .second, .val (.ref w_TINY), .unset, .unset, .unset] [(.long ((((1 : Int32) + (p1 &&& (536870911 : Int32))).toInt64) - (1 : Int64))), (.long (1 : Int64))])) _
      refine XS.ladd X47.here hx rfl (hb hby at_45) rfl ?_
      show Steps p.tables e below (T47.setTop (mkF m 46 #[.val (.int p0), .val (.int p1), .val (.int (1 : Int32)), .val (.int ((1 : Int32) + (p1 &&& (536870911 : Int32)))), .val (.long ((((1 : Int32) + (p1 &&& (536870911 : Int32))).toInt64) - (1 : Int64))), .second, .val (.ref w_TINY), .unset, .unset, .unset] [(.long ((1 : Int64) + ((((1 : Int32) + (p1 &&& (536870911 : Int32))).toInt64) - (1 : Int64))))])) _
      refine XS.lstore X47.here hx rfl (hb hby at_46) rfl (l' := #[.val (.int p0), .val (.int p1), .val (.int (1 : Int32)), .val (.int ((1 : Int32) + (p1 &&& (536870911 : Int32)))), .val (.long ((((1 : Int32) + (p1 &&& (536870911 : Int32))).toInt64) - (1 : Int64))), .second, .val (.ref w_TINY), .val (.long ((1 : Int64) + ((((1 : Int32) + (p1 &&& (536870911 : Int32))).toInt64) - (1 : Int64)))), .second, .unset]) rfl ?_
      show Steps p.tables e below (T47.setTop (mkF m 48 #[.val (.int p0), .val (.int p1), .val (.int (1 : Int32)), .val (.int ((1 : Int32) + (p1 &&& (536870911 : Int32)))), .val (.long ((((1 : Int32) + (p1 &&& (536870911 : Int32))).toInt64) - (1 : Int64))), .second, .val (.ref w_TINY), .val (.long ((1 : Int64) + ((((1 : Int32) + (p1 &&& (536870911 : Int32))).toInt64) - (1 : Int64)))), .second, .unset] [])) _
      refine XS.goto X47.here hx rfl (pc0 := 48) (pc' := 93) rfl (hb hby at_48) (by decide) (by decide) ?_
      show Steps p.tables e below (T47.setTop (mkF m 93 #[.val (.int p0), .val (.int p1), .val (.int (1 : Int32)), .val (.int ((1 : Int32) + (p1 &&& (536870911 : Int32)))), .val (.long ((((1 : Int32) + (p1 &&& (536870911 : Int32))).toInt64) - (1 : Int64))), .second, .val (.ref w_TINY), .val (.long ((1 : Int64) + ((((1 : Int32) + (p1 &&& (536870911 : Int32))).toInt64) - (1 : Int64)))), .second, .unset] [])) _
      refine XS.aload X47.here hx rfl (hb hby at_93) rfl rfl ?_
      show Steps p.tables e below (T47.setTop (mkF m 95 #[.val (.int p0), .val (.int p1), .val (.int (1 : Int32)), .val (.int ((1 : Int32) + (p1 &&& (536870911 : Int32)))), .val (.long ((((1 : Int32) + (p1 &&& (536870911 : Int32))).toInt64) - (1 : Int64))), .second, .val (.ref w_TINY), .val (.long ((1 : Int64) + ((((1 : Int32) + (p1 &&& (536870911 : Int32))).toInt64) - (1 : Int64)))), .second, .unset] [(.ref w_TINY)])) _
      refine XS.iloadN X47.here hx rfl (hb hby at_95) rfl ?_
      show Steps p.tables e below (T47.setTop (mkF m 96 #[.val (.int p0), .val (.int p1), .val (.int (1 : Int32)), .val (.int ((1 : Int32) + (p1 &&& (536870911 : Int32)))), .val (.long ((((1 : Int32) + (p1 &&& (536870911 : Int32))).toInt64) - (1 : Int64))), .second, .val (.ref w_TINY), .val (.long ((1 : Int64) + ((((1 : Int32) + (p1 &&& (536870911 : Int32))).toInt64) - (1 : Int64)))), .second, .unset] [(.int ((1 : Int32) + (p1 &&& (536870911 : Int32)))), (.ref w_TINY)])) _
      refine st48.trans ?_
      show Steps p.tables e below (T48.setTop (mkF m 99 #[.val (.int p0), .val (.int p1), .val (.int (1 : Int32)), .val (.int ((1 : Int32) + (p1 &&& (536870911 : Int32)))), .val (.long ((((1 : Int32) + (p1 &&& (536870911 : Int32))).toInt64) - (1 : Int64))), .second, .val (.ref w_TINY), .val (.long ((1 : Int64) + ((((1 : Int32) + (p1 &&& (536870911 : Int32))).toInt64) - (1 : Int64)))), .second, .unset] [(.int ((1 : Int32) + ((((1 : Int32) + (p1 &&& (536870911 : Int32))) - (1 : Int32)) * (1 : Int32))))])) _
      refine XS.istore X48.here hx rfl (hb hby at_99) rfl (l' := #[.val (.int p0), .val (.int p1), .val (.int (1 : Int32)), .val (.int ((1 : Int32) + (p1 &&& (536870911 : Int32)))), .val (.long ((((1 : Int32) + (p1 &&& (536870911 : Int32))).toInt64) - (1 : Int64))), .second, .val (.ref w_TINY), .val (.long ((1 : Int64) + ((((1 : Int32) + (p1 &&& (536870911 : Int32))).toInt64) - (1 : Int64)))), .second, .val (.int ((1 : Int32) + ((((1 : Int32) + (p1 &&& (536870911 : Int32))) - (1 : Int32)) * (1 : Int32))))]) rfl ?_
      show Steps p.tables e below (T48.setTop (mkF m 101 #[.val (.int p0), .val (.int p1), .val (.int (1 : Int32)), .val (.int ((1 : Int32) + (p1 &&& (536870911 : Int32)))), .val (.long ((((1 : Int32) + (p1 &&& (536870911 : Int32))).toInt64) - (1 : Int64))), .second, .val (.ref w_TINY), .val (.long ((1 : Int64) + ((((1 : Int32) + (p1 &&& (536870911 : Int32))).toInt64) - (1 : Int64)))), .second, .val (.int ((1 : Int32) + ((((1 : Int32) + (p1 &&& (536870911 : Int32))) - (1 : Int32)) * (1 : Int32))))] [])) _
      refine XS.iload X48.here hx rfl (hb hby at_101) rfl ?_
      show Steps p.tables e below (T48.setTop (mkF m 103 #[.val (.int p0), .val (.int p1), .val (.int (1 : Int32)), .val (.int ((1 : Int32) + (p1 &&& (536870911 : Int32)))), .val (.long ((((1 : Int32) + (p1 &&& (536870911 : Int32))).toInt64) - (1 : Int64))), .second, .val (.ref w_TINY), .val (.long ((1 : Int64) + ((((1 : Int32) + (p1 &&& (536870911 : Int32))).toInt64) - (1 : Int64)))), .second, .val (.int ((1 : Int32) + ((((1 : Int32) + (p1 &&& (536870911 : Int32))) - (1 : Int32)) * (1 : Int32))))] [(.int ((1 : Int32) + ((((1 : Int32) + (p1 &&& (536870911 : Int32))) - (1 : Int32)) * (1 : Int32))))])) _
      refine XS.i2l X48.here hx rfl (hb hby at_103) rfl ?_
      show Steps p.tables e below (T48.setTop (mkF m 104 #[.val (.int p0), .val (.int p1), .val (.int (1 : Int32)), .val (.int ((1 : Int32) + (p1 &&& (536870911 : Int32)))), .val (.long ((((1 : Int32) + (p1 &&& (536870911 : Int32))).toInt64) - (1 : Int64))), .second, .val (.ref w_TINY), .val (.long ((1 : Int64) + ((((1 : Int32) + (p1 &&& (536870911 : Int32))).toInt64) - (1 : Int64)))), .second, .val (.int ((1 : Int32) + ((((1 : Int32) + (p1 &&& (536870911 : Int32))) - (1 : Int32)) * (1 : Int32))))] [(.long (((1 : Int32) + ((((1 : Int32) + (p1 &&& (536870911 : Int32))) - (1 : Int32)) * (1 : Int32))).toInt64))])) _
      refine XS.lload X48.here hx rfl (hb hby at_104) rfl ?_
      show Steps p.tables e below (T48.setTop (mkF m 106 #[.val (.int p0), .val (.int p1), .val (.int (1 : Int32)), .val (.int ((1 : Int32) + (p1 &&& (536870911 : Int32)))), .val (.long ((((1 : Int32) + (p1 &&& (536870911 : Int32))).toInt64) - (1 : Int64))), .second, .val (.ref w_TINY), .val (.long ((1 : Int64) + ((((1 : Int32) + (p1 &&& (536870911 : Int32))).toInt64) - (1 : Int64)))), .second, .val (.int ((1 : Int32) + ((((1 : Int32) + (p1 &&& (536870911 : Int32))) - (1 : Int32)) * (1 : Int32))))] [(.long ((1 : Int64) + ((((1 : Int32) + (p1 &&& (536870911 : Int32))).toInt64) - (1 : Int64)))), (.long (((1 : Int32) + ((((1 : Int32) + (p1 &&& (536870911 : Int32))) - (1 : Int32)) * (1 : Int32))).toInt64))])) _
      refine XS.lcmp X48.here hx rfl (hb hby at_106) rfl ?_
      show Steps p.tables e below (T48.setTop (mkF m 107 #[.val (.int p0), .val (.int p1), .val (.int (1 : Int32)), .val (.int ((1 : Int32) + (p1 &&& (536870911 : Int32)))), .val (.long ((((1 : Int32) + (p1 &&& (536870911 : Int32))).toInt64) - (1 : Int64))), .second, .val (.ref w_TINY), .val (.long ((1 : Int64) + ((((1 : Int32) + (p1 &&& (536870911 : Int32))).toInt64) - (1 : Int64)))), .second, .val (.int ((1 : Int32) + ((((1 : Int32) + (p1 &&& (536870911 : Int32))) - (1 : Int32)) * (1 : Int32))))] [(.int (lcmpW (((1 : Int32) + ((((1 : Int32) + (p1 &&& (536870911 : Int32))) - (1 : Int32)) * (1 : Int32))).toInt64) ((1 : Int64) + ((((1 : Int32) + (p1 &&& (536870911 : Int32))).toInt64) - (1 : Int64)))))])) _
      refine XS.ifNo X48.here hx rfl (hb hby at_107) rfl ((if0 _ _).trans (teq (own_eq1 p1)).2) ?_
      show Steps p.tables e below (T48.setTop (mkF m 110 #[.val (.int p0), .val (.int p1), .val (.int (1 : Int32)), .val (.int ((1 : Int32) + (p1 &&& (536870911 : Int32)))), .val (.long ((((1 : Int32) + (p1 &&& (536870911 : Int32))).toInt64) - (1 : Int64))), .second, .val (.ref w_TINY), .val (.long ((1 : Int64) + ((((1 : Int32) + (p1 &&& (536870911 : Int32))).toInt64) - (1 : Int64)))), .second, .val (.int ((1 : Int32) + ((((1 : Int32) + (p1 &&& (536870911 : Int32))) - (1 : Int32)) * (1 : Int32))))] [])) _
      refine XS.iconst X48.here hx rfl (hb hby at_110) ?_
      show Steps p.tables e below (T48.setTop (mkF m 111 #[.val (.int p0), .val (.int p1), .val (.int (1 : Int32)), .val (.int ((1 : Int32) + (p1 &&& (536870911 : Int32)))), .val (.long ((((1 : Int32) + (p1 &&& (536870911 : Int32))).toInt64) - (1 : Int64))), .second, .val (.ref w_TINY), .val (.long ((1 : Int64) + ((((1 : Int32) + (p1 &&& (536870911 : Int32))).toInt64) - (1 : Int64)))), .second, .val (.int ((1 : Int32) + ((((1 : Int32) + (p1 &&& (536870911 : Int32))) - (1 : Int32)) * (1 : Int32))))] [(.int (1 : Int32))])) _
      refine XS.goto X48.here hx rfl (pc0 := 111) (pc' := 115) rfl (hb hby at_111) (by decide) (by decide) ?_
      show Steps p.tables e below (T48.setTop (mkF m 115 #[.val (.int p0), .val (.int p1), .val (.int (1 : Int32)), .val (.int ((1 : Int32) + (p1 &&& (536870911 : Int32)))), .val (.long ((((1 : Int32) + (p1 &&& (536870911 : Int32))).toInt64) - (1 : Int64))), .second, .val (.ref w_TINY), .val (.long ((1 : Int64) + ((((1 : Int32) + (p1 &&& (536870911 : Int32))).toInt64) - (1 : Int64)))), .second, .val (.int ((1 : Int32) + ((((1 : Int32) + (p1 &&& (536870911 : Int32))) - (1 : Int32)) * (1 : Int32))))] [(.int (1 : Int32))])) _
      exact retN X48 hx (t := .boolean) Bd.returns (by simp) (hb hby at_115) hr
    · show own_Pure (some (.int 1)) h0 n0 _ T48.heap _
      rw [e48]
      exact ⟨rfl, N48, rfl⟩
  · -- (2 : Int32)
    obtain ⟨T49, X49, e49, st49⟩ := getS2 X0 hx hZ hown (host := "") (Or.inl (hw _ (List.mem_of_getElem? (i := 10) rfl))) Via.refl e0 S_MEDIUM (g := (mkF m 56 #[.val (.int p0), .val (.int p1), .val (.int (2 : Int32)), .val (.int ((1 : Int32) + (p1 &&& (536870911 : Int32)))), .val (.long ((((1 : Int32) + (p1 &&& (536870911 : Int32))).toInt64) - (1 : Int64))), .second, .unset, .unset, .unset, .unset] [])) rfl (hb hby at_56)
    obtain ⟨cq50, kq50, q50a, q50b, q50c⟩ := isOf hZ e49 (E_MEDIUM)
    obtain ⟨_, _, ⟨T50, L50, k50, n50⟩, -, X50, ⟨Lc50, hQ50, l50, y50, z50⟩, st50⟩ := X49.virtualBack hx (y := (⟨"com/example/rowstrata/rowstrata/row/VarTable", "size", "(I)I"⟩ : MethodName)) (z := (⟨"com/example/rowstrata/rowstrata/row/VarTable", "size", "(I)I"⟩ : MethodName)) hown (mvT hZ (hw _ (List.mem_of_getElem? (i := 4) rfl))) (mvT hZ (hw _ (List.mem_of_getElem? (i := 5) rfl))) (notFace_of_selects (args := #[]) (mvT hZ (hw _ (List.mem_of_getElem? (i := 7) rfl)))) (mvT hZ (hw _ (List.mem_of_getElem? (i := 7) rfl))) (mvT hZ (hw _ (List.mem_of_getElem? (i := 6) rfl))) (by decide) (backOf (W := 0) (rm_size_MEDIUM l Z a0 hw [] w_MEDIUM ((1 : Int32) + (p1 &&& (536870911 : Int32))) h0 n0 Z0 w_NONE w_TINY w_LARGE hWd) hZ (hw _ (List.mem_of_getElem? (i := 8) rfl)) (hw _ (List.mem_of_getElem? (i := 2) rfl)) (by decide) (by decide)) q50a q50c (g := (mkF m 96 #[.val (.int p0), .val (.int p1), .val (.int (2 : Int32)), .val (.int ((1 : Int32) + (p1 &&& (536870911 : Int32)))), .val (.long ((((1 : Int32) + (p1 &&& (536870911 : Int32))).toInt64) - (1 : Int64))), .second, .val (.ref w_MEDIUM), .val (.long ((2 : Int64) + ((2 : Int64) * ((((1 : Int32) + (p1 &&& (536870911 : Int32))).toInt64) - (1 : Int64))))), .second, .unset] [(.int ((1 : Int32) + (p1 &&& (536870911 : Int32)))), (.ref w_MEDIUM)])) rfl (by rw [hml]; rfl) (Steps.refl _) (argsL := [(.int ((1 : Int32) + (p1 &&& (536870911 : Int32))))]) (rest := []) (lenOf pd_16 rfl) rfl (by show 2 * 0 + _ ≤ _; exact Nat.le_of_eq rfl) (hb hby at_96) (fun _ _ => ⟨rfl, e49, (by decide : 0 + 0 ≤ _), (by decide : 0 + 0 ≤ _)⟩)
    dsimp only [Pt.U, Pt.locs, Pt.cells, Pt.slots] at X50 l50 y50 z50 st50 hQ50
    subst l50 y50 z50
    obtain ⟨rfl, N50q, e50⟩ := hQ50
    have N50 := Fr.app N0 N50q
    obtain ⟨fs, hr, hrun, hended, hW, hsame⟩ := X50.leave (v := some (.int (1 : Int32))) (fun h => by rw [Bd.returns] at h; cases h)
    refine ⟨_, _, pre0 _ ?_, hrun, hended, _, _, rfl, ?_, ⟨_, rfl⟩, hW, hsame.mono (by decide) (by decide)⟩
    · show Steps p.tables e below (s₁.setTop (mkF m 0 #[.val (.int p0), .val (.int p1), .unset, .unset, .unset, .unset, .unset, .unset, .unset, .unset] [])) _
      refine XS.iloadN X0.here hx rfl (hb hby at_0) rfl ?_
      show Steps p.tables e below (s₁.setTop (mkF m 1 #[.val (.int p0), .val (.int p1), .unset, .unset, .unset, .unset, .unset, .unset, .unset, .unset] [(.int p0)])) _
      refine XS.iconst X0.here hx rfl (hb hby at_1) ?_
      show Steps p.tables e below (s₁.setTop (mkF m 2 #[.val (.int p0), .val (.int p1), .unset, .unset, .unset, .unset, .unset, .unset, .unset, .unset] [(.int (3 : Int32)), (.int p0)])) _
      refine XS.iand X0.here hx rfl (hb hby at_2) rfl ?_
      show Steps p.tables e below (s₁.setTop (mkF m 3 #[.val (.int p0), .val (.int p1), .unset, .unset, .unset, .unset, .unset, .unset, .unset, .unset] [(.int (p0 &&& (3 : Int32)))])) _
      rw [hv43]
      show Steps p.tables e below (s₁.setTop (mkF m 3 #[.val (.int p0), .val (.int p1), .unset, .unset, .unset, .unset, .unset, .unset, .unset, .unset] [(.int (2 : Int32))])) _
      refine XS.istoreN X0.here hx rfl (hb hby at_3) rfl (l' := #[.val (.int p0), .val (.int p1), .val (.int (2 : Int32)), .unset, .unset, .unset, .unset, .unset, .unset, .unset]) rfl ?_
      show Steps p.tables e below (s₁.setTop (mkF m 4 #[.val (.int p0), .val (.int p1), .val (.int (2 : Int32)), .unset, .unset, .unset, .unset, .unset, .unset, .unset] [])) _
      refine XS.iconst X0.here hx rfl (hb hby at_4) ?_
      show Steps p.tables e below (s₁.setTop (mkF m 5 #[.val (.int p0), .val (.int p1), .val (.int (2 : Int32)), .unset, .unset, .unset, .unset, .unset, .unset, .unset] [(.int (1 : Int32))])) _
      refine XS.iloadN X0.here hx rfl (hb hby at_5) rfl ?_
      show Steps p.tables e below (s₁.setTop (mkF m 6 #[.val (.int p0), .val (.int p1), .val (.int (2 : Int32)), .unset, .unset, .unset, .unset, .unset, .unset, .unset] [(.int p1), (.int (1 : Int32))])) _
      refine X0.ldcInt hx hown (mvT hZ (hw _ (List.mem_of_getElem? (i := 0) rfl))) (g := (mkF m 6 #[.val (.int p0), .val (.int p1), .val (.int (2 : Int32)), .unset, .unset, .unset, .unset, .unset, .unset, .unset] [(.int p1), (.int (1 : Int32))])) rfl (hb hby at_6) _ ?_
      show Steps p.tables e below (s₁.setTop (mkF m 8 #[.val (.int p0), .val (.int p1), .val (.int (2 : Int32)), .unset, .unset, .unset, .unset, .unset, .unset, .unset] [(.int (536870911 : Int32)), (.int p1), (.int (1 : Int32))])) _
      refine XS.iand X0.here hx rfl (hb hby at_8) rfl ?_
      show Steps p.tables e below (s₁.setTop (mkF m 9 #[.val (.int p0), .val (.int p1), .val (.int (2 : Int32)), .unset, .unset, .unset, .unset, .unset, .unset, .unset] [(.int (p1 &&& (536870911 : Int32))), (.int (1 : Int32))])) _
      refine XS.iadd X0.here hx rfl (hb hby at_9) rfl ?_
      show Steps p.tables e below (s₁.setTop (mkF m 10 #[.val (.int p0), .val (.int p1), .val (.int (2 : Int32)), .unset, .unset, .unset, .unset, .unset, .unset, .unset] [(.int ((1 : Int32) + (p1 &&& (536870911 : Int32))))])) _
      refine XS.istoreN X0.here hx rfl (hb hby at_10) rfl (l' := #[.val (.int p0), .val (.int p1), .val (.int (2 : Int32)), .val (.int ((1 : Int32) + (p1 &&& (536870911 : Int32)))), .unset, .unset, .unset, .unset, .unset, .unset]) rfl ?_
      show Steps p.tables e below (s₁.setTop (mkF m 11 #[.val (.int p0), .val (.int p1), .val (.int (2 : Int32)), .val (.int ((1 : Int32) + (p1 &&& (536870911 : Int32)))), .unset, .unset, .unset, .unset, .unset, .unset] [])) _
      refine XS.iloadN X0.here hx rfl (hb hby at_11) rfl ?_
      show Steps p.tables e below (s₁.setTop (mkF m 12 #[.val (.int p0), .val (.int p1), .val (.int (2 : Int32)), .val (.int ((1 : Int32) + (p1 &&& (536870911 : Int32)))), .unset, .unset, .unset, .unset, .unset, .unset] [(.int ((1 : Int32) + (p1 &&& (536870911 : Int32))))])) _
      refine XS.i2l X0.here hx rfl (hb hby at_12) rfl ?_
      show Steps p.tables e below (s₁.setTop (mkF m 13 #[.val (.int p0), .val (.int p1), .val (.int (2 : Int32)), .val (.int ((1 : Int32) + (p1 &&& (536870911 : Int32)))), .unset, .unset, .unset, .unset, .unset, .unset] [(.long (((1 : Int32) + (p1 &&& (536870911 : Int32))).toInt64))])) _
      refine XS.lconst X0.here hx rfl (hb hby at_13) ?_
      show Steps p.tables e below (s₁.setTop (mkF m 14 #[.val (.int p0), .val (.int p1), .val (.int (2 : Int32)), .val (.int ((1 : Int32) + (p1 &&& (536870911 : Int32)))), .unset, .unset, .unset, .unset, .unset, .unset] [(.long (1 : Int64)), (.long (((1 : Int32) + (p1 &&& (536870911 : Int32))).toInt64))])) _
      refine XS.lsub X0.here hx rfl (hb hby at_14) rfl ?_
      show Steps p.tables e below (s₁.setTop (mkF m 15 #[.val (.int p0), .val (.int p1), .val (.int (2 : Int32)), .val (.int ((1 : Int32) + (p1 &&& (536870911 : Int32)))), .unset, .unset, .unset, .unset, .unset, .unset] [(.long ((((1 : Int32) + (p1 &&& (536870911 : Int32))).toInt64) - (1 : Int64)))])) _
      refine XS.lstore X0.here hx rfl (hb hby at_15) rfl (l' := #[.val (.int p0), .val (.int p1), .val (.int (2 : Int32)), .val (.int ((1 : Int32) + (p1 &&& (536870911 : Int32)))), .val (.long ((((1 : Int32) + (p1 &&& (536870911 : Int32))).toInt64) - (1 : Int64))), .second, .unset, .unset, .unset, .unset]) rfl ?_
      show Steps p.tables e below (s₁.setTop (mkF m 17 #[.val (.int p0), .val (.int p1), .val (.int (2 : Int32)), .val (.int ((1 : Int32) + (p1 &&& (536870911 : Int32)))), .val (.long ((((1 : Int32) + (p1 &&& (536870911 : Int32))).toInt64) - (1 : Int64))), .second, .unset, .unset, .unset, .unset] [])) _
      refine XS.iloadN X0.here hx rfl (hb hby at_17) rfl ?_
      show Steps p.tables e below (s₁.setTop (mkF m 18 #[.val (.int p0), .val (.int p1), .val (.int (2 : Int32)), .val (.int ((1 : Int32) + (p1 &&& (536870911 : Int32)))), .val (.long ((((1 : Int32) + (p1 &&& (536870911 : Int32))).toInt64) - (1 : Int64))), .second, .unset, .unset, .unset, .unset] [(.int (2 : Int32))])) _
      refine XS.ifYes X0.here hx rfl (pc0 := 18) (pc' := 32) rfl (hb hby at_18) rfl ((if0 _ _).trans (feq (by decide : ¬ ((2 : Int32) = (0 : Int32)))).2) (by decide) (by decide) ?_
      show Steps p.tables e below (s₁.setTop (mkF m 32 #[.val (.int p0), .val (.int p1), .val (.int (2 : Int32)), .val (.int ((1 : Int32) + (p1 &&& (536870911 : Int32)))), .val (.long ((((1 : Int32) + (p1 &&& (536870911 : Int32))).toInt64) - (1 : Int64))), .second, .unset, .unset, .unset, .unset] [])) _
      refine XS.iloadN X0.here hx rfl (hb hby at_32) rfl ?_
      show Steps p.tables e below (s₁.setTop (mkF m 33 #[.val (.int p0), .val (.int p1), .val (.int (2 : Int32)), .val (.int ((1 : Int32) + (p1 &&& (536870911 : Int32)))), .val (.long ((((1 : Int32) + (p1 &&& (536870911 : Int32))).toInt64) - (1 : Int64))), .second, .unset, .unset, .unset, .unset] [(.int (2 : Int32))])) _
      refine XS.iconst X0.here hx rfl (hb hby at_33) ?_
      show Steps p.tables e below (s₁.setTop (mkF m 34 #[.val (.int p0), .val (.int p1), .val (.int (2 : Int32)), .val (.int ((1 : Int32) + (p1 &&& (536870911 : Int32)))), .val (.long ((((1 : Int32) + (p1 &&& (536870911 : Int32))).toInt64) - (1 : Int64))), .second, .unset, .unset, .unset, .unset] [(.int (1 : Int32)), (.int (2 : Int32))])) _
      refine XS.icmpYes X0.here hx rfl (pc0 := 34) (pc' := 51) rfl (hb hby at_34) rfl (feq (by decide : ¬ ((2 : Int32) = (1 : Int32)))).2 (by decide) (by decide) ?_
      show Steps p.tables e below (s₁.setTop (mkF m 51 #[.val (.int p0), .val (.int p1), .val (.int (2 : Int32)), .val (.int ((1 : Int32) + (p1 &&& (536870911 : Int32)))), .val (.long ((((1 : Int32) + (p1 &&& (536870911 : Int32))).toInt64) - (1 : Int64))), .second, .unset, .unset, .unset, .unset] [])) _
      refine XS.iloadN X0.here hx rfl (hb hby at_51) rfl ?_
      show Steps p.tables e below (s₁.setTop (mkF m 52 #[.val (.int p0), .val (.int p1), .val (.int (2 : Int32)), .val (.int ((1 : Int32) + (p1 &&& (536870911 : Int32)))), .val (.long ((((1 : Int32) + (p1 &&& (536870911 : Int32))).toInt64) - (1 : Int64))), .second, .unset, .unset, .unset, .unset] [(.int (2 : Int32))])) _
      refine XS.iconst X0.here hx rfl (hb hby at_52) ?_
      show Steps p.tables e below (s₁.setTop (mkF m 53 #[.val (.int p0), .val (.int p1), .val (.int (2 : Int32)), .val (.int ((1 : Int32) + (p1 &&& (536870911 : Int32)))), .val (.long ((((1 : Int32) + (p1 &&& (536870911 : Int32))).toInt64) - (1 : Int64))), .second, .unset, .unset, .unset, .unset] [(.int (2 : Int32)), (.int (2 : Int32))])) _
      refine XS.icmpNo X0.here hx rfl (hb hby at_53) rfl (teq (by decide : (2 : Int32) = (2 : Int32))).2 ?_
      show Steps p.tables e below (s₁.setTop (mkF m 56 #[.val (.int p0), .val (.int p1), .val (.int (2 : Int32)), .val (.int ((1 : Int32) + (p1 &&& (536870911 : Int32)))), .val (.long ((((1 : Int32) + (p1 &&& (536870911 : Int32))).toInt64) - (1 : Int64))), .second, .unset, .unset, .unset, .unset] [])) _
      refine st49 _ ?_
      show Steps p.tables e below (T49.setTop (mkF m 59 #[.val (.int p0), .val (.int p1), .val (.int (2 : Int32)), .val (.int ((1 : Int32) + (p1 &&& (536870911 : Int32)))), .val (.long ((((1 : Int32) + (p1 &&& (536870911 : Int32))).toInt64) - (1 : Int64))), .second, .unset, .unset, .unset, .unset] [(.ref w_MEDIUM)])) _
      refine XS.astore X49.here hx rfl (hb hby at_59) rfl rfl (l' := #[.val (.int p0), .val (.int p1), .val (.int (2 : Int32)), .val (.int ((1 : Int32) + (p1 &&& (536870911 : Int32)))), .val (.long ((((1 : Int32) + (p1 &&& (536870911 : Int32))).toInt64) - (1 : Int64))), .second, .val (.ref w_MEDIUM), .unset, .unset, .unset]) rfl ?_
      show Steps p.tables e below (T49.setTop (mkF m 61 #[.val (.int p0), .val (.int p1), .val (.int (2 : Int32)), .val (.int ((1 : Int32) + (p1 &&& (536870911 : Int32)))), .val (.long ((((1 : Int32) + (p1 &&& (536870911 : Int32))).toInt64) - (1 : Int64))), .second, .val (.ref w_MEDIUM), .unset, .unset, .unset] [])) _
      refine X49.ldc2Long hx hown (mvT hZ (hw _ (List.mem_of_getElem? (i := 12) rfl))) (g := (mkF m 61 #[.val (.int p0), .val (.int p1), .val (.int (2 : Int32)), .val (.int ((1 : Int32) + (p1 &&& (536870911 : Int32)))), .val (.long ((((1 : Int32) + (p1 &&& (536870911 : Int32))).toInt64) - (1 : Int64))), .second, .val (.ref w_MEDIUM), .unset, .unset, .unset] [])) rfl (hb hby at_61) _ ?_
      show Steps p.tables e below (T49.setTop (mkF m 64 #[.val (.int p0), .val (.int p1), .val (.int (2 : Int32)), .val (.int ((1 : Int32) + (p1 &&& (536870911 : Int32)))), .val (.long ((((1 : Int32) + (p1 &&& (536870911 : Int32))).toInt64) - (1 : Int64))), .second, .val (.ref w_MEDIUM), .unset, .unset, .unset] [(.long (2 : Int64))])) _
      refine X49.ldc2Long hx hown (mvT hZ (hw _ (List.mem_of_getElem? (i := 12) rfl))) (g := (mkF m 64 #[.val (.int p0), .val (.int p1), .val (.int (2 : Int32)), .val (.int ((1 : Int32) + (p1 &&& (536870911 : Int32)))), .val (.long ((((1 : Int32) + (p1 &&& (536870911 : Int32))).toInt64) - (1 : Int64))), .second, .val (.ref w_MEDIUM), .unset, .unset, .unset] [(.long (2 : Int64))])) rfl (hb hby at_64) _ ?_
      show Steps p.tables e below (T49.setTop (mkF m 67 #[.val (.int p0), .val (.int p1), .val (.int (2 : Int32)), .val (.int ((1 : Int32) + (p1 &&& (536870911 : Int32)))), .val (.long ((((1 : Int32) + (p1 &&& (536870911 : Int32))).toInt64) - (1 : Int64))), .second, .val (.ref w_MEDIUM), .unset, .unset, .unset] [(.long (2 : Int64)), (.long (2 : Int64))])) _
      refine XS.lload X49.here hx rfl (hb hby at_67) rfl ?_
      show Steps p.tables e below (T49.setTop (mkF m 69 #[.val (.int p0), .val (.int p1), .val (.int (2 : Int32)), .val (.int ((1 : Int32) + (p1 &&& (536870911 : Int32)))), .val (.long ((((1 : Int32) + (p1 &&& (536870911 : Int32))).toInt64) - (1 : Int64))), .second, .val (.ref w_MEDIUM), .unset, .unset, .unset] [(.long ((((1 : Int32) + (p1 &&& (536870911 : Int32))).toInt64) - (1 : Int64))), (.long (2 : Int64)), (.long (2 : Int64))])) _
      refine XS.lmul X49.here hx rfl (hb hby at_69) rfl ?_
      show Steps p.tables e below (T49.setTop (mkF m 70 #[.val (.int p0), .val (.int p1), .val (.int (2 : Int32)), .val (.int ((1 : Int32) + (p1 &&& (536870911 : Int32)))), .val (.long ((((1 : Int32) + (p1 &&& (536870911 : Int32))).toInt64) - (1 : Int64))), .second, .val (.ref w_MEDIUM), .unset, .unset, .unset] [(.long ((2 : Int64) * ((((1 : Int32) + (p1 &&& (536870911 : Int32))).toInt64) - (1 : Int64)))), (.long (2 : Int64))])) _
      refine XS.ladd X49.here hx rfl (hb hby at_70) rfl ?_
      show Steps p.tables e below (T49.setTop (mkF m 71 #[.val (.int p0), .val (.int p1), .val (.int (2 : Int32)), .val (.int ((1 : Int32) + (p1 &&& (536870911 : Int32)))), .val (.long ((((1 : Int32) + (p1 &&& (536870911 : Int32))).toInt64) - (1 : Int64))), .second, .val (.ref w_MEDIUM), .unset, .unset, .unset] [(.long ((2 : Int64) + ((2 : Int64) * ((((1 : Int32) + (p1 &&& (536870911 : Int32))).toInt64) - (1 : Int64)))))])) _
      refine XS.lstore X49.here hx rfl (hb hby at_71) rfl (l' := #[.val (.int p0), .val (.int p1), .val (.int (2 : Int32)), .val (.int ((1 : Int32) + (p1 &&& (536870911 : Int32)))), .val (.long ((((1 : Int32) + (p1 &&& (536870911 : Int32))).toInt64) - (1 : Int64))), .second, .val (.ref w_MEDIUM), .val (.long ((2 : Int64) + ((2 : Int64) * ((((1 : Int32) + (p1 &&& (536870911 : Int32))).toInt64) - (1 : Int64))))), .second, .unset]) rfl ?_
      show Steps p.tables e below (T49.setTop (mkF m 73 #[.val (.int p0), .val (.int p1), .val (.int (2 : Int32)), .val (.int ((1 : Int32) + (p1 &&& (536870911 : Int32)))), .val (.long ((((1 : Int32) + (p1 &&& (536870911 : Int32))).toInt64) - (1 : Int64))), .second, .val (.ref w_MEDIUM), .val (.long ((2 : Int64) + ((2 : Int64) * ((((1 : Int32) + (p1 &&& (536870911 : Int32))).toInt64) - (1 : Int64))))), .second, .unset] [])) _
      refine XS.goto X49.here hx rfl (pc0 := 73) (pc' := 93) rfl (hb hby at_73) (by decide) (by decide) ?_
      show Steps p.tables e below (T49.setTop (mkF m 93 #[.val (.int p0), .val (.int p1), .val (.int (2 : Int32)), .val (.int ((1 : Int32) + (p1 &&& (536870911 : Int32)))), .val (.long ((((1 : Int32) + (p1 &&& (536870911 : Int32))).toInt64) - (1 : Int64))), .second, .val (.ref w_MEDIUM), .val (.long ((2 : Int64) + ((2 : Int64) * ((((1 : Int32) + (p1 &&& (536870911 : Int32))).toInt64) - (1 : Int64))))), .second, .unset] [])) _
      refine XS.aload X49.here hx rfl (hb hby at_93) rfl rfl ?_
      show Steps p.tables e below (T49.setTop (mkF m 95 #[.val (.int p0), .val (.int p1), .val (.int (2 : Int32)), .val (.int ((1 : Int32) + (p1 &&& (536870911 : Int32)))), .val (.long ((((1 : Int32) + (p1 &&& (536870911 : Int32))).toInt64) - (1 : Int64))), .second, .val (.ref w_MEDIUM), .val (.long ((2 : Int64) + ((2 : Int64) * ((((1 : Int32) + (p1 &&& (536870911 : Int32))).toInt64) - (1 : Int64))))), .second, .unset] [(.ref w_MEDIUM)])) _
      refine XS.iloadN X49.here hx rfl (hb hby at_95) rfl ?_
      show Steps p.tables e below (T49.setTop (mkF m 96 #[.val (.int p0), .val (.int p1), .val (.int (2 : Int32)), .val (.int ((1 : Int32) + (p1 &&& (536870911 : Int32)))), .val (.long ((((1 : Int32) + (p1 &&& (536870911 : Int32))).toInt64) - (1 : Int64))), .second, .val (.ref w_MEDIUM), .val (.long ((2 : Int64) + ((2 : Int64) * ((((1 : Int32) + (p1 &&& (536870911 : Int32))).toInt64) - (1 : Int64))))), .second, .unset] [(.int ((1 : Int32) + (p1 &&& (536870911 : Int32)))), (.ref w_MEDIUM)])) _
      refine st50.trans ?_
      show Steps p.tables e below (T50.setTop (mkF m 99 #[.val (.int p0), .val (.int p1), .val (.int (2 : Int32)), .val (.int ((1 : Int32) + (p1 &&& (536870911 : Int32)))), .val (.long ((((1 : Int32) + (p1 &&& (536870911 : Int32))).toInt64) - (1 : Int64))), .second, .val (.ref w_MEDIUM), .val (.long ((2 : Int64) + ((2 : Int64) * ((((1 : Int32) + (p1 &&& (536870911 : Int32))).toInt64) - (1 : Int64))))), .second, .unset] [(.int ((2 : Int32) + ((((1 : Int32) + (p1 &&& (536870911 : Int32))) - (1 : Int32)) * (2 : Int32))))])) _
      refine XS.istore X50.here hx rfl (hb hby at_99) rfl (l' := #[.val (.int p0), .val (.int p1), .val (.int (2 : Int32)), .val (.int ((1 : Int32) + (p1 &&& (536870911 : Int32)))), .val (.long ((((1 : Int32) + (p1 &&& (536870911 : Int32))).toInt64) - (1 : Int64))), .second, .val (.ref w_MEDIUM), .val (.long ((2 : Int64) + ((2 : Int64) * ((((1 : Int32) + (p1 &&& (536870911 : Int32))).toInt64) - (1 : Int64))))), .second, .val (.int ((2 : Int32) + ((((1 : Int32) + (p1 &&& (536870911 : Int32))) - (1 : Int32)) * (2 : Int32))))]) rfl ?_
      show Steps p.tables e below (T50.setTop (mkF m 101 #[.val (.int p0), .val (.int p1), .val (.int (2 : Int32)), .val (.int ((1 : Int32) + (p1 &&& (536870911 : Int32)))), .val (.long ((((1 : Int32) + (p1 &&& (536870911 : Int32))).toInt64) - (1 : Int64))), .second, .val (.ref w_MEDIUM), .val (.long ((2 : Int64) + ((2 : Int64) * ((((1 : Int32) + (p1 &&& (536870911 : Int32))).toInt64) - (1 : Int64))))), .second, .val (.int ((2 : Int32) + ((((1 : Int32) + (p1 &&& (536870911 : Int32))) - (1 : Int32)) * (2 : Int32))))] [])) _
      refine XS.iload X50.here hx rfl (hb hby at_101) rfl ?_
      show Steps p.tables e below (T50.setTop (mkF m 103 #[.val (.int p0), .val (.int p1), .val (.int (2 : Int32)), .val (.int ((1 : Int32) + (p1 &&& (536870911 : Int32)))), .val (.long ((((1 : Int32) + (p1 &&& (536870911 : Int32))).toInt64) - (1 : Int64))), .second, .val (.ref w_MEDIUM), .val (.long ((2 : Int64) + ((2 : Int64) * ((((1 : Int32) + (p1 &&& (536870911 : Int32))).toInt64) - (1 : Int64))))), .second, .val (.int ((2 : Int32) + ((((1 : Int32) + (p1 &&& (536870911 : Int32))) - (1 : Int32)) * (2 : Int32))))] [(.int ((2 : Int32) + ((((1 : Int32) + (p1 &&& (536870911 : Int32))) - (1 : Int32)) * (2 : Int32))))])) _
      refine XS.i2l X50.here hx rfl (hb hby at_103) rfl ?_
      show Steps p.tables e below (T50.setTop (mkF m 104 #[.val (.int p0), .val (.int p1), .val (.int (2 : Int32)), .val (.int ((1 : Int32) + (p1 &&& (536870911 : Int32)))), .val (.long ((((1 : Int32) + (p1 &&& (536870911 : Int32))).toInt64) - (1 : Int64))), .second, .val (.ref w_MEDIUM), .val (.long ((2 : Int64) + ((2 : Int64) * ((((1 : Int32) + (p1 &&& (536870911 : Int32))).toInt64) - (1 : Int64))))), .second, .val (.int ((2 : Int32) + ((((1 : Int32) + (p1 &&& (536870911 : Int32))) - (1 : Int32)) * (2 : Int32))))] [(.long (((2 : Int32) + ((((1 : Int32) + (p1 &&& (536870911 : Int32))) - (1 : Int32)) * (2 : Int32))).toInt64))])) _
      refine XS.lload X50.here hx rfl (hb hby at_104) rfl ?_
      show Steps p.tables e below (T50.setTop (mkF m 106 #[.val (.int p0), .val (.int p1), .val (.int (2 : Int32)), .val (.int ((1 : Int32) + (p1 &&& (536870911 : Int32)))), .val (.long ((((1 : Int32) + (p1 &&& (536870911 : Int32))).toInt64) - (1 : Int64))), .second, .val (.ref w_MEDIUM), .val (.long ((2 : Int64) + ((2 : Int64) * ((((1 : Int32) + (p1 &&& (536870911 : Int32))).toInt64) - (1 : Int64))))), .second, .val (.int ((2 : Int32) + ((((1 : Int32) + (p1 &&& (536870911 : Int32))) - (1 : Int32)) * (2 : Int32))))] [(.long ((2 : Int64) + ((2 : Int64) * ((((1 : Int32) + (p1 &&& (536870911 : Int32))).toInt64) - (1 : Int64))))), (.long (((2 : Int32) + ((((1 : Int32) + (p1 &&& (536870911 : Int32))) - (1 : Int32)) * (2 : Int32))).toInt64))])) _
      refine XS.lcmp X50.here hx rfl (hb hby at_106) rfl ?_
      show Steps p.tables e below (T50.setTop (mkF m 107 #[.val (.int p0), .val (.int p1), .val (.int (2 : Int32)), .val (.int ((1 : Int32) + (p1 &&& (536870911 : Int32)))), .val (.long ((((1 : Int32) + (p1 &&& (536870911 : Int32))).toInt64) - (1 : Int64))), .second, .val (.ref w_MEDIUM), .val (.long ((2 : Int64) + ((2 : Int64) * ((((1 : Int32) + (p1 &&& (536870911 : Int32))).toInt64) - (1 : Int64))))), .second, .val (.int ((2 : Int32) + ((((1 : Int32) + (p1 &&& (536870911 : Int32))) - (1 : Int32)) * (2 : Int32))))] [(.int (lcmpW (((2 : Int32) + ((((1 : Int32) + (p1 &&& (536870911 : Int32))) - (1 : Int32)) * (2 : Int32))).toInt64) ((2 : Int64) + ((2 : Int64) * ((((1 : Int32) + (p1 &&& (536870911 : Int32))).toInt64) - (1 : Int64))))))])) _
      refine XS.ifNo X50.here hx rfl (hb hby at_107) rfl ((if0 _ _).trans (teq (own_eq2 p1)).2) ?_
      show Steps p.tables e below (T50.setTop (mkF m 110 #[.val (.int p0), .val (.int p1), .val (.int (2 : Int32)), .val (.int ((1 : Int32) + (p1 &&& (536870911 : Int32)))), .val (.long ((((1 : Int32) + (p1 &&& (536870911 : Int32))).toInt64) - (1 : Int64))), .second, .val (.ref w_MEDIUM), .val (.long ((2 : Int64) + ((2 : Int64) * ((((1 : Int32) + (p1 &&& (536870911 : Int32))).toInt64) - (1 : Int64))))), .second, .val (.int ((2 : Int32) + ((((1 : Int32) + (p1 &&& (536870911 : Int32))) - (1 : Int32)) * (2 : Int32))))] [])) _
      refine XS.iconst X50.here hx rfl (hb hby at_110) ?_
      show Steps p.tables e below (T50.setTop (mkF m 111 #[.val (.int p0), .val (.int p1), .val (.int (2 : Int32)), .val (.int ((1 : Int32) + (p1 &&& (536870911 : Int32)))), .val (.long ((((1 : Int32) + (p1 &&& (536870911 : Int32))).toInt64) - (1 : Int64))), .second, .val (.ref w_MEDIUM), .val (.long ((2 : Int64) + ((2 : Int64) * ((((1 : Int32) + (p1 &&& (536870911 : Int32))).toInt64) - (1 : Int64))))), .second, .val (.int ((2 : Int32) + ((((1 : Int32) + (p1 &&& (536870911 : Int32))) - (1 : Int32)) * (2 : Int32))))] [(.int (1 : Int32))])) _
      refine XS.goto X50.here hx rfl (pc0 := 111) (pc' := 115) rfl (hb hby at_111) (by decide) (by decide) ?_
      show Steps p.tables e below (T50.setTop (mkF m 115 #[.val (.int p0), .val (.int p1), .val (.int (2 : Int32)), .val (.int ((1 : Int32) + (p1 &&& (536870911 : Int32)))), .val (.long ((((1 : Int32) + (p1 &&& (536870911 : Int32))).toInt64) - (1 : Int64))), .second, .val (.ref w_MEDIUM), .val (.long ((2 : Int64) + ((2 : Int64) * ((((1 : Int32) + (p1 &&& (536870911 : Int32))).toInt64) - (1 : Int64))))), .second, .val (.int ((2 : Int32) + ((((1 : Int32) + (p1 &&& (536870911 : Int32))) - (1 : Int32)) * (2 : Int32))))] [(.int (1 : Int32))])) _
      exact retN X50 hx (t := .boolean) Bd.returns (by simp) (hb hby at_115) hr
    · show own_Pure (some (.int 1)) h0 n0 _ T50.heap _
      rw [e50]
      exact ⟨rfl, N50, rfl⟩
  · -- (3 : Int32)
    obtain ⟨T51, X51, e51, st51⟩ := getS2 X0 hx hZ hown (host := "") (Or.inl (hw _ (List.mem_of_getElem? (i := 19) rfl))) Via.refl e0 S_LARGE (g := (mkF m 76 #[.val (.int p0), .val (.int p1), .val (.int (3 : Int32)), .val (.int ((1 : Int32) + (p1 &&& (536870911 : Int32)))), .val (.long ((((1 : Int32) + (p1 &&& (536870911 : Int32))).toInt64) - (1 : Int64))), .second, .unset, .unset, .unset, .unset] [])) rfl (hb hby at_76)
    obtain ⟨cq52, kq52, q52a, q52b, q52c⟩ := isOf hZ e51 (E_LARGE)
    obtain ⟨_, _, ⟨T52, L52, k52, n52⟩, -, X52, ⟨Lc52, hQ52, l52, y52, z52⟩, st52⟩ := X51.virtualBack hx (y := (⟨"com/example/rowstrata/rowstrata/row/VarTable", "size", "(I)I"⟩ : MethodName)) (z := (⟨"com/example/rowstrata/rowstrata/row/VarTable", "size", "(I)I"⟩ : MethodName)) hown (mvT hZ (hw _ (List.mem_of_getElem? (i := 4) rfl))) (mvT hZ (hw _ (List.mem_of_getElem? (i := 5) rfl))) (notFace_of_selects (args := #[]) (mvT hZ (hw _ (List.mem_of_getElem? (i := 7) rfl)))) (mvT hZ (hw _ (List.mem_of_getElem? (i := 7) rfl))) (mvT hZ (hw _ (List.mem_of_getElem? (i := 6) rfl))) (by decide) (backOf (W := 0) (rm_size_LARGE l Z a0 hw [] w_LARGE ((1 : Int32) + (p1 &&& (536870911 : Int32))) h0 n0 Z0 w_NONE w_MEDIUM w_TINY hWd) hZ (hw _ (List.mem_of_getElem? (i := 8) rfl)) (hw _ (List.mem_of_getElem? (i := 2) rfl)) (by decide) (by decide)) q52a q52c (g := (mkF m 96 #[.val (.int p0), .val (.int p1), .val (.int (3 : Int32)), .val (.int ((1 : Int32) + (p1 &&& (536870911 : Int32)))), .val (.long ((((1 : Int32) + (p1 &&& (536870911 : Int32))).toInt64) - (1 : Int64))), .second, .val (.ref w_LARGE), .val (.long ((2 : Int64) + ((4 : Int64) * ((((1 : Int32) + (p1 &&& (536870911 : Int32))).toInt64) - (1 : Int64))))), .second, .unset] [(.int ((1 : Int32) + (p1 &&& (536870911 : Int32)))), (.ref w_LARGE)])) rfl (by rw [hml]; rfl) (Steps.refl _) (argsL := [(.int ((1 : Int32) + (p1 &&& (536870911 : Int32))))]) (rest := []) (lenOf pd_16 rfl) rfl (by show 2 * 0 + _ ≤ _; exact Nat.le_of_eq rfl) (hb hby at_96) (fun _ _ => ⟨rfl, e51, (by decide : 0 + 0 ≤ _), (by decide : 0 + 0 ≤ _)⟩)
    dsimp only [Pt.U, Pt.locs, Pt.cells, Pt.slots] at X52 l52 y52 z52 st52 hQ52
    subst l52 y52 z52
    obtain ⟨rfl, N52q, e52⟩ := hQ52
    have N52 := Fr.app N0 N52q
    obtain ⟨fs, hr, hrun, hended, hW, hsame⟩ := X52.leave (v := some (.int (1 : Int32))) (fun h => by rw [Bd.returns] at h; cases h)
    refine ⟨_, _, pre0 _ ?_, hrun, hended, _, _, rfl, ?_, ⟨_, rfl⟩, hW, hsame.mono (by decide) (by decide)⟩
    · show Steps p.tables e below (s₁.setTop (mkF m 0 #[.val (.int p0), .val (.int p1), .unset, .unset, .unset, .unset, .unset, .unset, .unset, .unset] [])) _
      refine XS.iloadN X0.here hx rfl (hb hby at_0) rfl ?_
      show Steps p.tables e below (s₁.setTop (mkF m 1 #[.val (.int p0), .val (.int p1), .unset, .unset, .unset, .unset, .unset, .unset, .unset, .unset] [(.int p0)])) _
      refine XS.iconst X0.here hx rfl (hb hby at_1) ?_
      show Steps p.tables e below (s₁.setTop (mkF m 2 #[.val (.int p0), .val (.int p1), .unset, .unset, .unset, .unset, .unset, .unset, .unset, .unset] [(.int (3 : Int32)), (.int p0)])) _
      refine XS.iand X0.here hx rfl (hb hby at_2) rfl ?_
      show Steps p.tables e below (s₁.setTop (mkF m 3 #[.val (.int p0), .val (.int p1), .unset, .unset, .unset, .unset, .unset, .unset, .unset, .unset] [(.int (p0 &&& (3 : Int32)))])) _
      rw [hv44]
      show Steps p.tables e below (s₁.setTop (mkF m 3 #[.val (.int p0), .val (.int p1), .unset, .unset, .unset, .unset, .unset, .unset, .unset, .unset] [(.int (3 : Int32))])) _
      refine XS.istoreN X0.here hx rfl (hb hby at_3) rfl (l' := #[.val (.int p0), .val (.int p1), .val (.int (3 : Int32)), .unset, .unset, .unset, .unset, .unset, .unset, .unset]) rfl ?_
      show Steps p.tables e below (s₁.setTop (mkF m 4 #[.val (.int p0), .val (.int p1), .val (.int (3 : Int32)), .unset, .unset, .unset, .unset, .unset, .unset, .unset] [])) _
      refine XS.iconst X0.here hx rfl (hb hby at_4) ?_
      show Steps p.tables e below (s₁.setTop (mkF m 5 #[.val (.int p0), .val (.int p1), .val (.int (3 : Int32)), .unset, .unset, .unset, .unset, .unset, .unset, .unset] [(.int (1 : Int32))])) _
      refine XS.iloadN X0.here hx rfl (hb hby at_5) rfl ?_
      show Steps p.tables e below (s₁.setTop (mkF m 6 #[.val (.int p0), .val (.int p1), .val (.int (3 : Int32)), .unset, .unset, .unset, .unset, .unset, .unset, .unset] [(.int p1), (.int (1 : Int32))])) _
      refine X0.ldcInt hx hown (mvT hZ (hw _ (List.mem_of_getElem? (i := 0) rfl))) (g := (mkF m 6 #[.val (.int p0), .val (.int p1), .val (.int (3 : Int32)), .unset, .unset, .unset, .unset, .unset, .unset, .unset] [(.int p1), (.int (1 : Int32))])) rfl (hb hby at_6) _ ?_
      show Steps p.tables e below (s₁.setTop (mkF m 8 #[.val (.int p0), .val (.int p1), .val (.int (3 : Int32)), .unset, .unset, .unset, .unset, .unset, .unset, .unset] [(.int (536870911 : Int32)), (.int p1), (.int (1 : Int32))])) _
      refine XS.iand X0.here hx rfl (hb hby at_8) rfl ?_
      show Steps p.tables e below (s₁.setTop (mkF m 9 #[.val (.int p0), .val (.int p1), .val (.int (3 : Int32)), .unset, .unset, .unset, .unset, .unset, .unset, .unset] [(.int (p1 &&& (536870911 : Int32))), (.int (1 : Int32))])) _
      refine XS.iadd X0.here hx rfl (hb hby at_9) rfl ?_
      show Steps p.tables e below (s₁.setTop (mkF m 10 #[.val (.int p0), .val (.int p1), .val (.int (3 : Int32)), .unset, .unset, .unset, .unset, .unset, .unset, .unset] [(.int ((1 : Int32) + (p1 &&& (536870911 : Int32))))])) _
      refine XS.istoreN X0.here hx rfl (hb hby at_10) rfl (l' := #[.val (.int p0), .val (.int p1), .val (.int (3 : Int32)), .val (.int ((1 : Int32) + (p1 &&& (536870911 : Int32)))), .unset, .unset, .unset, .unset, .unset, .unset]) rfl ?_
      show Steps p.tables e below (s₁.setTop (mkF m 11 #[.val (.int p0), .val (.int p1), .val (.int (3 : Int32)), .val (.int ((1 : Int32) + (p1 &&& (536870911 : Int32)))), .unset, .unset, .unset, .unset, .unset, .unset] [])) _
      refine XS.iloadN X0.here hx rfl (hb hby at_11) rfl ?_
      show Steps p.tables e below (s₁.setTop (mkF m 12 #[.val (.int p0), .val (.int p1), .val (.int (3 : Int32)), .val (.int ((1 : Int32) + (p1 &&& (536870911 : Int32)))), .unset, .unset, .unset, .unset, .unset, .unset] [(.int ((1 : Int32) + (p1 &&& (536870911 : Int32))))])) _
      refine XS.i2l X0.here hx rfl (hb hby at_12) rfl ?_
      show Steps p.tables e below (s₁.setTop (mkF m 13 #[.val (.int p0), .val (.int p1), .val (.int (3 : Int32)), .val (.int ((1 : Int32) + (p1 &&& (536870911 : Int32)))), .unset, .unset, .unset, .unset, .unset, .unset] [(.long (((1 : Int32) + (p1 &&& (536870911 : Int32))).toInt64))])) _
      refine XS.lconst X0.here hx rfl (hb hby at_13) ?_
      show Steps p.tables e below (s₁.setTop (mkF m 14 #[.val (.int p0), .val (.int p1), .val (.int (3 : Int32)), .val (.int ((1 : Int32) + (p1 &&& (536870911 : Int32)))), .unset, .unset, .unset, .unset, .unset, .unset] [(.long (1 : Int64)), (.long (((1 : Int32) + (p1 &&& (536870911 : Int32))).toInt64))])) _
      refine XS.lsub X0.here hx rfl (hb hby at_14) rfl ?_
      show Steps p.tables e below (s₁.setTop (mkF m 15 #[.val (.int p0), .val (.int p1), .val (.int (3 : Int32)), .val (.int ((1 : Int32) + (p1 &&& (536870911 : Int32)))), .unset, .unset, .unset, .unset, .unset, .unset] [(.long ((((1 : Int32) + (p1 &&& (536870911 : Int32))).toInt64) - (1 : Int64)))])) _
      refine XS.lstore X0.here hx rfl (hb hby at_15) rfl (l' := #[.val (.int p0), .val (.int p1), .val (.int (3 : Int32)), .val (.int ((1 : Int32) + (p1 &&& (536870911 : Int32)))), .val (.long ((((1 : Int32) + (p1 &&& (536870911 : Int32))).toInt64) - (1 : Int64))), .second, .unset, .unset, .unset, .unset]) rfl ?_
      show Steps p.tables e below (s₁.setTop (mkF m 17 #[.val (.int p0), .val (.int p1), .val (.int (3 : Int32)), .val (.int ((1 : Int32) + (p1 &&& (536870911 : Int32)))), .val (.long ((((1 : Int32) + (p1 &&& (536870911 : Int32))).toInt64) - (1 : Int64))), .second, .unset, .unset, .unset, .unset] [])) _
      refine XS.iloadN X0.here hx rfl (hb hby at_17) rfl ?_
      show Steps p.tables e below (s₁.setTop (mkF m 18 #[.val (.int p0), .val (.int p1), .val (.int (3 : Int32)), .val (.int ((1 : Int32) + (p1 &&& (536870911 : Int32)))), .val (.long ((((1 : Int32) + (p1 &&& (536870911 : Int32))).toInt64) - (1 : Int64))), .second, .unset, .unset, .unset, .unset] [(.int (3 : Int32))])) _
      refine XS.ifYes X0.here hx rfl (pc0 := 18) (pc' := 32) rfl (hb hby at_18) rfl ((if0 _ _).trans (feq (by decide : ¬ ((3 : Int32) = (0 : Int32)))).2) (by decide) (by decide) ?_
      show Steps p.tables e below (s₁.setTop (mkF m 32 #[.val (.int p0), .val (.int p1), .val (.int (3 : Int32)), .val (.int ((1 : Int32) + (p1 &&& (536870911 : Int32)))), .val (.long ((((1 : Int32) + (p1 &&& (536870911 : Int32))).toInt64) - (1 : Int64))), .second, .unset, .unset, .unset, .unset] [])) _
      refine XS.iloadN X0.here hx rfl (hb hby at_32) rfl ?_
      show Steps p.tables e below (s₁.setTop (mkF m 33 #[.val (.int p0), .val (.int p1), .val (.int (3 : Int32)), .val (.int ((1 : Int32) + (p1 &&& (536870911 : Int32)))), .val (.long ((((1 : Int32) + (p1 &&& (536870911 : Int32))).toInt64) - (1 : Int64))), .second, .unset, .unset, .unset, .unset] [(.int (3 : Int32))])) _
      refine XS.iconst X0.here hx rfl (hb hby at_33) ?_
      show Steps p.tables e below (s₁.setTop (mkF m 34 #[.val (.int p0), .val (.int p1), .val (.int (3 : Int32)), .val (.int ((1 : Int32) + (p1 &&& (536870911 : Int32)))), .val (.long ((((1 : Int32) + (p1 &&& (536870911 : Int32))).toInt64) - (1 : Int64))), .second, .unset, .unset, .unset, .unset] [(.int (1 : Int32)), (.int (3 : Int32))])) _
      refine XS.icmpYes X0.here hx rfl (pc0 := 34) (pc' := 51) rfl (hb hby at_34) rfl (feq (by decide : ¬ ((3 : Int32) = (1 : Int32)))).2 (by decide) (by decide) ?_
      show Steps p.tables e below (s₁.setTop (mkF m 51 #[.val (.int p0), .val (.int p1), .val (.int (3 : Int32)), .val (.int ((1 : Int32) + (p1 &&& (536870911 : Int32)))), .val (.long ((((1 : Int32) + (p1 &&& (536870911 : Int32))).toInt64) - (1 : Int64))), .second, .unset, .unset, .unset, .unset] [])) _
      refine XS.iloadN X0.here hx rfl (hb hby at_51) rfl ?_
      show Steps p.tables e below (s₁.setTop (mkF m 52 #[.val (.int p0), .val (.int p1), .val (.int (3 : Int32)), .val (.int ((1 : Int32) + (p1 &&& (536870911 : Int32)))), .val (.long ((((1 : Int32) + (p1 &&& (536870911 : Int32))).toInt64) - (1 : Int64))), .second, .unset, .unset, .unset, .unset] [(.int (3 : Int32))])) _
      refine XS.iconst X0.here hx rfl (hb hby at_52) ?_
      show Steps p.tables e below (s₁.setTop (mkF m 53 #[.val (.int p0), .val (.int p1), .val (.int (3 : Int32)), .val (.int ((1 : Int32) + (p1 &&& (536870911 : Int32)))), .val (.long ((((1 : Int32) + (p1 &&& (536870911 : Int32))).toInt64) - (1 : Int64))), .second, .unset, .unset, .unset, .unset] [(.int (2 : Int32)), (.int (3 : Int32))])) _
      refine XS.icmpYes X0.here hx rfl (pc0 := 53) (pc' := 76) rfl (hb hby at_53) rfl (feq (by decide : ¬ ((3 : Int32) = (2 : Int32)))).2 (by decide) (by decide) ?_
      show Steps p.tables e below (s₁.setTop (mkF m 76 #[.val (.int p0), .val (.int p1), .val (.int (3 : Int32)), .val (.int ((1 : Int32) + (p1 &&& (536870911 : Int32)))), .val (.long ((((1 : Int32) + (p1 &&& (536870911 : Int32))).toInt64) - (1 : Int64))), .second, .unset, .unset, .unset, .unset] [])) _
      refine st51 _ ?_
      show Steps p.tables e below (T51.setTop (mkF m 79 #[.val (.int p0), .val (.int p1), .val (.int (3 : Int32)), .val (.int ((1 : Int32) + (p1 &&& (536870911 : Int32)))), .val (.long ((((1 : Int32) + (p1 &&& (536870911 : Int32))).toInt64) - (1 : Int64))), .second, .unset, .unset, .unset, .unset] [(.ref w_LARGE)])) _
      refine XS.astore X51.here hx rfl (hb hby at_79) rfl rfl (l' := #[.val (.int p0), .val (.int p1), .val (.int (3 : Int32)), .val (.int ((1 : Int32) + (p1 &&& (536870911 : Int32)))), .val (.long ((((1 : Int32) + (p1 &&& (536870911 : Int32))).toInt64) - (1 : Int64))), .second, .val (.ref w_LARGE), .unset, .unset, .unset]) rfl ?_
      show Steps p.tables e below (T51.setTop (mkF m 81 #[.val (.int p0), .val (.int p1), .val (.int (3 : Int32)), .val (.int ((1 : Int32) + (p1 &&& (536870911 : Int32)))), .val (.long ((((1 : Int32) + (p1 &&& (536870911 : Int32))).toInt64) - (1 : Int64))), .second, .val (.ref w_LARGE), .unset, .unset, .unset] [])) _
      refine X51.ldc2Long hx hown (mvT hZ (hw _ (List.mem_of_getElem? (i := 12) rfl))) (g := (mkF m 81 #[.val (.int p0), .val (.int p1), .val (.int (3 : Int32)), .val (.int ((1 : Int32) + (p1 &&& (536870911 : Int32)))), .val (.long ((((1 : Int32) + (p1 &&& (536870911 : Int32))).toInt64) - (1 : Int64))), .second, .val (.ref w_LARGE), .unset, .unset, .unset] [])) rfl (hb hby at_81) _ ?_
      show Steps p.tables e below (T51.setTop (mkF m 84 #[.val (.int p0), .val (.int p1), .val (.int (3 : Int32)), .val (.int ((1 : Int32) + (p1 &&& (536870911 : Int32)))), .val (.long ((((1 : Int32) + (p1 &&& (536870911 : Int32))).toInt64) - (1 : Int64))), .second, .val (.ref w_LARGE), .unset, .unset, .unset] [(.long (2 : Int64))])) _
      refine X51.ldc2Long hx hown (mvT hZ (hw _ (List.mem_of_getElem? (i := 21) rfl))) (g := (mkF m 84 #[.val (.int p0), .val (.int p1), .val (.int (3 : Int32)), .val (.int ((1 : Int32) + (p1 &&& (536870911 : Int32)))), .val (.long ((((1 : Int32) + (p1 &&& (536870911 : Int32))).toInt64) - (1 : Int64))), .second, .val (.ref w_LARGE), .unset, .unset, .unset] [(.long (2 : Int64))])) rfl (hb hby at_84) _ ?_
      show Steps p.tables e below (T51.setTop (mkF m 87 #[.val (.int p0), .val (.int p1), .val (.int (3 : Int32)), .val (.int ((1 : Int32) + (p1 &&& (536870911 : Int32)))), .val (.long ((((1 : Int32) + (p1 &&& (536870911 : Int32))).toInt64) - (1 : Int64))), .second, .val (.ref w_LARGE), .unset, .unset, .unset] [(.long (4 : Int64)), (.long (2 : Int64))])) _
      refine XS.lload X51.here hx rfl (hb hby at_87) rfl ?_
      show Steps p.tables e below (T51.setTop (mkF m 89 #[.val (.int p0), .val (.int p1), .val (.int (3 : Int32)), .val (.int ((1 : Int32) + (p1 &&& (536870911 : Int32)))), .val (.long ((((1 : Int32) + (p1 &&& (536870911 : Int32))).toInt64) - (1 : Int64))), .second, .val (.ref w_LARGE), .unset, .unset, .unset] [(.long ((((1 : Int32) + (p1 &&& (536870911 : Int32))).toInt64) - (1 : Int64))), (.long (4 : Int64)), (.long (2 : Int64))])) _
      refine XS.lmul X51.here hx rfl (hb hby at_89) rfl ?_
      show Steps p.tables e below (T51.setTop (mkF m 90 #[.val (.int p0), .val (.int p1), .val (.int (3 : Int32)), .val (.int ((1 : Int32) + (p1 &&& (536870911 : Int32)))), .val (.long ((((1 : Int32) + (p1 &&& (536870911 : Int32))).toInt64) - (1 : Int64))), .second, .val (.ref w_LARGE), .unset, .unset, .unset] [(.long ((4 : Int64) * ((((1 : Int32) + (p1 &&& (536870911 : Int32))).toInt64) - (1 : Int64)))), (.long (2 : Int64))])) _
      refine XS.ladd X51.here hx rfl (hb hby at_90) rfl ?_
      show Steps p.tables e below (T51.setTop (mkF m 91 #[.val (.int p0), .val (.int p1), .val (.int (3 : Int32)), .val (.int ((1 : Int32) + (p1 &&& (536870911 : Int32)))), .val (.long ((((1 : Int32) + (p1 &&& (536870911 : Int32))).toInt64) - (1 : Int64))), .second, .val (.ref w_LARGE), .unset, .unset, .unset] [(.long ((2 : Int64) + ((4 : Int64) * ((((1 : Int32) + (p1 &&& (536870911 : Int32))).toInt64) - (1 : Int64)))))])) _
      refine XS.lstore X51.here hx rfl (hb hby at_91) rfl (l' := #[.val (.int p0), .val (.int p1), .val (.int (3 : Int32)), .val (.int ((1 : Int32) + (p1 &&& (536870911 : Int32)))), .val (.long ((((1 : Int32) + (p1 &&& (536870911 : Int32))).toInt64) - (1 : Int64))), .second, .val (.ref w_LARGE), .val (.long ((2 : Int64) + ((4 : Int64) * ((((1 : Int32) + (p1 &&& (536870911 : Int32))).toInt64) - (1 : Int64))))), .second, .unset]) rfl ?_
      show Steps p.tables e below (T51.setTop (mkF m 93 #[.val (.int p0), .val (.int p1), .val (.int (3 : Int32)), .val (.int ((1 : Int32) + (p1 &&& (536870911 : Int32)))), .val (.long ((((1 : Int32) + (p1 &&& (536870911 : Int32))).toInt64) - (1 : Int64))), .second, .val (.ref w_LARGE), .val (.long ((2 : Int64) + ((4 : Int64) * ((((1 : Int32) + (p1 &&& (536870911 : Int32))).toInt64) - (1 : Int64))))), .second, .unset] [])) _
      refine XS.aload X51.here hx rfl (hb hby at_93) rfl rfl ?_
      show Steps p.tables e below (T51.setTop (mkF m 95 #[.val (.int p0), .val (.int p1), .val (.int (3 : Int32)), .val (.int ((1 : Int32) + (p1 &&& (536870911 : Int32)))), .val (.long ((((1 : Int32) + (p1 &&& (536870911 : Int32))).toInt64) - (1 : Int64))), .second, .val (.ref w_LARGE), .val (.long ((2 : Int64) + ((4 : Int64) * ((((1 : Int32) + (p1 &&& (536870911 : Int32))).toInt64) - (1 : Int64))))), .second, .unset] [(.ref w_LARGE)])) _
      refine XS.iloadN X51.here hx rfl (hb hby at_95) rfl ?_
      show Steps p.tables e below (T51.setTop (mkF m 96 #[.val (.int p0), .val (.int p1), .val (.int (3 : Int32)), .val (.int ((1 : Int32) + (p1 &&& (536870911 : Int32)))), .val (.long ((((1 : Int32) + (p1 &&& (536870911 : Int32))).toInt64) - (1 : Int64))), .second, .val (.ref w_LARGE), .val (.long ((2 : Int64) + ((4 : Int64) * ((((1 : Int32) + (p1 &&& (536870911 : Int32))).toInt64) - (1 : Int64))))), .second, .unset] [(.int ((1 : Int32) + (p1 &&& (536870911 : Int32)))), (.ref w_LARGE)])) _
      refine st52.trans ?_
      show Steps p.tables e below (T52.setTop (mkF m 99 #[.val (.int p0), .val (.int p1), .val (.int (3 : Int32)), .val (.int ((1 : Int32) + (p1 &&& (536870911 : Int32)))), .val (.long ((((1 : Int32) + (p1 &&& (536870911 : Int32))).toInt64) - (1 : Int64))), .second, .val (.ref w_LARGE), .val (.long ((2 : Int64) + ((4 : Int64) * ((((1 : Int32) + (p1 &&& (536870911 : Int32))).toInt64) - (1 : Int64))))), .second, .unset] [(.int ((2 : Int32) + ((((1 : Int32) + (p1 &&& (536870911 : Int32))) - (1 : Int32)) * (4 : Int32))))])) _
      refine XS.istore X52.here hx rfl (hb hby at_99) rfl (l' := #[.val (.int p0), .val (.int p1), .val (.int (3 : Int32)), .val (.int ((1 : Int32) + (p1 &&& (536870911 : Int32)))), .val (.long ((((1 : Int32) + (p1 &&& (536870911 : Int32))).toInt64) - (1 : Int64))), .second, .val (.ref w_LARGE), .val (.long ((2 : Int64) + ((4 : Int64) * ((((1 : Int32) + (p1 &&& (536870911 : Int32))).toInt64) - (1 : Int64))))), .second, .val (.int ((2 : Int32) + ((((1 : Int32) + (p1 &&& (536870911 : Int32))) - (1 : Int32)) * (4 : Int32))))]) rfl ?_
      show Steps p.tables e below (T52.setTop (mkF m 101 #[.val (.int p0), .val (.int p1), .val (.int (3 : Int32)), .val (.int ((1 : Int32) + (p1 &&& (536870911 : Int32)))), .val (.long ((((1 : Int32) + (p1 &&& (536870911 : Int32))).toInt64) - (1 : Int64))), .second, .val (.ref w_LARGE), .val (.long ((2 : Int64) + ((4 : Int64) * ((((1 : Int32) + (p1 &&& (536870911 : Int32))).toInt64) - (1 : Int64))))), .second, .val (.int ((2 : Int32) + ((((1 : Int32) + (p1 &&& (536870911 : Int32))) - (1 : Int32)) * (4 : Int32))))] [])) _
      refine XS.iload X52.here hx rfl (hb hby at_101) rfl ?_
      show Steps p.tables e below (T52.setTop (mkF m 103 #[.val (.int p0), .val (.int p1), .val (.int (3 : Int32)), .val (.int ((1 : Int32) + (p1 &&& (536870911 : Int32)))), .val (.long ((((1 : Int32) + (p1 &&& (536870911 : Int32))).toInt64) - (1 : Int64))), .second, .val (.ref w_LARGE), .val (.long ((2 : Int64) + ((4 : Int64) * ((((1 : Int32) + (p1 &&& (536870911 : Int32))).toInt64) - (1 : Int64))))), .second, .val (.int ((2 : Int32) + ((((1 : Int32) + (p1 &&& (536870911 : Int32))) - (1 : Int32)) * (4 : Int32))))] [(.int ((2 : Int32) + ((((1 : Int32) + (p1 &&& (536870911 : Int32))) - (1 : Int32)) * (4 : Int32))))])) _
      refine XS.i2l X52.here hx rfl (hb hby at_103) rfl ?_
      show Steps p.tables e below (T52.setTop (mkF m 104 #[.val (.int p0), .val (.int p1), .val (.int (3 : Int32)), .val (.int ((1 : Int32) + (p1 &&& (536870911 : Int32)))), .val (.long ((((1 : Int32) + (p1 &&& (536870911 : Int32))).toInt64) - (1 : Int64))), .second, .val (.ref w_LARGE), .val (.long ((2 : Int64) + ((4 : Int64) * ((((1 : Int32) + (p1 &&& (536870911 : Int32))).toInt64) - (1 : Int64))))), .second, .val (.int ((2 : Int32) + ((((1 : Int32) + (p1 &&& (536870911 : Int32))) - (1 : Int32)) * (4 : Int32))))] [(.long (((2 : Int32) + ((((1 : Int32) + (p1 &&& (536870911 : Int32))) - (1 : Int32)) * (4 : Int32))).toInt64))])) _
      refine XS.lload X52.here hx rfl (hb hby at_104) rfl ?_
      show Steps p.tables e below (T52.setTop (mkF m 106 #[.val (.int p0), .val (.int p1), .val (.int (3 : Int32)), .val (.int ((1 : Int32) + (p1 &&& (536870911 : Int32)))), .val (.long ((((1 : Int32) + (p1 &&& (536870911 : Int32))).toInt64) - (1 : Int64))), .second, .val (.ref w_LARGE), .val (.long ((2 : Int64) + ((4 : Int64) * ((((1 : Int32) + (p1 &&& (536870911 : Int32))).toInt64) - (1 : Int64))))), .second, .val (.int ((2 : Int32) + ((((1 : Int32) + (p1 &&& (536870911 : Int32))) - (1 : Int32)) * (4 : Int32))))] [(.long ((2 : Int64) + ((4 : Int64) * ((((1 : Int32) + (p1 &&& (536870911 : Int32))).toInt64) - (1 : Int64))))), (.long (((2 : Int32) + ((((1 : Int32) + (p1 &&& (536870911 : Int32))) - (1 : Int32)) * (4 : Int32))).toInt64))])) _
      refine XS.lcmp X52.here hx rfl (hb hby at_106) rfl ?_
      show Steps p.tables e below (T52.setTop (mkF m 107 #[.val (.int p0), .val (.int p1), .val (.int (3 : Int32)), .val (.int ((1 : Int32) + (p1 &&& (536870911 : Int32)))), .val (.long ((((1 : Int32) + (p1 &&& (536870911 : Int32))).toInt64) - (1 : Int64))), .second, .val (.ref w_LARGE), .val (.long ((2 : Int64) + ((4 : Int64) * ((((1 : Int32) + (p1 &&& (536870911 : Int32))).toInt64) - (1 : Int64))))), .second, .val (.int ((2 : Int32) + ((((1 : Int32) + (p1 &&& (536870911 : Int32))) - (1 : Int32)) * (4 : Int32))))] [(.int (lcmpW (((2 : Int32) + ((((1 : Int32) + (p1 &&& (536870911 : Int32))) - (1 : Int32)) * (4 : Int32))).toInt64) ((2 : Int64) + ((4 : Int64) * ((((1 : Int32) + (p1 &&& (536870911 : Int32))).toInt64) - (1 : Int64))))))])) _
      refine XS.ifNo X52.here hx rfl (hb hby at_107) rfl ((if0 _ _).trans (teq (own_eq3 p1)).2) ?_
      show Steps p.tables e below (T52.setTop (mkF m 110 #[.val (.int p0), .val (.int p1), .val (.int (3 : Int32)), .val (.int ((1 : Int32) + (p1 &&& (536870911 : Int32)))), .val (.long ((((1 : Int32) + (p1 &&& (536870911 : Int32))).toInt64) - (1 : Int64))), .second, .val (.ref w_LARGE), .val (.long ((2 : Int64) + ((4 : Int64) * ((((1 : Int32) + (p1 &&& (536870911 : Int32))).toInt64) - (1 : Int64))))), .second, .val (.int ((2 : Int32) + ((((1 : Int32) + (p1 &&& (536870911 : Int32))) - (1 : Int32)) * (4 : Int32))))] [])) _
      refine XS.iconst X52.here hx rfl (hb hby at_110) ?_
      show Steps p.tables e below (T52.setTop (mkF m 111 #[.val (.int p0), .val (.int p1), .val (.int (3 : Int32)), .val (.int ((1 : Int32) + (p1 &&& (536870911 : Int32)))), .val (.long ((((1 : Int32) + (p1 &&& (536870911 : Int32))).toInt64) - (1 : Int64))), .second, .val (.ref w_LARGE), .val (.long ((2 : Int64) + ((4 : Int64) * ((((1 : Int32) + (p1 &&& (536870911 : Int32))).toInt64) - (1 : Int64))))), .second, .val (.int ((2 : Int32) + ((((1 : Int32) + (p1 &&& (536870911 : Int32))) - (1 : Int32)) * (4 : Int32))))] [(.int (1 : Int32))])) _
      refine XS.goto X52.here hx rfl (pc0 := 111) (pc' := 115) rfl (hb hby at_111) (by decide) (by decide) ?_
      show Steps p.tables e below (T52.setTop (mkF m 115 #[.val (.int p0), .val (.int p1), .val (.int (3 : Int32)), .val (.int ((1 : Int32) + (p1 &&& (536870911 : Int32)))), .val (.long ((((1 : Int32) + (p1 &&& (536870911 : Int32))).toInt64) - (1 : Int64))), .second, .val (.ref w_LARGE), .val (.long ((2 : Int64) + ((4 : Int64) * ((((1 : Int32) + (p1 &&& (536870911 : Int32))).toInt64) - (1 : Int64))))), .second, .val (.int ((2 : Int32) + ((((1 : Int32) + (p1 &&& (536870911 : Int32))) - (1 : Int32)) * (4 : Int32))))] [(.int (1 : Int32))])) _
      exact retN X52 hx (t := .boolean) Bd.returns (by simp) (hb hby at_115) hr
    · show own_Pure (some (.int 1)) h0 n0 _ T52.heap _
      rw [e52]
      exact ⟨rfl, N52, rfl⟩
set_option maxRecDepth 65536 in
set_option maxHeartbeats 40000000 in
theorem comes_1 {Post : Tables → Env → Array Value → State → Outcome → State → Prop} (hpost : ∀ tb e args s v u, (limb_1_1.after args s (.returned v) u = true ∧ limb_1_2.after args s (.returned v) u = true ∧ True) → FrameEnd s (.returned v) u (Jvm.fieldLocs frame_1_writes args s ++ Jvm.arrayLocs frame_1_arrays args s ++ Jvm.staticLocs frame_1_statics s) 0 0 → Post tb e args s (.returned v) u) :
    ArmFor flags0 classFile x code maxLocals ret World_1 tables_1 room_1 Calls_1 rest_1 Pre_1 Post := by
  intro l hfl _ _ p e ha hc hk s m args below hf hA hF happ hP
  obtain ⟨hcalls, hrest, hpre⟩ := hP
  obtain ⟨-, -, -, hnamed, -, -, -, hat⟩ := (Spec.applies_iff hf).mp happ
  obtain ⟨hg, hn⟩ := and_e (Cond.before_iff.mp (show (Jvm.Cond.and given_1 narrow_1).before args s = true from hpre))
  obtain ⟨gg0, hh0⟩ := and_e hg
  obtain ⟨gg1, hh1⟩ := and_e hh0
  obtain ⟨w0, w1, rfl⟩ : ∃ w0 w1 : Value, args = #[w0, w1] := by
    have hs : args.size = 2 := by simpa [Cond.value, given_1] using gg0
    obtain ⟨L⟩ := args
    match L, hs with
    | [w0, w1], _ => exact ⟨w0, w1, rfl⟩
  have hw := fun d (hd : d ∈ tables_1) => atoms_spec (ws := Jvm.Cond.code x code maxLocals ret :: tables_1) hat d (List.mem_cons_of_mem _ hd)
  have hfit : Fit s := fun {y c} hc i hi => by
    obtain ⟨ha, rfl⟩ := Array.getElem?_eq_some_iff.mp hc
    have q := List.all_eq_true.mp ((Array.all_eq_true_iff_forall_mem.mp hF) _ (Array.getElem_mem ha)) i (List.mem_range.mpr hi)
    simpa [Array.getElem?_eq_getElem hi] using q
  obtain ⟨i0, ei0⟩ := is_v gg1
  obtain rfl : w0 = (.int i0) := Option.some.inj ei0
  obtain ⟨i1, ei1⟩ := is_v hh1
  obtain rfl : w1 = (.int i1) := Option.some.inj ei1
  obtain ⟨g1, g2⟩ := and_e hn
  obtain ⟨g3, g4⟩ := and_e g2
  obtain ⟨g5, g6⟩ := and_e g4
  obtain ⟨g7, g8⟩ := and_e g6
  obtain ⟨g9, g10⟩ := and_e g8
  obtain ⟨g11, g12⟩ := and_e g10
  obtain ⟨g13, g14⟩ := and_e g12
  obtain ⟨g15, g16⟩ := and_e g14
  obtain ⟨g17, g18⟩ := and_e g16
  obtain ⟨g19, g20⟩ := and_e g18
  obtain ⟨g21, g22⟩ := and_e g20
  obtain ⟨g23, g24⟩ := and_e g22
  obtain ⟨g25, g26⟩ := and_e g24
  obtain ⟨g27, g28⟩ := and_e g26
  obtain ⟨g29, g30⟩ := and_e g28
  obtain ⟨w_NONE, ev_NONE⟩ := exa_v g1
  have E_NONE := Exa.start ev_NONE g1
  have S_NONE := Sta.start ev_NONE (Or.inr ⟨hw _ (List.mem_of_getElem? (i := 2) rfl), hw _ (List.mem_of_getElem? (i := 3) rfl)⟩)
  have F_NONE_ordinal := own_fld_eq ev_NONE g7
  have F_NONE_countBytes := own_fld_eq ev_NONE g29
  have F_NONE_offsetBytes := own_fld_eq ev_NONE g30
  obtain ⟨w_MEDIUM, ev_MEDIUM⟩ := exa_v g3
  have E_MEDIUM := Exa.start ev_MEDIUM g3
  have S_MEDIUM := Sta.start ev_MEDIUM (Or.inr ⟨hw _ (List.mem_of_getElem? (i := 2) rfl), hw _ (List.mem_of_getElem? (i := 11) rfl)⟩)
  have F_MEDIUM_ordinal := own_fld_eq ev_MEDIUM g5
  have F_MEDIUM_countBytes := own_fld_eq ev_MEDIUM g9
  have F_MEDIUM_offsetBytes := own_fld_eq ev_MEDIUM g11
  obtain ⟨w_TINY, ev_TINY⟩ := exa_v g13
  have E_TINY := Exa.start ev_TINY g13
  have S_TINY := Sta.start ev_TINY (Or.inr ⟨hw _ (List.mem_of_getElem? (i := 2) rfl), hw _ (List.mem_of_getElem? (i := 18) rfl)⟩)
  have F_TINY_ordinal := own_fld_eq ev_TINY g15
  have F_TINY_countBytes := own_fld_eq ev_TINY g17
  have F_TINY_offsetBytes := own_fld_eq ev_TINY g19
  obtain ⟨w_LARGE, ev_LARGE⟩ := exa_v g21
  have E_LARGE := Exa.start ev_LARGE g21
  have S_LARGE := Sta.start ev_LARGE (Or.inr ⟨hw _ (List.mem_of_getElem? (i := 2) rfl), hw _ (List.mem_of_getElem? (i := 20) rfl)⟩)
  have F_LARGE_ordinal := own_fld_eq ev_LARGE g23
  have F_LARGE_countBytes := own_fld_eq ev_LARGE g25
  have F_LARGE_offsetBytes := own_fld_eq ev_LARGE g27
  have hW0 : own_W s s.heap w_NONE w_MEDIUM w_TINY w_LARGE := ⟨S_NONE, E_NONE, F_NONE_ordinal, F_NONE_countBytes, F_NONE_offsetBytes, S_MEDIUM, E_MEDIUM, F_MEDIUM_ordinal, F_MEDIUM_countBytes, F_MEDIUM_offsetBytes, S_TINY, E_TINY, F_TINY_ordinal, F_TINY_countBytes, F_TINY_offsetBytes, S_LARGE, E_LARGE, F_LARGE_ordinal, F_LARGE_countBytes, F_LARGE_offsetBytes⟩
  obtain ⟨n, o, h1, h2, h3, _, L, rfl, hQ0, hq⟩ := rm_law l s _ hw tables_1 i0 i1 s.heap s.heap.size (Nat.le_refl _) w_NONE w_MEDIUM w_TINY w_LARGE hW0 p e ha hc hk s m _ below hf ((Spec.applies_iff_loose hf).mp happ).1 ⟨rfl, State.Warmed39.refl s, rfl⟩ trivial
  have N := hQ0.2.1
  obtain rfl := hQ0.1
  refine ⟨n, _, h1, h2, h3, hpost _ _ _ _ _ _ ⟨Cond.after_iff.mpr rfl, Cond.after_iff.mpr (eq_i res_at (Term.int_eval (1)) rfl), trivial⟩ ⟨hq.1, hq.2.1, (hq.2.2.sift fun y hy => Or.inr (N y hy)).mono (by decide) (by decide)⟩⟩
theorem main_1_1 : Claimed_1_1 := comes_1 fun _ _ _ _ _ _ h hF => ⟨h.1, hF⟩
theorem main_1_2 : Claimed_1_2 := comes_1 fun _ _ _ _ _ _ h hF => ⟨h.2.1, hF⟩
end Jvm.Pilot.@@N@@
namespace Jvm.Pilot.@@N@@
open Jvm Jvm.ClassFile Sem Op Lib Jvm.Free Jvm.Stand Jvm.Pilot.@@N@@.Jvm.D
/-! MADE BY PROGRAM (witnessworld.py) out of the Statement's table words and the real class files: 12 classes; the members and pool entries that the words name. The judged class is class 1, her method 1. -/
namespace start1
open Jvm.ClassFile
def u (s : String) : CpInfo := .utf8 (stringToUtf16 s)
/-- a pool by its gaps: so many unusable entries, then the entry; so many at the end -/
def gap : Nat → List CpInfo → List CpInfo
  | 0, r => r
  | n + 1, r => .unusable :: gap n r
def poolList (es : List (Nat × CpInfo)) (last : Nat) : List CpInfo := es.foldr (fun e r => gap e.1 (e.2 :: r)) (gap last [])
def pool (es : List (Nat × CpInfo)) (last : Nat) : Array CpInfo := ⟨poolList es last⟩
def fileOf (pool : Array CpInfo) (this : Nat) (attrs : Array Attribute := #[]) (ms : Array MethodInfo := #[]) (fl : Nat := 33) (sup : Nat := 0) (ifs : Array Nat := #[]) (fds : Array FieldInfo := #[]) : ClassFile where
  minorVersion := 0
  majorVersion := 65
  constantPool := pool
  accessFlags := fl
  thisClass := this
  superClass := sup
  interfaces := ifs
  fields := fds
  methods := ms
  attributes := attrs
def plain (name : String) (sup : Option ClassId) : Class where
  name := name
  kind := .ordinary
  loader := none
  accessFlags := 33
  super := sup
  interfaces := #[]
  cf := none
  fields := #[]
  methods := #[]
  instanceTypes := #[]
  staticTypes := #[]
  resolved := #[]
  callSites := []
  init := .initialized
  statics := none
  mirror := none

def pool0 : Array CpInfo := pool [(5, u "<init>"), (0, u "()V"), (1, .class_ 10), (1, u "java/lang/Object")] 113

def k0m0 : Method := { name := "<init>", desc := "()V", sig := { parameters := [], returnType := none }, accessFlags := 1, code := none }
/-- java/lang/Object -/
def k0 : Class := { plain "java/lang/Object" none with
  accessFlags := 33
  interfaces := #[]
  cf := some (fileOf pool0 8 #[] #[{ accessFlags := 1, nameIndex := 5, descriptorIndex := 6, attributes := #[] }] 33 0 #[] #[])
  fields := #[]
  methods := #[k0m0]
  instanceTypes := #[]
  staticTypes := #[]
  resolved := Array.replicate 124 none
  statics := none }

def pool1 : Array CpInfo := pool [(2, .class_ 4), (1, u "java/lang/Object"), (0, u "<init>"), (0, u "()V"), (0, .integer 536870911), (0, .fieldref 9 10), (0, .class_ 11), (0, .nameAndType 12 13), (0, u "com/example/rowstrata/rowstrata/row/VarTable"), (0, u "NONE"), (0, u "Lcom/example/rowstrata/rowstrata/row/VarTable;"), (0, .fieldref 9 15), (0, .nameAndType 16 13), (0, u "TINY"), (0, .fieldref 9 18), (0, .nameAndType 19 13), (0, u "MEDIUM"), (0, .long 2), (1, .fieldref 9 23), (0, .nameAndType 24 13), (0, u "LARGE"), (0, .long 4), (1, .methodref 9 28), (0, .nameAndType 29 30), (0, u "size"), (0, u "(I)I"), (0, .class_ 32), (0, u "com/example/rowstrata/rowstrata/row/VarTableSizePinLaw"), (2, u "law"), (0, u "(II)Z")] 3

def k1m0 : Method := { name := "<init>", desc := "()V", sig := { parameters := [], returnType := none }, accessFlags := 2, code := none }
def k1c1 : Code := { maxStack := 6, maxLocals := 10, code := code, exceptionTable := #[], attributes := #[] }
def k1m1 : Method := { name := "law", desc := "(II)Z", sig := { parameters := [.int, .int], returnType := some .boolean }, accessFlags := 9, code := some k1c1 }
/-- com/example/rowstrata/rowstrata/row/VarTableSizePinLaw -/
def k1 : Class := { plain "com/example/rowstrata/rowstrata/row/VarTableSizePinLaw" (some 0) with
  accessFlags := 49
  interfaces := #[]
  cf := some (fileOf pool1 31 #[] #[{ accessFlags := 2, nameIndex := 5, descriptorIndex := 6, attributes := #[] }, { accessFlags := 9, nameIndex := 35, descriptorIndex := 36, attributes := #[] }] 49 2 #[] #[])
  fields := #[]
  methods := #[k1m0, k1m1]
  instanceTypes := #[]
  staticTypes := #[]
  resolved := Array.replicate 40 none
  statics := none }

def pool2 : Array CpInfo := pool [(1, .class_ 2), (0, u "java/lang/constant/Constable"), (0, .class_ 4), (0, u "java/lang/Object")] 6

/-- java/lang/constant/Constable -/
def k2 : Class := { plain "java/lang/constant/Constable" (some 0) with
  accessFlags := 1537
  interfaces := #[]
  cf := some (fileOf pool2 1 #[] #[] 1537 3 #[] #[])
  fields := #[]
  methods := #[]
  instanceTypes := #[]
  staticTypes := #[]
  resolved := Array.replicate 11 none
  statics := none }

def pool3 : Array CpInfo := pool [(1, .class_ 2), (0, u "java/lang/Comparable"), (0, .class_ 4), (0, u "java/lang/Object")] 7

/-- java/lang/Comparable -/
def k3 : Class := { plain "java/lang/Comparable" (some 0) with
  accessFlags := 1537
  interfaces := #[]
  cf := some (fileOf pool3 1 #[] #[] 1537 3 #[] #[])
  fields := #[]
  methods := #[]
  instanceTypes := #[]
  staticTypes := #[]
  resolved := Array.replicate 12 none
  statics := none }

def pool4 : Array CpInfo := pool [(1, .class_ 2), (0, u "java/io/Serializable"), (0, .class_ 4), (0, u "java/lang/Object")] 2

/-- java/io/Serializable -/
def k4 : Class := { plain "java/io/Serializable" (some 0) with
  accessFlags := 1537
  interfaces := #[]
  cf := some (fileOf pool4 1 #[] #[] 1537 3 #[] #[])
  fields := #[]
  methods := #[]
  instanceTypes := #[]
  staticTypes := #[]
  resolved := Array.replicate 7 none
  statics := none }

def pool5 : Array CpInfo := pool [(2, .class_ 4), (1, u "java/lang/Enum"), (0, u "name"), (0, u "Ljava/lang/String;"), (2, u "ordinal"), (0, u "I"), (1, .class_ 14), (1, u "java/lang/Object"), (4, u "hash"), (86, .class_ 108), (1, u "java/lang/Enum$EnumDesc"), (2, .class_ 112), (0, u "java/lang/constant/Constable"), (0, .class_ 114), (0, u "java/lang/Comparable"), (0, .class_ 116), (0, u "java/io/Serializable")] 87

/-- java/lang/Enum -/
def k5 : Class := { plain "java/lang/Enum" (some 0) with
  accessFlags := 1057
  interfaces := #[2, 3, 4]
  cf := some (fileOf pool5 2 #[.nestMembers #[106]] #[] 1057 12 #[111, 113, 115] #[{ accessFlags := 18, nameIndex := 5, descriptorIndex := 6, attributes := #[] }, { accessFlags := 18, nameIndex := 9, descriptorIndex := 10, attributes := #[] }, { accessFlags := 2, nameIndex := 19, descriptorIndex := 10, attributes := #[] }])
  fields := #[{ name := "name", type := (.object "java/lang/String"), accessFlags := 18, slot := 0, constantValue := 0 }, { name := "ordinal", type := .int, accessFlags := 18, slot := 1, constantValue := 0 }, { name := "hash", type := .int, accessFlags := 2, slot := 2, constantValue := 0 }]
  methods := #[]
  instanceTypes := #[(.object "java/lang/String"), .int, .int]
  staticTypes := #[]
  resolved := Array.replicate 204 none
  statics := none }

def pool6 : Array CpInfo := pool [(1, .class_ 2), (0, u "com/example/rowstrata/rowstrata/row/VarTable"), (0, .fieldref 1 4), (0, .nameAndType 5 6), (0, u "NONE"), (0, u "Lcom/example/rowstrata/rowstrata/row/VarTable;"), (2, u "TINY"), (2, u "MEDIUM"), (2, u "LARGE"), (2, u "$VALUES"), (0, u "[Lcom/example/rowstrata/rowstrata/row/VarTable;"), (6, .class_ 28), (1, u "java/lang/Enum"), (6, .fieldref 1 36), (0, .nameAndType 37 38), (0, u "countBytes"), (0, u "I"), (0, .fieldref 1 40), (0, .nameAndType 41 38), (0, u "offsetBytes"), (2, u "BY_CODE"), (2, u "WITH_TABLE"), (6, u "size"), (0, u "(I)I")] 55

def k6c0 : Code := { maxStack := 3, maxLocals := 2, code := prog_15_method_7_code, exceptionTable := #[], attributes := #[] }
def k6m0 : Method := { name := "size", desc := "(I)I", sig := { parameters := [.int], returnType := some .int }, accessFlags := 0, code := some k6c0 }
/-- com/example/rowstrata/rowstrata/row/VarTable -/
def k6 : Class := { plain "com/example/rowstrata/rowstrata/row/VarTable" (some 5) with
  accessFlags := 16432
  interfaces := #[]
  cf := some (fileOf pool6 1 #[] #[{ accessFlags := 0, nameIndex := 54, descriptorIndex := 55, attributes := #[] }] 16432 26 #[] #[{ accessFlags := 16409, nameIndex := 5, descriptorIndex := 6, attributes := #[] }, { accessFlags := 16409, nameIndex := 9, descriptorIndex := 6, attributes := #[] }, { accessFlags := 16409, nameIndex := 12, descriptorIndex := 6, attributes := #[] }, { accessFlags := 16409, nameIndex := 15, descriptorIndex := 6, attributes := #[] }, { accessFlags := 26, nameIndex := 44, descriptorIndex := 19, attributes := #[] }, { accessFlags := 26, nameIndex := 47, descriptorIndex := 19, attributes := #[] }, { accessFlags := 18, nameIndex := 37, descriptorIndex := 38, attributes := #[] }, { accessFlags := 18, nameIndex := 41, descriptorIndex := 38, attributes := #[] }, { accessFlags := 4122, nameIndex := 18, descriptorIndex := 19, attributes := #[] }])
  fields := #[{ name := "NONE", type := (.object "com/example/rowstrata/rowstrata/row/VarTable"), accessFlags := 16409, slot := 0, constantValue := 0 }, { name := "TINY", type := (.object "com/example/rowstrata/rowstrata/row/VarTable"), accessFlags := 16409, slot := 1, constantValue := 0 }, { name := "MEDIUM", type := (.object "com/example/rowstrata/rowstrata/row/VarTable"), accessFlags := 16409, slot := 2, constantValue := 0 }, { name := "LARGE", type := (.object "com/example/rowstrata/rowstrata/row/VarTable"), accessFlags := 16409, slot := 3, constantValue := 0 }, { name := "BY_CODE", type := (.array (.object "com/example/rowstrata/rowstrata/row/VarTable")), accessFlags := 26, slot := 4, constantValue := 0 }, { name := "WITH_TABLE", type := (.array (.object "com/example/rowstrata/rowstrata/row/VarTable")), accessFlags := 26, slot := 5, constantValue := 0 }, { name := "countBytes", type := .int, accessFlags := 18, slot := 3, constantValue := 0 }, { name := "offsetBytes", type := .int, accessFlags := 18, slot := 4, constantValue := 0 }, { name := "$VALUES", type := (.array (.object "com/example/rowstrata/rowstrata/row/VarTable")), accessFlags := 4122, slot := 6, constantValue := 0 }]
  methods := #[k6m0]
  instanceTypes := #[(.object "java/lang/String"), .int, .int, .int, .int]
  staticTypes := #[(.object "com/example/rowstrata/rowstrata/row/VarTable"), (.object "com/example/rowstrata/rowstrata/row/VarTable"), (.object "com/example/rowstrata/rowstrata/row/VarTable"), (.object "com/example/rowstrata/rowstrata/row/VarTable"), (.array (.object "com/example/rowstrata/rowstrata/row/VarTable")), (.array (.object "com/example/rowstrata/rowstrata/row/VarTable")), (.array (.object "com/example/rowstrata/rowstrata/row/VarTable"))]
  resolved := Array.replicate 111 none
  statics := some 0 }

def pool7 : Array CpInfo := pool [(1, u "java/lang/Cloneable"), (0, .class_ 1), (0, u "java/lang/Object"), (0, .class_ 3)] 3

/-- java/lang/Cloneable -/
def k7 : Class := { plain "java/lang/Cloneable" (some 0) with
  accessFlags := 1537
  interfaces := #[]
  cf := some (fileOf pool7 2 #[] #[] 1537 4 #[] #[])
  fields := #[]
  methods := #[]
  instanceTypes := #[]
  staticTypes := #[]
  resolved := Array.replicate 8 none
  statics := none }

/-- the primitive byte -/
def k8 : Class := { plain "byte" none with kind := .primitive 'B', accessFlags := 0x411 }
/-- [B -/
def k9 : Class := { plain "[B" (some 0) with kind := .array 8 .byte, interfaces := #[7, 4], accessFlags := 1041 }

/-- the primitive int -/
def k10 : Class := { plain "int" none with kind := .primitive 'I', accessFlags := 0x411 }
/-- [I -/
def k11 : Class := { plain "[I" (some 0) with kind := .array 10 .int, interfaces := #[7, 4], accessFlags := 1041 }

def heap : Heap := #[{ cls := 6, slots := #[.ref 1, .ref 3, .ref 2, .ref 4, .null, .null, .null], vm := .statics 6 },
  { cls := 6, slots := #[.null, .int 0, .int 0, .int 0, .int 0], vm := .none },
  { cls := 6, slots := #[.null, .int 2, .int 0, .int 2, .int 2], vm := .none },
  { cls := 6, slots := #[.null, .int 1, .int 0, .int 1, .int 1], vm := .none },
  { cls := 6, slots := #[.null, .int 3, .int 0, .int 2, .int 4], vm := .none }]
def classes : Array Class := #[k0, k1, k2, k3, k4, k5, k6, k7, k8, k9, k10, k11]
def interned : List (Array UInt16 × Addr) := []
def slotsUsed : Nat := 27
def theMethod : MethodId := ⟨1, 1⟩
def args0 : Array Value := #[.int 5, .int 7]
def aboutOver (below : List Frame) : State where
  vm := { classes := classes, interned := interned.toArray }
  heap := heap
  slotsUsed := slotsUsed
  threads := #[{ frames := .invoking theMethod args0 :: below }]
def below0 : List Frame := [.native { method := ⟨0, 0⟩, args := #[] }]
def about1 : State := aboutOver below0
def p0 : Program := .bare "" "" ""
def e0 : Env := launch0.env 0 0 0
theorem w_frames : about1.frames = Frame.invoking theMethod args0 :: below0 := rfl
set_option maxRecDepth 65536 in
theorem w_args : argsFit about1.vm theMethod args0 = true := by decide +kernel
set_option maxRecDepth 65536 in
theorem w_heap : heapFits about1 = true := by decide +kernel
set_option maxRecDepth 65536 in
theorem w_runnable : about1.curStatus? = some .runnable := by decide +kernel
set_option maxRecDepth 65536 in
theorem w_alone : about1.alone = true := by decide +kernel
set_option maxRecDepth 65536 in
theorem w_named : about1.methodNamed? x = some theMethod := by decide +kernel
set_option maxRecDepth 65536 in
theorem w_hears : about1.hears theMethod below0 = true := by decide +kernel
set_option maxRecDepth 65536 in
theorem w_ripe : about1.ripe theMethod args0 below0 = true := by decide +kernel
theorem w_running : about1.status = .running := rfl
set_option maxRecDepth 65536 in
theorem w_room : about1.hasRoom e0.platform room_1 = true :=
  launch0.hasRoom_least _ room_1 (by decide +kernel) (by decide +kernel) (by decide +kernel) (by decide +kernel) (by decide +kernel) (by decide +kernel)
theorem allAtoms_all (ts : List Jvm.Cond) (a : Array Jvm.Value) (st : Jvm.State) : (allAtoms ts).before a st = ts.all (fun c => c.before a st) := by
  induction ts with
  | nil => rfl
  | cons c t ih =>
    show (Jvm.Cond.and c (allAtoms t)).before a st = _
    rw [Jvm.Cond.before_and, ih, List.all_cons]
def words1 : List Jvm.Cond := Jvm.Cond.code x code maxLocals ret :: tables_1
/-- a 'code' word, met by the world's own term for the bytes: nothing is compared byte by byte -/
theorem code_word {y : MethodName} {bytes : ByteArray} {mx : Nat} {rt : Option FieldType} {a : Array Value} {s : State} {m : MethodId} {meth : Method} {c : Code} (h1 : s.methodNamed? y = some m) (h2 : s.vm.method? m = some meth) (h3 : meth.code = some c) (h4 : c.code = bytes)
    (h5 : (c.maxLocals == mx && c.exceptionTable.isEmpty && decide (c.maxStack ≤ mostOperands) && decide (meth.sig.returnType = rt) && !meth.locks && decide (parseMethodDescriptor y.desc = some meth.sig)) = true) : (Jvm.Cond.code y bytes mx rt).before a s = true := by
  simp only [Bool.and_eq_true, beq_iff_eq, Bool.not_eq_true', decide_eq_true_eq] at h5
  obtain ⟨⟨⟨⟨⟨g1, g2⟩, g3⟩, g4⟩, g5⟩, g6⟩ := h5
  simp [Cond.before, Cond.holds, Cond.value, h1, h2, h3, h4, g1, g2, g3, g4, g5, g6]
def isCode : Jvm.Cond → Bool
  | .code _ _ _ _ => true
  | _ => false
theorem all_split {L : List Jvm.Cond} {P : Jvm.Cond → Bool} (h1 : L.all (fun c => isCode c || P c) = true) (h2 : ∀ c ∈ L.filter isCode, P c = true) : L.all P = true := by
  refine List.all_eq_true.mpr fun c hc => ?_
  have h := List.all_eq_true.mp h1 c hc
  rcases Bool.eq_false_or_eq_true (isCode c) with hi | hi
  · exact h2 c (List.mem_filter.mpr ⟨hc, hi⟩)
  · simpa [hi] using h
set_option maxRecDepth 65536 in
theorem w_c0 : (Jvm.Cond.code x code maxLocals ret).before args0 about1 = true := code_word (m := ⟨1, 1⟩) (meth := k1m1) (c := k1c1) (by decide +kernel) rfl rfl rfl (by decide +kernel)
set_option maxRecDepth 65536 in
theorem w_c1 : (Jvm.Cond.code ({ cls := "com/example/rowstrata/rowstrata/row/VarTable", name := "size", desc := "(I)I" } : Jvm.MethodName) prog_15_method_7_code (2 : Nat) (Option.some Jvm.ClassFile.FieldType.int)).before args0 about1 = true := code_word (m := ⟨6, 0⟩) (meth := k6m0) (c := k6c0) (by decide +kernel) rfl rfl rfl (by decide +kernel)
def codes1 : List Jvm.Cond := [Jvm.Cond.code x code maxLocals ret, Jvm.Cond.code ({ cls := "com/example/rowstrata/rowstrata/row/VarTable", name := "size", desc := "(I)I" } : Jvm.MethodName) prog_15_method_7_code (2 : Nat) (Option.some Jvm.ClassFile.FieldType.int)]
set_option maxRecDepth 65536 in
theorem codes_eq : words1.filter isCode = codes1 := rfl
theorem w_codes : ∀ c ∈ words1.filter isCode, c.before args0 about1 = true := by
  rw [codes_eq]
  intro c hc
  simp only [codes1, List.mem_cons, List.not_mem_nil, or_false] at hc
  rcases hc with rfl | rfl
  · exact w_c0
  · exact w_c1
set_option maxRecDepth 65536 in
theorem w_t1 : words1.all (fun c => isCode c || c.before args0 about1) = true := by decide +kernel
theorem w_tables : (allAtoms (Jvm.Cond.code x code maxLocals ret :: tables_1)).before args0 about1 = true := by
  rw [allAtoms_all]
  show words1.all (fun c => c.before args0 about1) = true
  refine all_split ?_ w_codes
  rw [w_t1]
set_option maxRecDepth 65536 in
theorem w_case : (Jvm.Cond.and given_1 narrow_1).before args0 about1 = true := by decide +kernel
theorem w_applies : (headSpec (Jvm.Cond.code x code maxLocals ret :: tables_1) room_1).applies x e0.platform about1 = true :=
  (Spec.applies_iff w_frames).mpr ⟨w_running, w_runnable, w_alone, w_named, w_hears, w_ripe, w_room, w_tables⟩
theorem atStart : AtStart classFile x code maxLocals ret World_1 tables_1 room_1 Calls_1 rest_1 Pre_1 launch0 p0 e0 about1 theMethod args0 below0 :=
  ⟨lists_1, trivial, launch0.admits_env _ _ _, launch0.least_env, fairChoices_fair.cas, fairChoices_fair.clock, w_frames, w_args, w_heap, w_applies, trivial, trivial, w_case⟩
end start1
theorem witness_1 : WitnessClaimed_1 := ⟨start1.p0, start1.e0, start1.about1, start1.theMethod, start1.args0, start1.below0, start1.atStart⟩
end Jvm.Pilot.@@N@@
