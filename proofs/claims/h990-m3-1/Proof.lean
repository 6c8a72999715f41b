import JvmDerived
import JvmDerived.Pilot.@@N@@Statement
import JvmDerived.Pilot.@@N@@Code
set_option linter.unusedVariables false
set_option linter.unusedSimpArgs false

namespace Jvm.Pilot.@@N@@
open Jvm Jvm.ClassFile Sem Op Lib Jvm.Free Jvm.Stand Jvm.LawKit Jvm.RoadKit Bundle Jvm.Pilot.@@N@@.Jvm.D
/-- a body that writes nothing and returns r -/
def own_Pure (r : Option Value) (h0 : Heap) (n0 : Nat) (v : Option Value) (h : Heap) (L : List Loc) : Prop := v = r ∧ Fr n0 L ∧ h = h0
theorem own_ext_refl (h : Heap) : Ext h h := ⟨Nat.le_refl _, fun _ _ q => q⟩
theorem own_ext_trans {h0 h h' : Heap} (A : Ext h0 h) (B : Ext h h') : Ext h0 h' := ⟨Nat.le_trans A.1 B.1, fun a c q => B.2 a c (A.2 a c q)⟩
theorem own_ext_keep {h0 h h' : Heap} {ws : List Addr} (A : Ext h0 h) (K : Keep h h' ws) (q : ∀ x ∈ ws, h0.size ≤ x) : Ext h0 h' :=
  ⟨Nat.le_trans A.1 K.1, fun a c r => K.2.1 a c (A.2 a c r) fun z => Nat.lt_irrefl _ (Nat.lt_of_lt_of_le (Array.getElem?_eq_some_iff.mp r).1 (q a z))⟩
theorem own_ext_wr {h0 h h' : Heap} {a : Addr} {sl : Nat} {v : Value} (A : Ext h0 h) (W : Wr h h' a sl v) (q : h0.size ≤ a) : Ext h0 h' := own_ext_keep A (Keep.of_wr W) (allS q all0)
/-- a law that may make cells -/
def own_Made (r : Option Value) (n0 : Nat) (v : Option Value) (h : Heap) (L : List Loc) : Prop := v = r ∧ Fr n0 L ∧ True
theorem own_fld_eq {args : Array Value} {Z : State} {t : Term} {a : Addr} {C n d : String} {k : Int32} (ht : t.eval args Z none [] Z = some (.ref a))
    (h : (Cond.eq (.field t C n d) (.int k)).value args Z none Z [] = some true) : Fld Z Z.heap a C n d (.int k) := by
  apply Fld.start
  have e1 : (Term.field t C n d).eval args Z none [] Z = Z.fieldOf? a C n d := fld_at ht
  rw [← e1]
  have e2 : (Term.int k).eval args Z none [] Z = some (.int k) := Term.int_eval k
  simp only [Cond.value] at h
  cases hx : (Term.field t C n d).eval args Z none [] Z with
  | none => simp [hx] at h
  | some v => cases v <;> simp [hx, e2] at h ⊢; exact h
/-- what the case says of the pinned statics -/
def own_W (Z : State) (h : Heap) (w_VALIDATION w_SERIALIZATION w_UNKNOWN_OPERATION w_RESOURCE_NOT_FOUND w_RESOURCE_IN_USE w_CONDITIONAL_CHECK_FAILED w_TRANSACTION_CANCELED w_INTERNAL_SERVER_ERROR : Addr) : Prop :=
  Sta Z h "com/example/ovenbird/ovenbird/api/ErrorCode" "VALIDATION" "Lcom/example/ovenbird/ovenbird/api/ErrorCode;" (.ref w_VALIDATION) ∧
  Exa Z h w_VALIDATION "com/example/ovenbird/ovenbird/api/ErrorCode" ∧
  Fld Z h w_VALIDATION "java/lang/Enum" "ordinal" "I" (.int (0 : Int32)) ∧
  Sta Z h "com/example/ovenbird/ovenbird/api/ErrorCode" "SERIALIZATION" "Lcom/example/ovenbird/ovenbird/api/ErrorCode;" (.ref w_SERIALIZATION) ∧
  Exa Z h w_SERIALIZATION "com/example/ovenbird/ovenbird/api/ErrorCode" ∧
  Fld Z h w_SERIALIZATION "java/lang/Enum" "ordinal" "I" (.int (1 : Int32)) ∧
  Sta Z h "com/example/ovenbird/ovenbird/api/ErrorCode" "UNKNOWN_OPERATION" "Lcom/example/ovenbird/ovenbird/api/ErrorCode;" (.ref w_UNKNOWN_OPERATION) ∧
  Exa Z h w_UNKNOWN_OPERATION "com/example/ovenbird/ovenbird/api/ErrorCode" ∧
  Fld Z h w_UNKNOWN_OPERATION "java/lang/Enum" "ordinal" "I" (.int (2 : Int32)) ∧
  Sta Z h "com/example/ovenbird/ovenbird/api/ErrorCode" "RESOURCE_NOT_FOUND" "Lcom/example/ovenbird/ovenbird/api/ErrorCode;" (.ref w_RESOURCE_NOT_FOUND) ∧
  Exa Z h w_RESOURCE_NOT_FOUND "com/example/ovenbird/ovenbird/api/ErrorCode" ∧
  Fld Z h w_RESOURCE_NOT_FOUND "java/lang/Enum" "ordinal" "I" (.int (3 : Int32)) ∧
  Sta Z h "com/example/ovenbird/ovenbird/api/ErrorCode" "RESOURCE_IN_USE" "Lcom/example/ovenbird/ovenbird/api/ErrorCode;" (.ref w_RESOURCE_IN_USE) ∧
  Exa Z h w_RESOURCE_IN_USE "com/example/ovenbird/ovenbird/api/ErrorCode" ∧
  Fld Z h w_RESOURCE_IN_USE "java/lang/Enum" "ordinal" "I" (.int (4 : Int32)) ∧
  Sta Z h "com/example/ovenbird/ovenbird/api/ErrorCode" "CONDITIONAL_CHECK_FAILED" "Lcom/example/ovenbird/ovenbird/api/ErrorCode;" (.ref w_CONDITIONAL_CHECK_FAILED) ∧
  Exa Z h w_CONDITIONAL_CHECK_FAILED "com/example/ovenbird/ovenbird/api/ErrorCode" ∧
  Fld Z h w_CONDITIONAL_CHECK_FAILED "java/lang/Enum" "ordinal" "I" (.int (5 : Int32)) ∧
  Sta Z h "com/example/ovenbird/ovenbird/api/ErrorCode" "TRANSACTION_CANCELED" "Lcom/example/ovenbird/ovenbird/api/ErrorCode;" (.ref w_TRANSACTION_CANCELED) ∧
  Exa Z h w_TRANSACTION_CANCELED "com/example/ovenbird/ovenbird/api/ErrorCode" ∧
  Fld Z h w_TRANSACTION_CANCELED "java/lang/Enum" "ordinal" "I" (.int (6 : Int32)) ∧
  Sta Z h "com/example/ovenbird/ovenbird/api/ErrorCode" "INTERNAL_SERVER_ERROR" "Lcom/example/ovenbird/ovenbird/api/ErrorCode;" (.ref w_INTERNAL_SERVER_ERROR) ∧
  Exa Z h w_INTERNAL_SERVER_ERROR "com/example/ovenbird/ovenbird/api/ErrorCode" ∧
  Fld Z h w_INTERNAL_SERVER_ERROR "java/lang/Enum" "ordinal" "I" (.int (7 : Int32))
theorem own_W.ext {Z : State} {h h' : Heap} {w_VALIDATION w_SERIALIZATION w_UNKNOWN_OPERATION w_RESOURCE_NOT_FOUND w_RESOURCE_IN_USE w_CONDITIONAL_CHECK_FAILED w_TRANSACTION_CANCELED w_INTERNAL_SERVER_ERROR : Addr} (E : Ext h h') (H : own_W Z h w_VALIDATION w_SERIALIZATION w_UNKNOWN_OPERATION w_RESOURCE_NOT_FOUND w_RESOURCE_IN_USE w_CONDITIONAL_CHECK_FAILED w_TRANSACTION_CANCELED w_INTERNAL_SERVER_ERROR) : own_W Z h' w_VALIDATION w_SERIALIZATION w_UNKNOWN_OPERATION w_RESOURCE_NOT_FOUND w_RESOURCE_IN_USE w_CONDITIONAL_CHECK_FAILED w_TRANSACTION_CANCELED w_INTERNAL_SERVER_ERROR := by
  obtain ⟨S_VALIDATION, E_VALIDATION, F_VALIDATION_ordinal, S_SERIALIZATION, E_SERIALIZATION, F_SERIALIZATION_ordinal, S_UNKNOWN_OPERATION, E_UNKNOWN_OPERATION, F_UNKNOWN_OPERATION_ordinal, S_RESOURCE_NOT_FOUND, E_RESOURCE_NOT_FOUND, F_RESOURCE_NOT_FOUND_ordinal, S_RESOURCE_IN_USE, E_RESOURCE_IN_USE, F_RESOURCE_IN_USE_ordinal, S_CONDITIONAL_CHECK_FAILED, E_CONDITIONAL_CHECK_FAILED, F_CONDITIONAL_CHECK_FAILED_ordinal, S_TRANSACTION_CANCELED, E_TRANSACTION_CANCELED, F_TRANSACTION_CANCELED_ordinal, S_INTERNAL_SERVER_ERROR, E_INTERNAL_SERVER_ERROR, F_INTERNAL_SERVER_ERROR_ordinal⟩ := H
  exact ⟨S_VALIDATION.ext E, E_VALIDATION.ext E, F_VALIDATION_ordinal.ext E, S_SERIALIZATION.ext E, E_SERIALIZATION.ext E, F_SERIALIZATION_ordinal.ext E, S_UNKNOWN_OPERATION.ext E, E_UNKNOWN_OPERATION.ext E, F_UNKNOWN_OPERATION_ordinal.ext E, S_RESOURCE_NOT_FOUND.ext E, E_RESOURCE_NOT_FOUND.ext E, F_RESOURCE_NOT_FOUND_ordinal.ext E, S_RESOURCE_IN_USE.ext E, E_RESOURCE_IN_USE.ext E, F_RESOURCE_IN_USE_ordinal.ext E, S_CONDITIONAL_CHECK_FAILED.ext E, E_CONDITIONAL_CHECK_FAILED.ext E, F_CONDITIONAL_CHECK_FAILED_ordinal.ext E, S_TRANSACTION_CANCELED.ext E, E_TRANSACTION_CANCELED.ext E, F_TRANSACTION_CANCELED_ordinal.ext E, S_INTERNAL_SERVER_ERROR.ext E, E_INTERNAL_SERVER_ERROR.ext E, F_INTERNAL_SERVER_ERROR_ordinal.ext E⟩
theorem own_and7 (x : Int32) : x &&& (7 : Int32) = (0 : Int32) ∨ x &&& (7 : Int32) = (1 : Int32) ∨ x &&& (7 : Int32) = (2 : Int32) ∨ x &&& (7 : Int32) = (3 : Int32) ∨ x &&& (7 : Int32) = (4 : Int32) ∨ x &&& (7 : Int32) = (5 : Int32) ∨ x &&& (7 : Int32) = (6 : Int32) ∨ x &&& (7 : Int32) = (7 : Int32) := by
  have h1 : (x &&& (7 : Int32)).toInt = x.toInt % 8 := c_mask x (7 : Int32) 3 (by decide) (by decide)
  have h3 : (x &&& (7 : Int32)).toInt = 0 ∨ (x &&& (7 : Int32)).toInt = 1 ∨ (x &&& (7 : Int32)).toInt = 2 ∨ (x &&& (7 : Int32)).toInt = 3 ∨ (x &&& (7 : Int32)).toInt = 4 ∨ (x &&& (7 : Int32)).toInt = 5 ∨ (x &&& (7 : Int32)).toInt = 6 ∨ (x &&& (7 : Int32)).toInt = 7 := by omega
  rcases h3 with h | h | h | h | h | h | h | h
  · exact Or.inl (Int32.toInt_inj.mp (by rw [h]; decide))
  · exact Or.inr (Or.inl (Int32.toInt_inj.mp (by rw [h]; decide)))
  · exact Or.inr (Or.inr (Or.inl (Int32.toInt_inj.mp (by rw [h]; decide))))
  · exact Or.inr (Or.inr (Or.inr (Or.inl (Int32.toInt_inj.mp (by rw [h]; decide)))))
  · exact Or.inr (Or.inr (Or.inr (Or.inr (Or.inl (Int32.toInt_inj.mp (by rw [h]; decide))))))
  · exact Or.inr (Or.inr (Or.inr (Or.inr (Or.inr (Or.inl (Int32.toInt_inj.mp (by rw [h]; decide)))))))
  · exact Or.inr (Or.inr (Or.inr (Or.inr (Or.inr (Or.inr (Or.inl (Int32.toInt_inj.mp (by rw [h]; decide))))))))
  · exact Or.inr (Or.inr (Or.inr (Or.inr (Or.inr (Or.inr (Or.inr ((Int32.toInt_inj.mp (by rw [h]; decide)))))))))
theorem d1_0 : decode prog_1_method_8_code 0 = .ok (.aload_n 0, 1) := by decide +kernel
theorem d1_1 : decode prog_1_method_8_code 1 = .ok (.getstatic 25, 3) := by decide +kernel
theorem d1_4 : decode prog_1_method_8_code 4 = .ok (.if_acmp .ne 7, 3) := by decide +kernel
theorem d1_7 : decode prog_1_method_8_code 7 = .ok (.iconst 1, 1) := by decide +kernel
theorem d1_8 : decode prog_1_method_8_code 8 = .ok (.goto 4, 3) := by decide +kernel
theorem d1_12 : decode prog_1_method_8_code 12 = .ok (.ireturn, 1) := by decide +kernel
theorem d1_11 : decode prog_1_method_8_code 11 = .ok (.iconst 0, 1) := by decide +kernel
theorem pn_7 : plainName "com/example/ovenbird/ovenbird/api/ErrorCode" = true := by first | (simp [plainName, overriddenIn]; done) | decide +kernel
theorem ef_rm_sf (m : MethodId) (x0 : Addr) : entryFrame m #[(.ref x0)] 1 = mkF m 0 #[.val (.ref x0)] [] := by first | (simp [entryFrame, mkF, argsToLocals, Value.category]; done) | rfl
set_option maxRecDepth 65536 in
set_option maxHeartbeats 40000000 in
theorem rm_sf (l : Launch) (Z : State) (a0 : Array Value) (hw : ∀ d ∈ tables_1, d.before a0 Z = true) (ws : List Jvm.Cond) (a1 : Addr) (h0 : Heap) (n0 : Nat) (Z0 : n0 ≤ h0.size) (w_VALIDATION w_SERIALIZATION w_UNKNOWN_OPERATION w_RESOURCE_NOT_FOUND w_RESOURCE_IN_USE w_CONDITIONAL_CHECK_FAILED w_TRANSACTION_CANCELED w_INTERNAL_SERVER_ERROR : Addr) (hWd : own_W Z h0 w_VALIDATION w_SERIALIZATION w_UNKNOWN_OPERATION w_RESOURCE_NOT_FOUND w_RESOURCE_IN_USE w_CONDITIONAL_CHECK_FAILED w_TRANSACTION_CANCELED w_INTERNAL_SERVER_ERROR) (r : Int32) (hres : (if a1 = w_INTERNAL_SERVER_ERROR then (1 : Int32) else 0) = r) :
    MetFree l (⟨"com/example/ovenbird/ovenbird/api/ErrorCode", "isServerFault", "()Z"⟩ : MethodName) (head1 (Jvm.Cond.code (⟨"com/example/ovenbird/ovenbird/api/ErrorCode", "isServerFault", "()Z"⟩ : MethodName) prog_1_method_8_code 1 (some .boolean) :: ws) ({ frames := 0, cells := 0, slots := 0, locals := 0 } : Room)) (fun aQ UQ => aQ = #[(.ref a1)] ∧ Z.Warmed39 UQ.vm ∧ UQ.heap = h0) (fun _ _ _ _ _ => True) (fun _ UQ oQ UR => ∃ vQ LQ, oQ = .returned vQ ∧ own_Pure (some (.int r)) h0 n0 vQ UR.heap LQ ∧ FrameEnd UQ oQ UR LQ ({ frames := 0, cells := 0, slots := 0, locals := 0 } : Room).cells ({ frames := 0, cells := 0, slots := 0, locals := 0 } : Room).slots) := by
  refine MetFree.of_bodySF (plainFor_of_name pn_7) hisR ?_
  intro p e s m args below meth c s₁ Bd hml0 hP hK
  obtain ⟨rfl, hZ, hh⟩ := hP
  have hx := Bd.exec
  have hby := Bd.bytes
  have hml : c.maxLocals = 1 := hml0
  have hown : s.vm.findClass "com/example/ovenbird/ovenbird/api/ErrorCode" = some m.cls := findClass_of_methodNamed Bd.named
  have hnm := (name_of_methodNamed Bd.named Bd.method).1
  have X0 : Stand p l e ({ frames := 0, cells := 0, slots := 0, locals := 0 } : Room) s m #[(.ref a1)] below meth c s₁ [] 0 0 := Stand.of_body Bd
  have e0 : s₁.heap = h0 := by rw [← hh, Bd.state]; rfl
  have N0 := Fr.nil n0
  have pre0 : ∀ t, Steps p.tables e below (s₁.setTop (mkF m 0 #[.val (.ref a1)] [])) t → Steps p.tables e below (s₁.setTop (entryFrame m #[(.ref a1)] 1)) t := fun t kq => castTop (ef_rm_sf m a1) kq
  obtain ⟨S_VALIDATION, E_VALIDATION, F_VALIDATION_ordinal, S_SERIALIZATION, E_SERIALIZATION, F_SERIALIZATION_ordinal, S_UNKNOWN_OPERATION, E_UNKNOWN_OPERATION, F_UNKNOWN_OPERATION_ordinal, S_RESOURCE_NOT_FOUND, E_RESOURCE_NOT_FOUND, F_RESOURCE_NOT_FOUND_ordinal, S_RESOURCE_IN_USE, E_RESOURCE_IN_USE, F_RESOURCE_IN_USE_ordinal, S_CONDITIONAL_CHECK_FAILED, E_CONDITIONAL_CHECK_FAILED, F_CONDITIONAL_CHECK_FAILED_ordinal, S_TRANSACTION_CANCELED, E_TRANSACTION_CANCELED, F_TRANSACTION_CANCELED_ordinal, S_INTERNAL_SERVER_ERROR, E_INTERNAL_SERVER_ERROR, F_INTERNAL_SERVER_ERROR_ordinal⟩ := hWd
  obtain ⟨T31, X31, e31, st31⟩ := getS2 X0 hx hZ hown (host := "") (Or.inl (hw _ (List.mem_of_getElem? (i := 25) rfl))) Via.refl e0 S_INTERNAL_SERVER_ERROR (g := (mkF m 1 #[.val (.ref a1)] [(.ref a1)])) rfl (hb hby d1_1)
  by_cases hc4_32 : a1 = w_INTERNAL_SERVER_ERROR
  · -- pc 4: a1 = w_INTERNAL_SERVER_ERROR
    obtain ⟨fs, hr, hrun, hended, hW, hsame⟩ := X31.leave (v := some (.int (1 : Int32))) (fun h => by rw [Bd.returns] at h; cases h)
    refine ⟨_, _, pre0 _ ?_, hrun, hended, _, _, rfl, ?_, ⟨_, rfl⟩, hW, hsame.mono (by decide) (by decide)⟩
    · show Steps p.tables e below (s₁.setTop (mkF m 0 #[.val (.ref a1)] [])) _
      refine XS.aloadN X0.here hx rfl (hb hby d1_0) rfl rfl ?_
      show Steps p.tables e below (s₁.setTop (mkF m 1 #[.val (.ref a1)] [(.ref a1)])) _
      refine st31 _ ?_
      show Steps p.tables e below (T31.setTop (mkF m 4 #[.val (.ref a1)] [(.ref w_INTERNAL_SERVER_ERROR), (.ref a1)])) _
      refine Jvm.RoadKit.acmp (g := (mkF m 4 #[.val (.ref a1)] [(.ref w_INTERNAL_SERVER_ERROR), (.ref a1)])) X31 hx rfl rfl rfl (pc0 := 4) (pc' := 7) (same := true) rfl (hb hby d1_4) rfl (decide_eq_true (congrArg Value.ref hc4_32)) (by decide) (by decide) ?_
      show Steps p.tables e below (T31.setTop (mkF m 7 #[.val (.ref a1)] [])) _
      refine XS.iconst X31.here hx rfl (hb hby d1_7) ?_
      show Steps p.tables e below (T31.setTop (mkF m 8 #[.val (.ref a1)] [(.int (1 : Int32))])) _
      refine XS.goto X31.here hx rfl (pc0 := 8) (pc' := 12) rfl (hb hby d1_8) (by decide) (by decide) ?_
      show Steps p.tables e below (T31.setTop (mkF m 12 #[.val (.ref a1)] [(.int (1 : Int32))])) _
      exact retN X31 hx (t := .boolean) Bd.returns (by simp) (hb hby d1_12) hr
    · show own_Pure (some (.int r)) h0 n0 _ T31.heap _
      rw [e31]
      exact ⟨by rw [← hres]; simp only [if_pos hc4_32], N0, rfl⟩
  · -- pc 4: not a1 = w_INTERNAL_SERVER_ERROR
    obtain ⟨fs, hr, hrun, hended, hW, hsame⟩ := X31.leave (v := some (.int (0 : Int32))) (fun h => by rw [Bd.returns] at h; cases h)
    refine ⟨_, _, pre0 _ ?_, hrun, hended, _, _, rfl, ?_, ⟨_, rfl⟩, hW, hsame.mono (by decide) (by decide)⟩
    · show Steps p.tables e below (s₁.setTop (mkF m 0 #[.val (.ref a1)] [])) _
      refine XS.aloadN X0.here hx rfl (hb hby d1_0) rfl rfl ?_
      show Steps p.tables e below (s₁.setTop (mkF m 1 #[.val (.ref a1)] [(.ref a1)])) _
      refine st31 _ ?_
      show Steps p.tables e below (T31.setTop (mkF m 4 #[.val (.ref a1)] [(.ref w_INTERNAL_SERVER_ERROR), (.ref a1)])) _
      refine Jvm.RoadKit.acmp (g := (mkF m 4 #[.val (.ref a1)] [(.ref w_INTERNAL_SERVER_ERROR), (.ref a1)])) X31 hx rfl rfl rfl (pc0 := 4) (pc' := 11) (same := false) rfl (hb hby d1_4) rfl (decide_eq_false fun q => hc4_32 (Value.ref.inj q)) (by decide) (by decide) ?_
      show Steps p.tables e below (T31.setTop (mkF m 11 #[.val (.ref a1)] [])) _
      refine XS.iconst X31.here hx rfl (hb hby d1_11) ?_
      show Steps p.tables e below (T31.setTop (mkF m 12 #[.val (.ref a1)] [(.int (0 : Int32))])) _
      exact retN X31 hx (t := .boolean) Bd.returns (by simp) (hb hby d1_12) hr
    · show own_Pure (some (.int r)) h0 n0 _ T31.heap _
      rw [e31]
      exact ⟨by rw [← hres]; simp only [if_neg hc4_32], N0, rfl⟩
theorem pd_8 : parseMethodDescriptor "()Z" = some ⟨[], some .boolean⟩ := by decide +kernel
theorem pn_9 : plainName "com/example/ovenbird/ovenbird/api/ErrorCodeIsServerFaultPinLaw" = true := by first | (simp [plainName, overriddenIn]; done) | decide +kernel
theorem ef_rm_law (m : MethodId) (x0 : Int32) : entryFrame m #[(.int x0)] maxLocals = mkF m 0 #[.val (.int x0), .unset, .unset, .unset] [] := by first | (simp [entryFrame, mkF, argsToLocals, Value.category, maxLocals]; done) | rfl
set_option maxRecDepth 65536 in
set_option maxHeartbeats 40000000 in
theorem rm_law (l : Launch) (Z : State) (a0 : Array Value) (hw : ∀ d ∈ tables_1, d.before a0 Z = true) (ws : List Jvm.Cond) (p0 : Int32) (h0 : Heap) (n0 : Nat) (Z0 : n0 ≤ h0.size) (w_VALIDATION w_SERIALIZATION w_UNKNOWN_OPERATION w_RESOURCE_NOT_FOUND w_RESOURCE_IN_USE w_CONDITIONAL_CHECK_FAILED w_TRANSACTION_CANCELED w_INTERNAL_SERVER_ERROR : Addr) (hWd : own_W Z h0 w_VALIDATION w_SERIALIZATION w_UNKNOWN_OPERATION w_RESOURCE_NOT_FOUND w_RESOURCE_IN_USE w_CONDITIONAL_CHECK_FAILED w_TRANSACTION_CANCELED w_INTERNAL_SERVER_ERROR) :
    MetFree l x (head1 (Jvm.Cond.code x code maxLocals ret :: ws) room_1) (fun aQ UQ => aQ = #[(.int p0)] ∧ Z.Warmed39 UQ.vm ∧ UQ.heap = h0) (fun _ _ _ _ _ => True) (fun _ UQ oQ UR => ∃ vQ LQ, oQ = .returned vQ ∧ own_Made (some (.int 1)) n0 vQ UR.heap LQ ∧ FrameEnd UQ oQ UR LQ room_1.cells room_1.slots) := by
  refine MetFree.of_bodySF (plainFor_of_name pn_9) hisR ?_
  intro p e s m args below meth c s₁ Bd hml0 hP hK
  obtain ⟨rfl, hZ, hh⟩ := hP
  have hx := Bd.exec
  have hby := Bd.bytes
  have hml : c.maxLocals = 4 := hml0
  have hown : s.vm.findClass "com/example/ovenbird/ovenbird/api/ErrorCodeIsServerFaultPinLaw" = some m.cls := findClass_of_methodNamed Bd.named
  have hnm := (name_of_methodNamed Bd.named Bd.method).1
  have X0 : Stand p l e room_1 s m #[(.int p0)] below meth c s₁ [] 0 0 := Stand.of_body Bd
  have e0 : s₁.heap = h0 := by rw [← hh, Bd.state]; rfl
  have N0 := Fr.nil n0
  have pre0 : ∀ t, Steps p.tables e below (s₁.setTop (mkF m 0 #[.val (.int p0), .unset, .unset, .unset] [])) t → Steps p.tables e below (s₁.setTop (entryFrame m #[(.int p0)] maxLocals)) t := fun t kq => castTop (ef_rm_law m p0) kq
  have hWd' := hWd
  obtain ⟨S_VALIDATION, E_VALIDATION, F_VALIDATION_ordinal, S_SERIALIZATION, E_SERIALIZATION, F_SERIALIZATION_ordinal, S_UNKNOWN_OPERATION, E_UNKNOWN_OPERATION, F_UNKNOWN_OPERATION_ordinal, S_RESOURCE_NOT_FOUND, E_RESOURCE_NOT_FOUND, F_RESOURCE_NOT_FOUND_ordinal, S_RESOURCE_IN_USE, E_RESOURCE_IN_USE, F_RESOURCE_IN_USE_ordinal, S_CONDITIONAL_CHECK_FAILED, E_CONDITIONAL_CHECK_FAILED, F_CONDITIONAL_CHECK_FAILED_ordinal, S_TRANSACTION_CANCELED, E_TRANSACTION_CANCELED, F_TRANSACTION_CANCELED_ordinal, S_INTERNAL_SERVER_ERROR, E_INTERNAL_SERVER_ERROR, F_INTERNAL_SERVER_ERROR_ordinal⟩ := hWd'
  obtain ⟨T33, h33, k33, X33, e33, E33, A33, O33, st33⟩ := newR X0 hx hZ hown (hw _ (List.mem_of_getElem? (i := 0) rfl)) (hw _ (List.mem_of_getElem? (i := 1) rfl)) e0 (g := (mkF m 2 #[.val (.int p0), .unset, .unset, .unset] [(.int (8 : Int32))])) rfl (hb hby at_2) rfl (by decide) (cap := 8) (by decide) (by decide) (by decide) (by decide)
  obtain ⟨b33, g33⟩ : ∃ z, z = h0.size := ⟨_, rfl⟩
  rw [← g33] at A33 st33
  have sz_b33 : h0.size ≤ b33 := Nat.le_trans (Keep.refl h0 []).1 (Nat.le_of_eq g33.symm)
  have gn_b33 : n0 ≤ b33 := Nat.le_trans Z0 sz_b33
  have EX33 := own_ext_trans (own_ext_refl h0) E33
  have KP33 := Keep.ext (Keep.refl h0 []) E33
  have V33 : Arv Z h33 b33 k33 (.object "com/example/ovenbird/ovenbird/api/ErrorCode") (8 : Int32) [.null, .null, .null, .null, .null, .null, .null, .null] .null := (Arv.new A33 (by decide)).pad (pad_rep [] .null 8)
  obtain ⟨T34, X34, e34, st34⟩ := getS2 X33 hx hZ hown (host := "") (Or.inl (hw _ (List.mem_of_getElem? (i := 2) rfl))) Via.refl e33 (S_VALIDATION.ext EX33) (g := (mkF m 7 #[.val (.int p0), .unset, .unset, .unset] [(.int (0 : Int32)), (.ref b33), (.ref b33)])) rfl (hb hby at_7)
  obtain ⟨cl35, Ar35, q35, S35, N35_, H35_, G35⟩ := V33
  have hin35 : ¬ ((0 : Int32) < 0 ∨ cl35.slots.size ≤ ((0 : Int32)).toNatClampNeg) := inb_of S35 ⟨by decide, by decide⟩
  obtain ⟨T36, h36, X36, e36, W36, st36⟩ := stR X34 hx hZ e34 Ar35 (j := (0 : Int32)) hin35 rfl (Sto.ofV Ar35 q35 O33 (Ins.self (E_VALIDATION.ext EX33))) (g := (mkF m 10 #[.val (.int p0), .unset, .unset, .unset] [(.ref w_VALIDATION), (.int (0 : Int32)), (.ref b33), (.ref b33)])) rfl rfl (hb hby at_10)
  have EX36 := own_ext_wr EX33 W36 sz_b33
  have KP36 := Keep.wr KP33 W36 (Or.inr sz_b33)
  have V36 : Arv Z h36 b33 k33 (.object "com/example/ovenbird/ovenbird/api/ErrorCode") (8 : Int32) [(.ref w_VALIDATION), .null, .null, .null, .null, .null, .null, .null] .null := Arv.set Ar35 q35 S35 N35_ H35_ G35 rfl W36 0 rfl (Nat.le_of_ble_eq_true rfl)
  have N36 := Fr.snoc X36 N0 gn_b33
  obtain ⟨T37, X37, e37, st37⟩ := getS2 X36 hx hZ hown (host := "") (Or.inl (hw _ (List.mem_of_getElem? (i := 6) rfl))) Via.refl e36 (S_SERIALIZATION.ext EX36) (g := (mkF m 13 #[.val (.int p0), .unset, .unset, .unset] [(.int (1 : Int32)), (.ref b33), (.ref b33)])) rfl (hb hby at_13)
  obtain ⟨cl38, Ar38, q38, S38, N38_, H38_, G38⟩ := V36
  have hin38 : ¬ ((1 : Int32) < 0 ∨ cl38.slots.size ≤ ((1 : Int32)).toNatClampNeg) := inb_of S38 ⟨by decide, by decide⟩
  obtain ⟨T39, h39, X39, e39, W39, st39⟩ := stR X37 hx hZ e37 Ar38 (j := (1 : Int32)) hin38 rfl (Sto.ofV Ar38 q38 O33 (Ins.self (E_SERIALIZATION.ext EX36))) (g := (mkF m 16 #[.val (.int p0), .unset, .unset, .unset] [(.ref w_SERIALIZATION), (.int (1 : Int32)), (.ref b33), (.ref b33)])) rfl rfl (hb hby at_16)
  have EX39 := own_ext_wr EX36 W39 sz_b33
  have KP39 := Keep.wr KP36 W39 (Or.inr sz_b33)
  have V39 : Arv Z h39 b33 k33 (.object "com/example/ovenbird/ovenbird/api/ErrorCode") (8 : Int32) [(.ref w_VALIDATION), (.ref w_SERIALIZATION), .null, .null, .null, .null, .null, .null] .null := Arv.set Ar38 q38 S38 N38_ H38_ G38 rfl W39 1 rfl (Nat.le_of_ble_eq_true rfl)
  have N39 := Fr.snoc X39 N36 gn_b33
  obtain ⟨T40, X40, e40, st40⟩ := getS2 X39 hx hZ hown (host := "") (Or.inl (hw _ (List.mem_of_getElem? (i := 8) rfl))) Via.refl e39 (S_UNKNOWN_OPERATION.ext EX39) (g := (mkF m 19 #[.val (.int p0), .unset, .unset, .unset] [(.int (2 : Int32)), (.ref b33), (.ref b33)])) rfl (hb hby at_19)
  obtain ⟨cl41, Ar41, q41, S41, N41_, H41_, G41⟩ := V39
  have hin41 : ¬ ((2 : Int32) < 0 ∨ cl41.slots.size ≤ ((2 : Int32)).toNatClampNeg) := inb_of S41 ⟨by decide, by decide⟩
  obtain ⟨T42, h42, X42, e42, W42, st42⟩ := stR X40 hx hZ e40 Ar41 (j := (2 : Int32)) hin41 rfl (Sto.ofV Ar41 q41 O33 (Ins.self (E_UNKNOWN_OPERATION.ext EX39))) (g := (mkF m 22 #[.val (.int p0), .unset, .unset, .unset] [(.ref w_UNKNOWN_OPERATION), (.int (2 : Int32)), (.ref b33), (.ref b33)])) rfl rfl (hb hby at_22)
  have EX42 := own_ext_wr EX39 W42 sz_b33
  have KP42 := Keep.wr KP39 W42 (Or.inr sz_b33)
  have V42 : Arv Z h42 b33 k33 (.object "com/example/ovenbird/ovenbird/api/ErrorCode") (8 : Int32) [(.ref w_VALIDATION), (.ref w_SERIALIZATION), (.ref w_UNKNOWN_OPERATION), .null, .null, .null, .null, .null] .null := Arv.set Ar41 q41 S41 N41_ H41_ G41 rfl W42 2 rfl (Nat.le_of_ble_eq_true rfl)
  have N42 := Fr.snoc X42 N39 gn_b33
  obtain ⟨T43, X43, e43, st43⟩ := getS2 X42 hx hZ hown (host := "") (Or.inl (hw _ (List.mem_of_getElem? (i := 10) rfl))) Via.refl e42 (S_RESOURCE_NOT_FOUND.ext EX42) (g := (mkF m 25 #[.val (.int p0), .unset, .unset, .unset] [(.int (3 : Int32)), (.ref b33), (.ref b33)])) rfl (hb hby at_25)
  obtain ⟨cl44, Ar44, q44, S44, N44_, H44_, G44⟩ := V42
  have hin44 : ¬ ((3 : Int32) < 0 ∨ cl44.slots.size ≤ ((3 : Int32)).toNatClampNeg) := inb_of S44 ⟨by decide, by decide⟩
  obtain ⟨T45, h45, X45, e45, W45, st45⟩ := stR X43 hx hZ e43 Ar44 (j := (3 : Int32)) hin44 rfl (Sto.ofV Ar44 q44 O33 (Ins.self (E_RESOURCE_NOT_FOUND.ext EX42))) (g := (mkF m 28 #[.val (.int p0), .unset, .unset, .unset] [(.ref w_RESOURCE_NOT_FOUND), (.int (3 : Int32)), (.ref b33), (.ref b33)])) rfl rfl (hb hby at_28)
  have EX45 := own_ext_wr EX42 W45 sz_b33
  have KP45 := Keep.wr KP42 W45 (Or.inr sz_b33)
  have V45 : Arv Z h45 b33 k33 (.object "com/example/ovenbird/ovenbird/api/ErrorCode") (8 : Int32) [(.ref w_VALIDATION), (.ref w_SERIALIZATION), (.ref w_UNKNOWN_OPERATION), (.ref w_RESOURCE_NOT_FOUND), .null, .null, .null, .null] .null := Arv.set Ar44 q44 S44 N44_ H44_ G44 rfl W45 3 rfl (Nat.le_of_ble_eq_true rfl)
  have N45 := Fr.snoc X45 N42 gn_b33
  obtain ⟨T46, X46, e46, st46⟩ := getS2 X45 hx hZ hown (host := "") (Or.inl (hw _ (List.mem_of_getElem? (i := 12) rfl))) Via.refl e45 (S_RESOURCE_IN_USE.ext EX45) (g := (mkF m 31 #[.val (.int p0), .unset, .unset, .unset] [(.int (4 : Int32)), (.ref b33), (.ref b33)])) rfl (hb hby at_31)
  obtain ⟨cl47, Ar47, q47, S47, N47_, H47_, G47⟩ := V45
  have hin47 : ¬ ((4 : Int32) < 0 ∨ cl47.slots.size ≤ ((4 : Int32)).toNatClampNeg) := inb_of S47 ⟨by decide, by decide⟩
  obtain ⟨T48, h48, X48, e48, W48, st48⟩ := stR X46 hx hZ e46 Ar47 (j := (4 : Int32)) hin47 rfl (Sto.ofV Ar47 q47 O33 (Ins.self (E_RESOURCE_IN_USE.ext EX45))) (g := (mkF m 34 #[.val (.int p0), .unset, .unset, .unset] [(.ref w_RESOURCE_IN_USE), (.int (4 : Int32)), (.ref b33), (.ref b33)])) rfl rfl (hb hby at_34)
  have EX48 := own_ext_wr EX45 W48 sz_b33
  have KP48 := Keep.wr KP45 W48 (Or.inr sz_b33)
  have V48 : Arv Z h48 b33 k33 (.object "com/example/ovenbird/ovenbird/api/ErrorCode") (8 : Int32) [(.ref w_VALIDATION), (.ref w_SERIALIZATION), (.ref w_UNKNOWN_OPERATION), (.ref w_RESOURCE_NOT_FOUND), (.ref w_RESOURCE_IN_USE), .null, .null, .null] .null := Arv.set Ar47 q47 S47 N47_ H47_ G47 rfl W48 4 rfl (Nat.le_of_ble_eq_true rfl)
  have N48 := Fr.snoc X48 N45 gn_b33
  obtain ⟨T49, X49, e49, st49⟩ := getS2 X48 hx hZ hown (host := "") (Or.inl (hw _ (List.mem_of_getElem? (i := 14) rfl))) Via.refl e48 (S_CONDITIONAL_CHECK_FAILED.ext EX48) (g := (mkF m 37 #[.val (.int p0), .unset, .unset, .unset] [(.int (5 : Int32)), (.ref b33), (.ref b33)])) rfl (hb hby at_37)
  obtain ⟨cl50, Ar50, q50, S50, N50_, H50_, G50⟩ := V48
  have hin50 : ¬ ((5 : Int32) < 0 ∨ cl50.slots.size ≤ ((5 : Int32)).toNatClampNeg) := inb_of S50 ⟨by decide, by decide⟩
  obtain ⟨T51, h51, X51, e51, W51, st51⟩ := stR X49 hx hZ e49 Ar50 (j := (5 : Int32)) hin50 rfl (Sto.ofV Ar50 q50 O33 (Ins.self (E_CONDITIONAL_CHECK_FAILED.ext EX48))) (g := (mkF m 40 #[.val (.int p0), .unset, .unset, .unset] [(.ref w_CONDITIONAL_CHECK_FAILED), (.int (5 : Int32)), (.ref b33), (.ref b33)])) rfl rfl (hb hby at_40)
  have EX51 := own_ext_wr EX48 W51 sz_b33
  have KP51 := Keep.wr KP48 W51 (Or.inr sz_b33)
  have V51 : Arv Z h51 b33 k33 (.object "com/example/ovenbird/ovenbird/api/ErrorCode") (8 : Int32) [(.ref w_VALIDATION), (.ref w_SERIALIZATION), (.ref w_UNKNOWN_OPERATION), (.ref w_RESOURCE_NOT_FOUND), (.ref w_RESOURCE_IN_USE), (.ref w_CONDITIONAL_CHECK_FAILED), .null, .null] .null := Arv.set Ar50 q50 S50 N50_ H50_ G50 rfl W51 5 rfl (Nat.le_of_ble_eq_true rfl)
  have N51 := Fr.snoc X51 N48 gn_b33
  obtain ⟨T52, X52, e52, st52⟩ := getS2 X51 hx hZ hown (host := "") (Or.inl (hw _ (List.mem_of_getElem? (i := 16) rfl))) Via.refl e51 (S_TRANSACTION_CANCELED.ext EX51) (g := (mkF m 44 #[.val (.int p0), .unset, .unset, .unset] [(.int (6 : Int32)), (.ref b33), (.ref b33)])) rfl (hb hby at_44)
  obtain ⟨cl53, Ar53, q53, S53, N53_, H53_, G53⟩ := V51
  have hin53 : ¬ ((6 : Int32) < 0 ∨ cl53.slots.size ≤ ((6 : Int32)).toNatClampNeg) := inb_of S53 ⟨by decide, by decide⟩
  obtain ⟨T54, h54, X54, e54, W54, st54⟩ := stR X52 hx hZ e52 Ar53 (j := (6 : Int32)) hin53 rfl (Sto.ofV Ar53 q53 O33 (Ins.self (E_TRANSACTION_CANCELED.ext EX51))) (g := (mkF m 47 #[.val (.int p0), .unset, .unset, .unset] [(.ref w_TRANSACTION_CANCELED), (.int (6 : Int32)), (.ref b33), (.ref b33)])) rfl rfl (hb hby at_47)
  have EX54 := own_ext_wr EX51 W54 sz_b33
  have KP54 := Keep.wr KP51 W54 (Or.inr sz_b33)
  have V54 : Arv Z h54 b33 k33 (.object "com/example/ovenbird/ovenbird/api/ErrorCode") (8 : Int32) [(.ref w_VALIDATION), (.ref w_SERIALIZATION), (.ref w_UNKNOWN_OPERATION), (.ref w_RESOURCE_NOT_FOUND), (.ref w_RESOURCE_IN_USE), (.ref w_CONDITIONAL_CHECK_FAILED), (.ref w_TRANSACTION_CANCELED), .null] .null := Arv.set Ar53 q53 S53 N53_ H53_ G53 rfl W54 6 rfl (Nat.le_of_ble_eq_true rfl)
  have N54 := Fr.snoc X54 N51 gn_b33
  obtain ⟨T55, X55, e55, st55⟩ := getS2 X54 hx hZ hown (host := "") (Or.inl (hw _ (List.mem_of_getElem? (i := 18) rfl))) Via.refl e54 (S_INTERNAL_SERVER_ERROR.ext EX54) (g := (mkF m 51 #[.val (.int p0), .unset, .unset, .unset] [(.int (7 : Int32)), (.ref b33), (.ref b33)])) rfl (hb hby at_51)
  obtain ⟨cl56, Ar56, q56, S56, N56_, H56_, G56⟩ := V54
  have hin56 : ¬ ((7 : Int32) < 0 ∨ cl56.slots.size ≤ ((7 : Int32)).toNatClampNeg) := inb_of S56 ⟨by decide, by decide⟩
  obtain ⟨T57, h57, X57, e57, W57, st57⟩ := stR X55 hx hZ e55 Ar56 (j := (7 : Int32)) hin56 rfl (Sto.ofV Ar56 q56 O33 (Ins.self (E_INTERNAL_SERVER_ERROR.ext EX54))) (g := (mkF m 54 #[.val (.int p0), .unset, .unset, .unset] [(.ref w_INTERNAL_SERVER_ERROR), (.int (7 : Int32)), (.ref b33), (.ref b33)])) rfl rfl (hb hby at_54)
  have EX57 := own_ext_wr EX54 W57 sz_b33
  have KP57 := Keep.wr KP54 W57 (Or.inr sz_b33)
  have V57 : Arv Z h57 b33 k33 (.object "com/example/ovenbird/ovenbird/api/ErrorCode") (8 : Int32) [(.ref w_VALIDATION), (.ref w_SERIALIZATION), (.ref w_UNKNOWN_OPERATION), (.ref w_RESOURCE_NOT_FOUND), (.ref w_RESOURCE_IN_USE), (.ref w_CONDITIONAL_CHECK_FAILED), (.ref w_TRANSACTION_CANCELED), (.ref w_INTERNAL_SERVER_ERROR)] .null := Arv.set Ar56 q56 S56 N56_ H56_ G56 rfl W57 7 rfl (Nat.le_of_ble_eq_true rfl)
  have N57 := Fr.snoc X57 N54 gn_b33
  have ck58 : ∀ t, Steps p.tables e below (T57.setTop (mkF m 60 #[.val (.int p0), .val (.ref b33), .unset, .unset] [(.int (p0 &&& (7 : Int32)))])) t → Steps p.tables e below (s₁.setTop (entryFrame m #[(.int p0)] maxLocals)) t := by
    intro t kt
    refine pre0 _ ?_
    show Steps p.tables e below (s₁.setTop (mkF m 0 #[.val (.int p0), .unset, .unset, .unset] [])) _
    refine XS.bipush X0.here hx rfl (hb hby at_0) ?_
    show Steps p.tables e below (s₁.setTop (mkF m 2 #[.val (.int p0), .unset, .unset, .unset] [(.int (8 : Int32))])) _
    refine st33 _ ?_
    show Steps p.tables e below (T33.setTop (mkF m 5 #[.val (.int p0), .unset, .unset, .unset] [(.ref b33)])) _
    refine XS.dup X33.here hx rfl (hb hby at_5) rfl rfl ?_
    show Steps p.tables e below (T33.setTop (mkF m 6 #[.val (.int p0), .unset, .unset, .unset] [(.ref b33), (.ref b33)])) _
    refine XS.iconst X33.here hx rfl (hb hby at_6) ?_
    show Steps p.tables e below (T33.setTop (mkF m 7 #[.val (.int p0), .unset, .unset, .unset] [(.int (0 : Int32)), (.ref b33), (.ref b33)])) _
    refine st34 _ ?_
    show Steps p.tables e below (T34.setTop (mkF m 10 #[.val (.int p0), .unset, .unset, .unset] [(.ref w_VALIDATION), (.int (0 : Int32)), (.ref b33), (.ref b33)])) _
    refine st36 _ ?_
    show Steps p.tables e below (T36.setTop (mkF m 11 #[.val (.int p0), .unset, .unset, .unset] [(.ref b33)])) _
    refine XS.dup X36.here hx rfl (hb hby at_11) rfl rfl ?_
    show Steps p.tables e below (T36.setTop (mkF m 12 #[.val (.int p0), .unset, .unset, .unset] [(.ref b33), (.ref b33)])) _
    refine XS.iconst X36.here hx rfl (hb hby at_12) ?_
    show Steps p.tables e below (T36.setTop (mkF m 13 #[.val (.int p0), .unset, .unset, .unset] [(.int (1 : Int32)), (.ref b33), (.ref b33)])) _
    refine st37 _ ?_
    show Steps p.tables e below (T37.setTop (mkF m 16 #[.val (.int p0), .unset, .unset, .unset] [(.ref w_SERIALIZATION), (.int (1 : Int32)), (.ref b33), (.ref b33)])) _
    refine st39 _ ?_
    show Steps p.tables e below (T39.setTop (mkF m 17 #[.val (.int p0), .unset, .unset, .unset] [(.ref b33)])) _
    refine XS.dup X39.here hx rfl (hb hby at_17) rfl rfl ?_
    show Steps p.tables e below (T39.setTop (mkF m 18 #[.val (.int p0), .unset, .unset, .unset] [(.ref b33), (.ref b33)])) _
    refine XS.iconst X39.here hx rfl (hb hby at_18) ?_
    show Steps p.tables e below (T39.setTop (mkF m 19 #[.val (.int p0), .unset, .unset, .unset] [(.int (2 : Int32)), (.ref b33), (.ref b33)])) _
    refine st40 _ ?_
    show Steps p.tables e below (T40.setTop (mkF m 22 #[.val (.int p0), .unset, .unset, .unset] [(.ref w_UNKNOWN_OPERATION), (.int (2 : Int32)), (.ref b33), (.ref b33)])) _
    refine st42 _ ?_
    show Steps p.tables e below (T42.setTop (mkF m 23 #[.val (.int p0), .unset, .unset, .unset] [(.ref b33)])) _
    refine XS.dup X42.here hx rfl (hb hby at_23) rfl rfl ?_
    show Steps p.tables e below (T42.setTop (mkF m 24 #[.val (.int p0), .unset, .unset, .unset] [(.ref b33), (.ref b33)])) _
    refine XS.iconst X42.here hx rfl (hb hby at_24) ?_
    show Steps p.tables e below (T42.setTop (mkF m 25 #[.val (.int p0), .unset, .unset, .unset] [(.int (3 : Int32)), (.ref b33), (.ref b33)])) _
    refine st43 _ ?_
    show Steps p.tables e below (T43.setTop (mkF m 28 #[.val (.int p0), .unset, .unset, .unset] [(.ref w_RESOURCE_NOT_FOUND), (.int (3 : Int32)), (.ref b33), (.ref b33)])) _
    refine st45 _ ?_
    show Steps p.tables e below (T45.setTop (mkF m 29 #[.val (.int p0), .unset, .unset, .unset] [(.ref b33)])) _
    refine XS.dup X45.here hx rfl (hb hby at_29) rfl rfl ?_
    show Steps p.tables e below (T45.setTop (mkF m 30 #[.val (.int p0), .unset, .unset, .unset] [(.ref b33), (.ref b33)])) _
    refine XS.iconst X45.here hx rfl (hb hby at_30) ?_
    show Steps p.tables e below (T45.setTop (mkF m 31 #[.val (.int p0), .unset, .unset, .unset] [(.int (4 : Int32)), (.ref b33), (.ref b33)])) _
    refine st46 _ ?_
    show Steps p.tables e below (T46.setTop (mkF m 34 #[.val (.int p0), .unset, .unset, .unset] [(.ref w_RESOURCE_IN_USE), (.int (4 : Int32)), (.ref b33), (.ref b33)])) _
    refine st48 _ ?_
    show Steps p.tables e below (T48.setTop (mkF m 35 #[.val (.int p0), .unset, .unset, .unset] [(.ref b33)])) _
    refine XS.dup X48.here hx rfl (hb hby at_35) rfl rfl ?_
    show Steps p.tables e below (T48.setTop (mkF m 36 #[.val (.int p0), .unset, .unset, .unset] [(.ref b33), (.ref b33)])) _
    refine XS.iconst X48.here hx rfl (hb hby at_36) ?_
    show Steps p.tables e below (T48.setTop (mkF m 37 #[.val (.int p0), .unset, .unset, .unset] [(.int (5 : Int32)), (.ref b33), (.ref b33)])) _
    refine st49 _ ?_
    show Steps p.tables e below (T49.setTop (mkF m 40 #[.val (.int p0), .unset, .unset, .unset] [(.ref w_CONDITIONAL_CHECK_FAILED), (.int (5 : Int32)), (.ref b33), (.ref b33)])) _
    refine st51 _ ?_
    show Steps p.tables e below (T51.setTop (mkF m 41 #[.val (.int p0), .unset, .unset, .unset] [(.ref b33)])) _
    refine XS.dup X51.here hx rfl (hb hby at_41) rfl rfl ?_
    show Steps p.tables e below (T51.setTop (mkF m 42 #[.val (.int p0), .unset, .unset, .unset] [(.ref b33), (.ref b33)])) _
    refine XS.bipush X51.here hx rfl (hb hby at_42) ?_
    show Steps p.tables e below (T51.setTop (mkF m 44 #[.val (.int p0), .unset, .unset, .unset] [(.int (6 : Int32)), (.ref b33), (.ref b33)])) _
    refine st52 _ ?_
    show Steps p.tables e below (T52.setTop (mkF m 47 #[.val (.int p0), .unset, .unset, .unset] [(.ref w_TRANSACTION_CANCELED), (.int (6 : Int32)), (.ref b33), (.ref b33)])) _
    refine st54 _ ?_
    show Steps p.tables e below (T54.setTop (mkF m 48 #[.val (.int p0), .unset, .unset, .unset] [(.ref b33)])) _
    refine XS.dup X54.here hx rfl (hb hby at_48) rfl rfl ?_
    show Steps p.tables e below (T54.setTop (mkF m 49 #[.val (.int p0), .unset, .unset, .unset] [(.ref b33), (.ref b33)])) _
    refine XS.bipush X54.here hx rfl (hb hby at_49) ?_
    show Steps p.tables e below (T54.setTop (mkF m 51 #[.val (.int p0), .unset, .unset, .unset] [(.int (7 : Int32)), (.ref b33), (.ref b33)])) _
    refine st55 _ ?_
    show Steps p.tables e below (T55.setTop (mkF m 54 #[.val (.int p0), .unset, .unset, .unset] [(.ref w_INTERNAL_SERVER_ERROR), (.int (7 : Int32)), (.ref b33), (.ref b33)])) _
    refine st57 _ ?_
    show Steps p.tables e below (T57.setTop (mkF m 55 #[.val (.int p0), .unset, .unset, .unset] [(.ref b33)])) _
    refine XS.astoreN X57.here hx rfl (hb hby at_55) rfl rfl (l' := #[.val (.int p0), .val (.ref b33), .unset, .unset]) rfl ?_
    show Steps p.tables e below (T57.setTop (mkF m 56 #[.val (.int p0), .val (.ref b33), .unset, .unset] [])) _
    refine XS.iloadN X57.here hx rfl (hb hby at_56) rfl ?_
    show Steps p.tables e below (T57.setTop (mkF m 57 #[.val (.int p0), .val (.ref b33), .unset, .unset] [(.int p0)])) _
    refine XS.bipush X57.here hx rfl (hb hby at_57) ?_
    show Steps p.tables e below (T57.setTop (mkF m 59 #[.val (.int p0), .val (.ref b33), .unset, .unset] [(.int (7 : Int32)), (.int p0)])) _
    refine XS.iand X57.here hx rfl (hb hby at_59) rfl ?_
    exact kt
  rcases own_and7 p0 with hv59 | hv60 | hv61 | hv62 | hv63 | hv64 | hv65 | hv66
  · -- (0 : Int32)
    obtain ⟨cl67, Ar67, q67, S67, N67_, H67_, G67⟩ := V57
    have hin67 : ¬ ((0 : Int32) < 0 ∨ cl67.slots.size ≤ ((0 : Int32)).toNatClampNeg) := inb_of S67 ⟨by decide, by decide⟩
    have hat67 : cl67.slots[((0 : Int32)).toNatClampNeg]? = some (.ref w_VALIDATION) := Has.at H67_ hin67 rfl
    obtain ⟨cq68, kq68, q68a, q68b, q68c⟩ := isOf hZ e57 ((E_VALIDATION.ext EX57))
    obtain ⟨_, _, ⟨T68, L68, k68, n68⟩, -, X68, ⟨Lc68, hQ68, l68, y68, z68⟩, st68⟩ := X57.virtualBack hx (y := (⟨"com/example/ovenbird/ovenbird/api/ErrorCode", "isServerFault", "()Z"⟩ : MethodName)) (z := (⟨"com/example/ovenbird/ovenbird/api/ErrorCode", "isServerFault", "()Z"⟩ : MethodName)) hown (mvT hZ (hw _ (List.mem_of_getElem? (i := 20) rfl))) (mvT hZ (hw _ (List.mem_of_getElem? (i := 21) rfl))) (notFace_of_selects (args := #[]) (mvT hZ (hw _ (List.mem_of_getElem? (i := 23) rfl)))) (mvT hZ (hw _ (List.mem_of_getElem? (i := 23) rfl))) (mvT hZ (hw _ (List.mem_of_getElem? (i := 22) rfl))) (by decide) (backOf (W := 0) (rm_sf l Z a0 hw [] w_VALIDATION h57 n0 (Nat.le_trans Z0 EX57.1) w_VALIDATION w_SERIALIZATION w_UNKNOWN_OPERATION w_RESOURCE_NOT_FOUND w_RESOURCE_IN_USE w_CONDITIONAL_CHECK_FAILED w_TRANSACTION_CANCELED w_INTERNAL_SERVER_ERROR (hWd.ext EX57) (0 : Int32) (by simp [(F_VALIDATION_ordinal.ne F_INTERNAL_SERVER_ERROR_ordinal (by decide))])) hZ (hw _ (List.mem_of_getElem? (i := 24) rfl)) (hw _ (List.mem_of_getElem? (i := 3) rfl)) (by decide) (by decide)) q68a q68c (g := (mkF m 76 #[.val (.int p0), .val (.ref b33), .val (.int (0 : Int32)), .val (.int (0 : Int32))] [(.ref w_VALIDATION)])) rfl (by rw [hml]; rfl) (Steps.refl _) (argsL := []) (rest := []) (lenOf pd_8 rfl) rfl (by show 2 * 0 + _ ≤ _; exact Nat.le_of_eq rfl) (hb hby at_76) (fun _ _ => ⟨rfl, e57, (by decide : 1 + 0 ≤ _), (by decide : 8 + 0 ≤ _)⟩)
    dsimp only [Pt.U, Pt.locs, Pt.cells, Pt.slots] at X68 l68 y68 z68 st68 hQ68
    subst l68 y68 z68
    obtain ⟨rfl, N68q, e68⟩ := hQ68
    have N68 := Fr.app N57 N68q
    obtain ⟨fs, hr, hrun, hended, hW, hsame⟩ := X68.leave (v := some (.int (1 : Int32))) (fun h => by rw [Bd.returns] at h; cases h)
    refine ⟨_, _, ck58 _ ?_, hrun, hended, _, _, rfl, ?_, ⟨_, rfl⟩, hW, hsame.mono (by decide) (by decide)⟩
    · show Steps p.tables e below (T57.setTop (mkF m 60 #[.val (.int p0), .val (.ref b33), .unset, .unset] [(.int (p0 &&& (7 : Int32)))])) _
      rw [hv59]
      show Steps p.tables e below (T57.setTop (mkF m 60 #[.val (.int p0), .val (.ref b33), .unset, .unset] [(.int (0 : Int32))])) _
      refine XS.istoreN X57.here hx rfl (hb hby at_60) rfl (l' := #[.val (.int p0), .val (.ref b33), .val (.int (0 : Int32)), .unset]) rfl ?_
      show Steps p.tables e below (T57.setTop (mkF m 61 #[.val (.int p0), .val (.ref b33), .val (.int (0 : Int32)), .unset] [])) _
      refine XS.iloadN X57.here hx rfl (hb hby at_61) rfl ?_
      show Steps p.tables e below (T57.setTop (mkF m 62 #[.val (.int p0), .val (.ref b33), .val (.int (0 : Int32)), .unset] [(.int (0 : Int32))])) _
      refine XS.bipush X57.here hx rfl (hb hby at_62) ?_
      show Steps p.tables e below (T57.setTop (mkF m 64 #[.val (.int p0), .val (.ref b33), .val (.int (0 : Int32)), .unset] [(.int (7 : Int32)), (.int (0 : Int32))])) _
      refine XS.icmpYes X57.here hx rfl (pc0 := 64) (pc' := 71) rfl (hb hby at_64) rfl (feq (by decide : ¬ ((0 : Int32) = (7 : Int32)))).2 (by decide) (by decide) ?_
      show Steps p.tables e below (T57.setTop (mkF m 71 #[.val (.int p0), .val (.ref b33), .val (.int (0 : Int32)), .unset] [])) _
      refine XS.iconst X57.here hx rfl (hb hby at_71) ?_
      show Steps p.tables e below (T57.setTop (mkF m 72 #[.val (.int p0), .val (.ref b33), .val (.int (0 : Int32)), .unset] [(.int (0 : Int32))])) _
      refine XS.istoreN X57.here hx rfl (hb hby at_72) rfl (l' := #[.val (.int p0), .val (.ref b33), .val (.int (0 : Int32)), .val (.int (0 : Int32))]) rfl ?_
      show Steps p.tables e below (T57.setTop (mkF m 73 #[.val (.int p0), .val (.ref b33), .val (.int (0 : Int32)), .val (.int (0 : Int32))] [])) _
      refine XS.aloadN X57.here hx rfl (hb hby at_73) rfl rfl ?_
      show Steps p.tables e below (T57.setTop (mkF m 74 #[.val (.int p0), .val (.ref b33), .val (.int (0 : Int32)), .val (.int (0 : Int32))] [(.ref b33)])) _
      refine XS.iloadN X57.here hx rfl (hb hby at_74) rfl ?_
      show Steps p.tables e below (T57.setTop (mkF m 75 #[.val (.int p0), .val (.ref b33), .val (.int (0 : Int32)), .val (.int (0 : Int32))] [(.int (0 : Int32)), (.ref b33)])) _
      refine X57.aaload hx (j := (0 : Int32)) (v := (.ref w_VALIDATION)) (by rw [e57]; exact Ar67.1) (State.isArrayOf_alike hZ.alike Ar67.2.1) rfl Ar67.2.2 hin67 hat67 (g := (mkF m 75 #[.val (.int p0), .val (.ref b33), .val (.int (0 : Int32)), .val (.int (0 : Int32))] [(.int (0 : Int32)), (.ref b33)])) rfl rfl (hb hby at_75) _ ?_
      show Steps p.tables e below (T57.setTop (mkF m 76 #[.val (.int p0), .val (.ref b33), .val (.int (0 : Int32)), .val (.int (0 : Int32))] [(.ref w_VALIDATION)])) _
      refine st68.trans ?_
      show Steps p.tables e below (T68.setTop (mkF m 79 #[.val (.int p0), .val (.ref b33), .val (.int (0 : Int32)), .val (.int (0 : Int32))] [(.int (0 : Int32))])) _
      refine XS.iloadN X68.here hx rfl (hb hby at_79) rfl ?_
      show Steps p.tables e below (T68.setTop (mkF m 80 #[.val (.int p0), .val (.ref b33), .val (.int (0 : Int32)), .val (.int (0 : Int32))] [(.int (0 : Int32)), (.int (0 : Int32))])) _
      refine XS.icmpNo X68.here hx rfl (hb hby at_80) rfl (teq (by decide : (0 : Int32) = (0 : Int32))).2 ?_
      show Steps p.tables e below (T68.setTop (mkF m 83 #[.val (.int p0), .val (.ref b33), .val (.int (0 : Int32)), .val (.int (0 : Int32))] [])) _
      refine XS.iconst X68.here hx rfl (hb hby at_83) ?_
      show Steps p.tables e below (T68.setTop (mkF m 84 #[.val (.int p0), .val (.ref b33), .val (.int (0 : Int32)), .val (.int (0 : Int32))] [(.int (1 : Int32))])) _
      refine XS.goto X68.here hx rfl (pc0 := 84) (pc' := 88) rfl (hb hby at_84) (by decide) (by decide) ?_
      show Steps p.tables e below (T68.setTop (mkF m 88 #[.val (.int p0), .val (.ref b33), .val (.int (0 : Int32)), .val (.int (0 : Int32))] [(.int (1 : Int32))])) _
      exact retN X68 hx (t := .boolean) Bd.returns (by simp) (hb hby at_88) hr
    · show own_Made (some (.int 1)) n0 _ T68.heap _
      rw [e68]
      exact ⟨rfl, N68, trivial⟩
  · -- (1 : Int32)
    obtain ⟨cl69, Ar69, q69, S69, N69_, H69_, G69⟩ := V57
    have hin69 : ¬ ((1 : Int32) < 0 ∨ cl69.slots.size ≤ ((1 : Int32)).toNatClampNeg) := inb_of S69 ⟨by decide, by decide⟩
    have hat69 : cl69.slots[((1 : Int32)).toNatClampNeg]? = some (.ref w_SERIALIZATION) := Has.at H69_ hin69 rfl
    obtain ⟨cq70, kq70, q70a, q70b, q70c⟩ := isOf hZ e57 ((E_SERIALIZATION.ext EX57))
    obtain ⟨_, _, ⟨T70, L70, k70, n70⟩, -, X70, ⟨Lc70, hQ70, l70, y70, z70⟩, st70⟩ := X57.virtualBack hx (y := (⟨"com/example/ovenbird/ovenbird/api/ErrorCode", "isServerFault", "()Z"⟩ : MethodName)) (z := (⟨"com/example/ovenbird/ovenbird/api/ErrorCode", "isServerFault", "()Z"⟩ : MethodName)) hown (mvT hZ (hw _ (List.mem_of_getElem? (i := 20) rfl))) (mvT hZ (hw _ (List.mem_of_getElem? (i := 21) rfl))) (notFace_of_selects (args := #[]) (mvT hZ (hw _ (List.mem_of_getElem? (i := 23) rfl)))) (mvT hZ (hw _ (List.mem_of_getElem? (i := 23) rfl))) (mvT hZ (hw _ (List.mem_of_getElem? (i := 22) rfl))) (by decide) (backOf (W := 0) (rm_sf l Z a0 hw [] w_SERIALIZATION h57 n0 (Nat.le_trans Z0 EX57.1) w_VALIDATION w_SERIALIZATION w_UNKNOWN_OPERATION w_RESOURCE_NOT_FOUND w_RESOURCE_IN_USE w_CONDITIONAL_CHECK_FAILED w_TRANSACTION_CANCELED w_INTERNAL_SERVER_ERROR (hWd.ext EX57) (0 : Int32) (by simp [(F_SERIALIZATION_ordinal.ne F_INTERNAL_SERVER_ERROR_ordinal (by decide))])) hZ (hw _ (List.mem_of_getElem? (i := 24) rfl)) (hw _ (List.mem_of_getElem? (i := 3) rfl)) (by decide) (by decide)) q70a q70c (g := (mkF m 76 #[.val (.int p0), .val (.ref b33), .val (.int (1 : Int32)), .val (.int (0 : Int32))] [(.ref w_SERIALIZATION)])) rfl (by rw [hml]; rfl) (Steps.refl _) (argsL := []) (rest := []) (lenOf pd_8 rfl) rfl (by show 2 * 0 + _ ≤ _; exact Nat.le_of_eq rfl) (hb hby at_76) (fun _ _ => ⟨rfl, e57, (by decide : 1 + 0 ≤ _), (by decide : 8 + 0 ≤ _)⟩)
    dsimp only [Pt.U, Pt.locs, Pt.cells, Pt.slots] at X70 l70 y70 z70 st70 hQ70
    subst l70 y70 z70
    obtain ⟨rfl, N70q, e70⟩ := hQ70
    have N70 := Fr.app N57 N70q
    obtain ⟨fs, hr, hrun, hended, hW, hsame⟩ := X70.leave (v := some (.int (1 : Int32))) (fun h => by rw [Bd.returns] at h; cases h)
    refine ⟨_, _, ck58 _ ?_, hrun, hended, _, _, rfl, ?_, ⟨_, rfl⟩, hW, hsame.mono (by decide) (by decide)⟩
    · show Steps p.tables e below (T57.setTop (mkF m 60 #[.val (.int p0), .val (.ref b33), .unset, .unset] [(.int (p0 &&& (7 : Int32)))])) _
      rw [hv60]
      show Steps p.tables e below (T57.setTop (mkF m 60 #[.val (.int p0), .val (.ref b33), .unset, .unset] [(.int (1 : Int32))])) _
      refine XS.istoreN X57.here hx rfl (hb hby at_60) rfl (l' := #[.val (.int p0), .val (.ref b33), .val (.int (1 : Int32)), .unset]) rfl ?_
      show Steps p.tables e below (T57.setTop (mkF m 61 #[.val (.int p0), .val (.ref b33), .val (.int (1 : Int32)), .unset] [])) _
      refine XS.iloadN X57.here hx rfl (hb hby at_61) rfl ?_
      show Steps p.tables e below (T57.setTop (mkF m 62 #[.val (.int p0), .val (.ref b33), .val (.int (1 : Int32)), .unset] [(.int (1 : Int32))])) _
      refine XS.bipush X57.here hx rfl (hb hby at_62) ?_
      show Steps p.tables e below (T57.setTop (mkF m 64 #[.val (.int p0), .val (.ref b33), .val (.int (1 : Int32)), .unset] [(.int (7 : Int32)), (.int (1 : Int32))])) _
      refine XS.icmpYes X57.here hx rfl (pc0 := 64) (pc' := 71) rfl (hb hby at_64) rfl (feq (by decide : ¬ ((1 : Int32) = (7 : Int32)))).2 (by decide) (by decide) ?_
      show Steps p.tables e below (T57.setTop (mkF m 71 #[.val (.int p0), .val (.ref b33), .val (.int (1 : Int32)), .unset] [])) _
      refine XS.iconst X57.here hx rfl (hb hby at_71) ?_
      show Steps p.tables e below (T57.setTop (mkF m 72 #[.val (.int p0), .val (.ref b33), .val (.int (1 : Int32)), .unset] [(.int (0 : Int32))])) _
      refine XS.istoreN X57.here hx rfl (hb hby at_72) rfl (l' := #[.val (.int p0), .val (.ref b33), .val (.int (1 : Int32)), .val (.int (0 : Int32))]) rfl ?_
      show Steps p.tables e below (T57.setTop (mkF m 73 #[.val (.int p0), .val (.ref b33), .val (.int (1 : Int32)), .val (.int (0 : Int32))] [])) _
      refine XS.aloadN X57.here hx rfl (hb hby at_73) rfl rfl ?_
      show Steps p.tables e below (T57.setTop (mkF m 74 #[.val (.int p0), .val (.ref b33), .val (.int (1 : Int32)), .val (.int (0 : Int32))] [(.ref b33)])) _
      refine XS.iloadN X57.here hx rfl (hb hby at_74) rfl ?_
      show Steps p.tables e below (T57.setTop (mkF m 75 #[.val (.int p0), .val (.ref b33), .val (.int (1 : Int32)), .val (.int (0 : Int32))] [(.int (1 : Int32)), (.ref b33)])) _
      refine X57.aaload hx (j := (1 : Int32)) (v := (.ref w_SERIALIZATION)) (by rw [e57]; exact Ar69.1) (State.isArrayOf_alike hZ.alike Ar69.2.1) rfl Ar69.2.2 hin69 hat69 (g := (mkF m 75 #[.val (.int p0), .val (.ref b33), .val (.int (1 : Int32)), .val (.int (0 : Int32))] [(.int (1 : Int32)), (.ref b33)])) rfl rfl (hb hby at_75) _ ?_
      show Steps p.tables e below (T57.setTop (mkF m 76 #[.val (.int p0), .val (.ref b33), .val (.int (1 : Int32)), .val (.int (0 : Int32))] [(.ref w_SERIALIZATION)])) _
      refine st70.trans ?_
      show Steps p.tables e below (T70.setTop (mkF m 79 #[.val (.int p0), .val (.ref b33), .val (.int (1 : Int32)), .val (.int (0 : Int32))] [(.int (0 : Int32))])) _
      refine XS.iloadN X70.here hx rfl (hb hby at_79) rfl ?_
      show Steps p.tables e below (T70.setTop (mkF m 80 #[.val (.int p0), .val (.ref b33), .val (.int (1 : Int32)), .val (.int (0 : Int32))] [(.int (0 : Int32)), (.int (0 : Int32))])) _
      refine XS.icmpNo X70.here hx rfl (hb hby at_80) rfl (teq (by decide : (0 : Int32) = (0 : Int32))).2 ?_
      show Steps p.tables e below (T70.setTop (mkF m 83 #[.val (.int p0), .val (.ref b33), .val (.int (1 : Int32)), .val (.int (0 : Int32))] [])) _
      refine XS.iconst X70.here hx rfl (hb hby at_83) ?_
      show Steps p.tables e below (T70.setTop (mkF m 84 #[.val (.int p0), .val (.ref b33), .val (.int (1 : Int32)), .val (.int (0 : Int32))] [(.int (1 : Int32))])) _
      refine XS.goto X70.here hx rfl (pc0 := 84) (pc' := 88) rfl (hb hby at_84) (by decide) (by decide) ?_
      show Steps p.tables e below (T70.setTop (mkF m 88 #[.val (.int p0), .val (.ref b33), .val (.int (1 : Int32)), .val (.int (0 : Int32))] [(.int (1 : Int32))])) _
      exact retN X70 hx (t := .boolean) Bd.returns (by simp) (hb hby at_88) hr
    · show own_Made (some (.int 1)) n0 _ T70.heap _
      rw [e70]
      exact ⟨rfl, N70, trivial⟩
  · -- (2 : Int32)
    obtain ⟨cl71, Ar71, q71, S71, N71_, H71_, G71⟩ := V57
    have hin71 : ¬ ((2 : Int32) < 0 ∨ cl71.slots.size ≤ ((2 : Int32)).toNatClampNeg) := inb_of S71 ⟨by decide, by decide⟩
    have hat71 : cl71.slots[((2 : Int32)).toNatClampNeg]? = some (.ref w_UNKNOWN_OPERATION) := Has.at H71_ hin71 rfl
    obtain ⟨cq72, kq72, q72a, q72b, q72c⟩ := isOf hZ e57 ((E_UNKNOWN_OPERATION.ext EX57))
    obtain ⟨_, _, ⟨T72, L72, k72, n72⟩, -, X72, ⟨Lc72, hQ72, l72, y72, z72⟩, st72⟩ := X57.virtualBack hx (y := (⟨"com/example/ovenbird/ovenbird/api/ErrorCode", "isServerFault", "()Z"⟩ : MethodName)) (z := (⟨"com/example/ovenbird/ovenbird/api/ErrorCode", "isServerFault", "()Z"⟩ : MethodName)) hown (mvT hZ (hw _ (List.mem_of_getElem? (i := 20) rfl))) (mvT hZ (hw _ (List.mem_of_getElem? (i := 21) rfl))) (notFace_of_selects (args := #[]) (mvT hZ (hw _ (List.mem_of_getElem? (i := 23) rfl)))) (mvT hZ (hw _ (List.mem_of_getElem? (i := 23) rfl))) (mvT hZ (hw _ (List.mem_of_getElem? (i := 22) rfl))) (by decide) (backOf (W := 0) (rm_sf l Z a0 hw [] w_UNKNOWN_OPERATION h57 n0 (Nat.le_trans Z0 EX57.1) w_VALIDATION w_SERIALIZATION w_UNKNOWN_OPERATION w_RESOURCE_NOT_FOUND w_RESOURCE_IN_USE w_CONDITIONAL_CHECK_FAILED w_TRANSACTION_CANCELED w_INTERNAL_SERVER_ERROR (hWd.ext EX57) (0 : Int32) (by simp [(F_UNKNOWN_OPERATION_ordinal.ne F_INTERNAL_SERVER_ERROR_ordinal (by decide))])) hZ (hw _ (List.mem_of_getElem? (i := 24) rfl)) (hw _ (List.mem_of_getElem? (i := 3) rfl)) (by decide) (by decide)) q72a q72c (g := (mkF m 76 #[.val (.int p0), .val (.ref b33), .val (.int (2 : Int32)), .val (.int (0 : Int32))] [(.ref w_UNKNOWN_OPERATION)])) rfl (by rw [hml]; rfl) (Steps.refl _) (argsL := []) (rest := []) (lenOf pd_8 rfl) rfl (by show 2 * 0 + _ ≤ _; exact Nat.le_of_eq rfl) (hb hby at_76) (fun _ _ => ⟨rfl, e57, (by decide : 1 + 0 ≤ _), (by decide : 8 + 0 ≤ _)⟩)
    dsimp only [Pt.U, Pt.locs, Pt.cells, Pt.slots] at X72 l72 y72 z72 st72 hQ72
    subst l72 y72 z72
    obtain ⟨rfl, N72q, e72⟩ := hQ72
    have N72 := Fr.app N57 N72q
    obtain ⟨fs, hr, hrun, hended, hW, hsame⟩ := X72.leave (v := some (.int (1 : Int32))) (fun h => by rw [Bd.returns] at h; cases h)
    refine ⟨_, _, ck58 _ ?_, hrun, hended, _, _, rfl, ?_, ⟨_, rfl⟩, hW, hsame.mono (by decide) (by decide)⟩
    · show Steps p.tables e below (T57.setTop (mkF m 60 #[.val (.int p0), .val (.ref b33), .unset, .unset] [(.int (p0 &&& (7 : Int32)))])) _
      rw [hv61]
      show Steps p.tables e below (T57.setTop (mkF m 60 #[.val (.int p0), .val (.ref b33), .unset, .unset] [(.int (2 : Int32))])) _
      refine XS.istoreN X57.here hx rfl (hb hby at_60) rfl (l' := #[.val (.int p0), .val (.ref b33), .val (.int (2 : Int32)), .unset]) rfl ?_
      show Steps p.tables e below (T57.setTop (mkF m 61 #[.val (.int p0), .val (.ref b33), .val (.int (2 : Int32)), .unset] [])) _
      refine XS.iloadN X57.here hx rfl (hb hby at_61) rfl ?_
      show Steps p.tables e below (T57.setTop (mkF m 62 #[.val (.int p0), .val (.ref b33), .val (.int (2 : Int32)), .unset] [(.int (2 : Int32))])) _
      refine XS.bipush X57.here hx rfl (hb hby at_62) ?_
      show Steps p.tables e below (T57.setTop (mkF m 64 #[.val (.int p0), .val (.ref b33), .val (.int (2 : Int32)), .unset] [(.int (7 : Int32)), (.int (2 : Int32))])) _
      refine XS.icmpYes X57.here hx rfl (pc0 := 64) (pc' := 71) rfl (hb hby at_64) rfl (feq (by decide : ¬ ((2 : Int32) = (7 : Int32)))).2 (by decide) (by decide) ?_
      show Steps p.tables e below (T57.setTop (mkF m 71 #[.val (.int p0), .val (.ref b33), .val (.int (2 : Int32)), .unset] [])) _
      refine XS.iconst X57.here hx rfl (hb hby at_71) ?_
      show Steps p.tables e below (T57.setTop (mkF m 72 #[.val (.int p0), .val (.ref b33), .val (.int (2 : Int32)), .unset] [(.int (0 : Int32))])) _
      refine XS.istoreN X57.here hx rfl (hb hby at_72) rfl (l' := #[.val (.int p0), .val (.ref b33), .val (.int (2 : Int32)), .val (.int (0 : Int32))]) rfl ?_
      show Steps p.tables e below (T57.setTop (mkF m 73 #[.val (.int p0), .val (.ref b33), .val (.int (2 : Int32)), .val (.int (0 : Int32))] [])) _
      refine XS.aloadN X57.here hx rfl (hb hby at_73) rfl rfl ?_
      show Steps p.tables e below (T57.setTop (mkF m 74 #[.val (.int p0), .val (.ref b33), .val (.int (2 : Int32)), .val (.int (0 : Int32))] [(.ref b33)])) _
      refine XS.iloadN X57.here hx rfl (hb hby at_74) rfl ?_
      show Steps p.tables e below (T57.setTop (mkF m 75 #[.val (.int p0), .val (.ref b33), .val (.int (2 : Int32)), .val (.int (0 : Int32))] [(.int (2 : Int32)), (.ref b33)])) _
      refine X57.aaload hx (j := (2 : Int32)) (v := (.ref w_UNKNOWN_OPERATION)) (by rw [e57]; exact Ar71.1) (State.isArrayOf_alike hZ.alike Ar71.2.1) rfl Ar71.2.2 hin71 hat71 (g := (mkF m 75 #[.val (.int p0), .val (.ref b33), .val (.int (2 : Int32)), .val (.int (0 : Int32))] [(.int (2 : Int32)), (.ref b33)])) rfl rfl (hb hby at_75) _ ?_
      show Steps p.tables e below (T57.setTop (mkF m 76 #[.val (.int p0), .val (.ref b33), .val (.int (2 : Int32)), .val (.int (0 : Int32))] [(.ref w_UNKNOWN_OPERATION)])) _
      refine st72.trans ?_
      show Steps p.tables e below (T72.setTop (mkF m 79 #[.val (.int p0), .val (.ref b33), .val (.int (2 : Int32)), .val (.int (0 : Int32))] [(.int (0 : Int32))])) _
      refine XS.iloadN X72.here hx rfl (hb hby at_79) rfl ?_
      show Steps p.tables e below (T72.setTop (mkF m 80 #[.val (.int p0), .val (.ref b33), .val (.int (2 : Int32)), .val (.int (0 : Int32))] [(.int (0 : Int32)), (.int (0 : Int32))])) _
      refine XS.icmpNo X72.here hx rfl (hb hby at_80) rfl (teq (by decide : (0 : Int32) = (0 : Int32))).2 ?_
      show Steps p.tables e below (T72.setTop (mkF m 83 #[.val (.int p0), .val (.ref b33), .val (.int (2 : Int32)), .val (.int (0 : Int32))] [])) _
      refine XS.iconst X72.here hx rfl (hb hby at_83) ?_
      show Steps p.tables e below (T72.setTop (mkF m 84 #[.val (.int p0), .val (.ref b33), .val (.int (2 : Int32)), .val (.int (0 : Int32))] [(.int (1 : Int32))])) _
      refine XS.goto X72.here hx rfl (pc0 := 84) (pc' := 88) rfl (hb hby at_84) (by decide) (by decide) ?_
      show Steps p.tables e below (T72.setTop (mkF m 88 #[.val (.int p0), .val (.ref b33), .val (.int (2 : Int32)), .val (.int (0 : Int32))] [(.int (1 : Int32))])) _
      exact retN X72 hx (t := .boolean) Bd.returns (by simp) (hb hby at_88) hr
    · show own_Made (some (.int 1)) n0 _ T72.heap _
      rw [e72]
      exact ⟨rfl, N72, trivial⟩
  · -- (3 : Int32)
    obtain ⟨cl73, Ar73, q73, S73, N73_, H73_, G73⟩ := V57
    have hin73 : ¬ ((3 : Int32) < 0 ∨ cl73.slots.size ≤ ((3 : Int32)).toNatClampNeg) := inb_of S73 ⟨by decide, by decide⟩
    have hat73 : cl73.slots[((3 : Int32)).toNatClampNeg]? = some (.ref w_RESOURCE_NOT_FOUND) := Has.at H73_ hin73 rfl
    obtain ⟨cq74, kq74, q74a, q74b, q74c⟩ := isOf hZ e57 ((E_RESOURCE_NOT_FOUND.ext EX57))
    obtain ⟨_, _, ⟨T74, L74, k74, n74⟩, -, X74, ⟨Lc74, hQ74, l74, y74, z74⟩, st74⟩ := X57.virtualBack hx (y := (⟨"com/example/ovenbird/ovenbird/api/ErrorCode", "isServerFault", "()Z"⟩ : MethodName)) (z := (⟨"com/example/ovenbird/ovenbird/api/ErrorCode", "isServerFault", "()Z"⟩ : MethodName)) hown (mvT hZ (hw _ (List.mem_of_getElem? (i := 20) rfl))) (mvT hZ (hw _ (List.mem_of_getElem? (i := 21) rfl))) (notFace_of_selects (args := #[]) (mvT hZ (hw _ (List.mem_of_getElem? (i := 23) rfl)))) (mvT hZ (hw _ (List.mem_of_getElem? (i := 23) rfl))) (mvT hZ (hw _ (List.mem_of_getElem? (i := 22) rfl))) (by decide) (backOf (W := 0) (rm_sf l Z a0 hw [] w_RESOURCE_NOT_FOUND h57 n0 (Nat.le_trans Z0 EX57.1) w_VALIDATION w_SERIALIZATION w_UNKNOWN_OPERATION w_RESOURCE_NOT_FOUND w_RESOURCE_IN_USE w_CONDITIONAL_CHECK_FAILED w_TRANSACTION_CANCELED w_INTERNAL_SERVER_ERROR (hWd.ext EX57) (0 : Int32) (by simp [(F_RESOURCE_NOT_FOUND_ordinal.ne F_INTERNAL_SERVER_ERROR_ordinal (by decide))])) hZ (hw _ (List.mem_of_getElem? (i := 24) rfl)) (hw _ (List.mem_of_getElem? (i := 3) rfl)) (by decide) (by decide)) q74a q74c (g := (mkF m 76 #[.val (.int p0), .val (.ref b33), .val (.int (3 : Int32)), .val (.int (0 : Int32))] [(.ref w_RESOURCE_NOT_FOUND)])) rfl (by rw [hml]; rfl) (Steps.refl _) (argsL := []) (rest := []) (lenOf pd_8 rfl) rfl (by show 2 * 0 + _ ≤ _; exact Nat.le_of_eq rfl) (hb hby at_76) (fun _ _ => ⟨rfl, e57, (by decide : 1 + 0 ≤ _), (by decide : 8 + 0 ≤ _)⟩)
    dsimp only [Pt.U, Pt.locs, Pt.cells, Pt.slots] at X74 l74 y74 z74 st74 hQ74
    subst l74 y74 z74
    obtain ⟨rfl, N74q, e74⟩ := hQ74
    have N74 := Fr.app N57 N74q
    obtain ⟨fs, hr, hrun, hended, hW, hsame⟩ := X74.leave (v := some (.int (1 : Int32))) (fun h => by rw [Bd.returns] at h; cases h)
    refine ⟨_, _, ck58 _ ?_, hrun, hended, _, _, rfl, ?_, ⟨_, rfl⟩, hW, hsame.mono (by decide) (by decide)⟩
    · show Steps p.tables e below (T57.setTop (mkF m 60 #[.val (.int p0), .val (.ref b33), .unset, .unset] [(.int (p0 &&& (7 : Int32)))])) _
      rw [hv62]
      show Steps p.tables e below (T57.setTop (mkF m 60 #[.val (.int p0), .val (.ref b33), .unset, .unset] [(.int (3 : Int32))])) _
      refine XS.istoreN X57.here hx rfl (hb hby at_60) rfl (l' := #[.val (.int p0), .val (.ref b33), .val (.int (3 : Int32)), .unset]) rfl ?_
      show Steps p.tables e below (T57.setTop (mkF m 61 #[.val (.int p0), .val (.ref b33), .val (.int (3 : Int32)), .unset] [])) _
      refine XS.iloadN X57.here hx rfl (hb hby at_61) rfl ?_
      show Steps p.tables e below (T57.setTop (mkF m 62 #[.val (.int p0), .val (.ref b33), .val (.int (3 : Int32)), .unset] [(.int (3 : Int32))])) _
      refine XS.bipush X57.here hx rfl (hb hby at_62) ?_
      show Steps p.tables e below (T57.setTop (mkF m 64 #[.val (.int p0), .val (.ref b33), .val (.int (3 : Int32)), .unset] [(.int (7 : Int32)), (.int (3 : Int32))])) _
      refine XS.icmpYes X57.here hx rfl (pc0 := 64) (pc' := 71) rfl (hb hby at_64) rfl (feq (by decide : ¬ ((3 : Int32) = (7 : Int32)))).2 (by decide) (by decide) ?_
      show Steps p.tables e below (T57.setTop (mkF m 71 #[.val (.int p0), .val (.ref b33), .val (.int (3 : Int32)), .unset] [])) _
      refine XS.iconst X57.here hx rfl (hb hby at_71) ?_
      show Steps p.tables e below (T57.setTop (mkF m 72 #[.val (.int p0), .val (.ref b33), .val (.int (3 : Int32)), .unset] [(.int (0 : Int32))])) _
      refine XS.istoreN X57.here hx rfl (hb hby at_72) rfl (l' := #[.val (.int p0), .val (.ref b33), .val (.int (3 : Int32)), .val (.int (0 : Int32))]) rfl ?_
      show Steps p.tables e below (T57.setTop (mkF m 73 #[.val (.int p0), .val (.ref b33), .val (.int (3 : Int32)), .val (.int (0 : Int32))] [])) _
      refine XS.aloadN X57.here hx rfl (hb hby at_73) rfl rfl ?_
      show Steps p.tables e below (T57.setTop (mkF m 74 #[.val (.int p0), .val (.ref b33), .val (.int (3 : Int32)), .val (.int (0 : Int32))] [(.ref b33)])) _
      refine XS.iloadN X57.here hx rfl (hb hby at_74) rfl ?_
      show Steps p.tables e below (T57.setTop (mkF m 75 #[.val (.int p0), .val (.ref b33), .val (.int (3 : Int32)), .val (.int (0 : Int32))] [(.int (3 : Int32)), (.ref b33)])) _
      refine X57.aaload hx (j := (3 : Int32)) (v := (.ref w_RESOURCE_NOT_FOUND)) (by rw [e57]; exact Ar73.1) (State.isArrayOf_alike hZ.alike Ar73.2.1) rfl Ar73.2.2 hin73 hat73 (g := (mkF m 75 #[.val (.int p0), .val (.ref b33), .val (.int (3 : Int32)), .val (.int (0 : Int32))] [(.int (3 : Int32)), (.ref b33)])) rfl rfl (hb hby at_75) _ ?_
      show Steps p.tables e below (T57.setTop (mkF m 76 #[.val (.int p0), .val (.ref b33), .val (.int (3 : Int32)), .val (.int (0 : Int32))] [(.ref w_RESOURCE_NOT_FOUND)])) _
      refine st74.trans ?_
      show Steps p.tables e below (T74.setTop (mkF m 79 #[.val (.int p0), .val (.ref b33), .val (.int (3 : Int32)), .val (.int (0 : Int32))] [(.int (0 : Int32))])) _
      refine XS.iloadN X74.here hx rfl (hb hby at_79) rfl ?_
      show Steps p.tables e below (T74.setTop (mkF m 80 #[.val (.int p0), .val (.ref b33), .val (.int (3 : Int32)), .val (.int (0 : Int32))] [(.int (0 : Int32)), (.int (0 : Int32))])) _
      refine XS.icmpNo X74.here hx rfl (hb hby at_80) rfl (teq (by decide : (0 : Int32) = (0 : Int32))).2 ?_
      show Steps p.tables e below (T74.setTop (mkF m 83 #[.val (.int p0), .val (.ref b33), .val (.int (3 : Int32)), .val (.int (0 : Int32))] [])) _
      refine XS.iconst X74.here hx rfl (hb hby at_83) ?_
      show Steps p.tables e below (T74.setTop (mkF m 84 #[.val (.int p0), .val (.ref b33), .val (.int (3 : Int32)), .val (.int (0 : Int32))] [(.int (1 : Int32))])) _
      refine XS.goto X74.here hx rfl (pc0 := 84) (pc' := 88) rfl (hb hby at_84) (by decide) (by decide) ?_
      show Steps p.tables e below (T74.setTop (mkF m 88 #[.val (.int p0), .val (.ref b33), .val (.int (3 : Int32)), .val (.int (0 : Int32))] [(.int (1 : Int32))])) _
      exact retN X74 hx (t := .boolean) Bd.returns (by simp) (hb hby at_88) hr
    · show own_Made (some (.int 1)) n0 _ T74.heap _
      rw [e74]
      exact ⟨rfl, N74, trivial⟩
  · -- (4 : Int32)
    obtain ⟨cl75, Ar75, q75, S75, N75_, H75_, G75⟩ := V57
    have hin75 : ¬ ((4 : Int32) < 0 ∨ cl75.slots.size ≤ ((4 : Int32)).toNatClampNeg) := inb_of S75 ⟨by decide, by decide⟩
    have hat75 : cl75.slots[((4 : Int32)).toNatClampNeg]? = some (.ref w_RESOURCE_IN_USE) := Has.at H75_ hin75 rfl
    obtain ⟨cq76, kq76, q76a, q76b, q76c⟩ := isOf hZ e57 ((E_RESOURCE_IN_USE.ext EX57))
    obtain ⟨_, _, ⟨T76, L76, k76, n76⟩, -, X76, ⟨Lc76, hQ76, l76, y76, z76⟩, st76⟩ := X57.virtualBack hx (y := (⟨"com/example/ovenbird/ovenbird/api/ErrorCode", "isServerFault", "()Z"⟩ : MethodName)) (z := (⟨"com/example/ovenbird/ovenbird/api/ErrorCode", "isServerFault", "()Z"⟩ : MethodName)) hown (mvT hZ (hw _ (List.mem_of_getElem? (i := 20) rfl))) (mvT hZ (hw _ (List.mem_of_getElem? (i := 21) rfl))) (notFace_of_selects (args := #[]) (mvT hZ (hw _ (List.mem_of_getElem? (i := 23) rfl)))) (mvT hZ (hw _ (List.mem_of_getElem? (i := 23) rfl))) (mvT hZ (hw _ (List.mem_of_getElem? (i := 22) rfl))) (by decide) (backOf (W := 0) (rm_sf l Z a0 hw [] w_RESOURCE_IN_USE h57 n0 (Nat.le_trans Z0 EX57.1) w_VALIDATION w_SERIALIZATION w_UNKNOWN_OPERATION w_RESOURCE_NOT_FOUND w_RESOURCE_IN_USE w_CONDITIONAL_CHECK_FAILED w_TRANSACTION_CANCELED w_INTERNAL_SERVER_ERROR (hWd.ext EX57) (0 : Int32) (by simp [(F_RESOURCE_IN_USE_ordinal.ne F_INTERNAL_SERVER_ERROR_ordinal (by decide))])) hZ (hw _ (List.mem_of_getElem? (i := 24) rfl)) (hw _ (List.mem_of_getElem? (i := 3) rfl)) (by decide) (by decide)) q76a q76c (g := (mkF m 76 #[.val (.int p0), .val (.ref b33), .val (.int (4 : Int32)), .val (.int (0 : Int32))] [(.ref w_RESOURCE_IN_USE)])) rfl (by rw [hml]; rfl) (Steps.refl _) (argsL := []) (rest := []) (lenOf pd_8 rfl) rfl (by show 2 * 0 + _ ≤ _; exact Nat.le_of_eq rfl) (hb hby at_76) (fun _ _ => ⟨rfl, e57, (by decide : 1 + 0 ≤ _), (by decide : 8 + 0 ≤ _)⟩)
    dsimp only [Pt.U, Pt.locs, Pt.cells, Pt.slots] at X76 l76 y76 z76 st76 hQ76
    subst l76 y76 z76
    obtain ⟨rfl, N76q, e76⟩ := hQ76
    have N76 := Fr.app N57 N76q
    obtain ⟨fs, hr, hrun, hended, hW, hsame⟩ := X76.leave (v := some (.int (1 : Int32))) (fun h => by rw [Bd.returns] at h; cases h)
    refine ⟨_, _, ck58 _ ?_, hrun, hended, _, _, rfl, ?_, ⟨_, rfl⟩, hW, hsame.mono (by decide) (by decide)⟩
    · show Steps p.tables e below (T57.setTop (mkF m 60 #[.val (.int p0), .val (.ref b33), .unset, .unset] [(.int (p0 &&& (7 : Int32)))])) _
      rw [hv63]
      show Steps p.tables e below (T57.setTop (mkF m 60 #[.val (.int p0), .val (.ref b33), .unset, .unset] [(.int (4 : Int32))])) _
      refine XS.istoreN X57.here hx rfl (hb hby at_60) rfl (l' := #[.val (.int p0), .val (.ref b33), .val (.int (4 : Int32)), .unset]) rfl ?_
      show Steps p.tables e below (T57.setTop (mkF m 61 #[.val (.int p0), .val (.ref b33), .val (.int (4 : Int32)), .unset] [])) _
      refine XS.iloadN X57.here hx rfl (hb hby at_61) rfl ?_
      show Steps p.tables e below (T57.setTop (mkF m 62 #[.val (.int p0), .val (.ref b33), .val (.int (4 : Int32)), .unset] [(.int (4 : Int32))])) _
      refine XS.bipush X57.here hx rfl (hb hby at_62) ?_
      show Steps p.tables e below (T57.setTop (mkF m 64 #[.val (.int p0), .val (.ref b33), .val (.int (4 : Int32)), .unset] [(.int (7 : Int32)), (.int (4 : Int32))])) _
      refine XS.icmpYes X57.here hx rfl (pc0 := 64) (pc' := 71) rfl (hb hby at_64) rfl (feq (by decide : ¬ ((4 : Int32) = (7 : Int32)))).2 (by decide) (by decide) ?_
      show Steps p.tables e below (T57.setTop (mkF m 71 #[.val (.int p0), .val (.ref b33), .val (.int (4 : Int32)), .unset] [])) _
      refine XS.iconst X57.here hx rfl (hb hby at_71) ?_
      show Steps p.tables e below (T57.setTop (mkF m 72 #[.val (.int p0), .val (.ref b33), .val (.int (4 : Int32)), .unset] [(.int (0 : Int32))])) _
      refine XS.istoreN X57.here hx rfl (hb hby at_72) rfl (l' := #[.val (.int p0), .val (.ref b33), .val (.int (4 : Int32)), .val (.int (0 : Int32))]) rfl ?_
      show Steps p.tables e below (T57.setTop (mkF m 73 #[.val (.int p0), .val (.ref b33), .val (.int (4 : Int32)), .val (.int (0 : Int32))] [])) _
      refine XS.aloadN X57.here hx rfl (hb hby at_73) rfl rfl ?_
      show Steps p.tables e below (T57.setTop (mkF m 74 #[.val (.int p0), .val (.ref b33), .val (.int (4 : Int32)), .val (.int (0 : Int32))] [(.ref b33)])) _
      refine XS.iloadN X57.here hx rfl (hb hby at_74) rfl ?_
      show Steps p.tables e below (T57.setTop (mkF m 75 #[.val (.int p0), .val (.ref b33), .val (.int (4 : Int32)), .val (.int (0 : Int32))] [(.int (4 : Int32)), (.ref b33)])) _
      refine X57.aaload hx (j := (4 : Int32)) (v := (.ref w_RESOURCE_IN_USE)) (by rw [e57]; exact Ar75.1) (State.isArrayOf_alike hZ.alike Ar75.2.1) rfl Ar75.2.2 hin75 hat75 (g := (mkF m 75 #[.val (.int p0), .val (.ref b33), .val (.int (4 : Int32)), .val (.int (0 : Int32))] [(.int (4 : Int32)), (.ref b33)])) rfl rfl (hb hby at_75) _ ?_
      show Steps p.tables e below (T57.setTop (mkF m 76 #[.val (.int p0), .val (.ref b33), .val (.int (4 : Int32)), .val (.int (0 : Int32))] [(.ref w_RESOURCE_IN_USE)])) _
      refine st76.trans ?_
      show Steps p.tables e below (T76.setTop (mkF m 79 #[.val (.int p0), .val (.ref b33), .val (.int (4 : Int32)), .val (.int (0 : Int32))] [(.int (0 : Int32))])) _
      refine XS.iloadN X76.here hx rfl (hb hby at_79) rfl ?_
      show Steps p.tables e below (T76.setTop (mkF m 80 #[.val (.int p0), .val (.ref b33), .val (.int (4 : Int32)), .val (.int (0 : Int32))] [(.int (0 : Int32)), (.int (0 : Int32))])) _
      refine XS.icmpNo X76.here hx rfl (hb hby at_80) rfl (teq (by decide : (0 : Int32) = (0 : Int32))).2 ?_
      show Steps p.tables e below (T76.setTop (mkF m 83 #[.val (.int p0), .val (.ref b33), .val (.int (4 : Int32)), .val (.int (0 : Int32))] [])) _
      refine XS.iconst X76.here hx rfl (hb hby at_83) ?_
      show Steps p.tables e below (T76.setTop (mkF m 84 #[.val (.int p0), .val (.ref b33), .val (.int (4 : Int32)), .val (.int (0 : Int32))] [(.int (1 : Int32))])) _
      refine XS.goto X76.here hx rfl (pc0 := 84) (pc' := 88) rfl (hb hby at_84) (by decide) (by decide) ?_
      show Steps p.tables e below (T76.setTop (mkF m 88 #[.val (.int p0), .val (.ref b33), .val (.int (4 : Int32)), .val (.int (0 : Int32))] [(.int (1 : Int32))])) _
      exact retN X76 hx (t := .boolean) Bd.returns (by simp) (hb hby at_88) hr
    · show own_Made (some (.int 1)) n0 _ T76.heap _
      rw [e76]
      exact ⟨rfl, N76, trivial⟩
  · -- (5 : Int32)
    obtain ⟨cl77, Ar77, q77, S77, N77_, H77_, G77⟩ := V57
    have hin77 : ¬ ((5 : Int32) < 0 ∨ cl77.slots.size ≤ ((5 : Int32)).toNatClampNeg) := inb_of S77 ⟨by decide, by decide⟩
    have hat77 : cl77.slots[((5 : Int32)).toNatClampNeg]? = some (.ref w_CONDITIONAL_CHECK_FAILED) := Has.at H77_ hin77 rfl
    obtain ⟨cq78, kq78, q78a, q78b, q78c⟩ := isOf hZ e57 ((E_CONDITIONAL_CHECK_FAILED.ext EX57))
    obtain ⟨_, _, ⟨T78, L78, k78, n78⟩, -, X78, ⟨Lc78, hQ78, l78, y78, z78⟩, st78⟩ := X57.virtualBack hx (y := (⟨"com/example/ovenbird/ovenbird/api/ErrorCode", "isServerFault", "()Z"⟩ : MethodName)) (z := (⟨"com/example/ovenbird/ovenbird/api/ErrorCode", "isServerFault", "()Z"⟩ : MethodName)) hown (mvT hZ (hw _ (List.mem_of_getElem? (i := 20) rfl))) (mvT hZ (hw _ (List.mem_of_getElem? (i := 21) rfl))) (notFace_of_selects (args := #[]) (mvT hZ (hw _ (List.mem_of_getElem? (i := 23) rfl)))) (mvT hZ (hw _ (List.mem_of_getElem? (i := 23) rfl))) (mvT hZ (hw _ (List.mem_of_getElem? (i := 22) rfl))) (by decide) (backOf (W := 0) (rm_sf l Z a0 hw [] w_CONDITIONAL_CHECK_FAILED h57 n0 (Nat.le_trans Z0 EX57.1) w_VALIDATION w_SERIALIZATION w_UNKNOWN_OPERATION w_RESOURCE_NOT_FOUND w_RESOURCE_IN_USE w_CONDITIONAL_CHECK_FAILED w_TRANSACTION_CANCELED w_INTERNAL_SERVER_ERROR (hWd.ext EX57) (0 : Int32) (by simp [(F_CONDITIONAL_CHECK_FAILED_ordinal.ne F_INTERNAL_SERVER_ERROR_ordinal (by decide))])) hZ (hw _ (List.mem_of_getElem? (i := 24) rfl)) (hw _ (List.mem_of_getElem? (i := 3) rfl)) (by decide) (by decide)) q78a q78c (g := (mkF m 76 #[.val (.int p0), .val (.ref b33), .val (.int (5 : Int32)), .val (.int (0 : Int32))] [(.ref w_CONDITIONAL_CHECK_FAILED)])) rfl (by rw [hml]; rfl) (Steps.refl _) (argsL := []) (rest := []) (lenOf pd_8 rfl) rfl (by show 2 * 0 + _ ≤ _; exact Nat.le_of_eq rfl) (hb hby at_76) (fun _ _ => ⟨rfl, e57, (by decide : 1 + 0 ≤ _), (by decide : 8 + 0 ≤ _)⟩)
    dsimp only [Pt.U, Pt.locs, Pt.cells, Pt.slots] at X78 l78 y78 z78 st78 hQ78
    subst l78 y78 z78
    obtain ⟨rfl, N78q, e78⟩ := hQ78
    have N78 := Fr.app N57 N78q
    obtain ⟨fs, hr, hrun, hended, hW, hsame⟩ := X78.leave (v := some (.int (1 : Int32))) (fun h => by rw [Bd.returns] at h; cases h)
    refine ⟨_, _, ck58 _ ?_, hrun, hended, _, _, rfl, ?_, ⟨_, rfl⟩, hW, hsame.mono (by decide) (by decide)⟩
    · show Steps p.tables e below (T57.setTop (mkF m 60 #[.val (.int p0), .val (.ref b33), .unset, .unset] [(.int (p0 &&& (7 : Int32)))])) _
      rw [hv64]
      show Steps p.tables e below (T57.setTop (mkF m 60 #[.val (.int p0), .val (.ref b33), .unset, .unset] [(.int (5 : Int32))])) _
      refine XS.istoreN X57.here hx rfl (hb hby at_60) rfl (l' := #[.val (.int p0), .val (.ref b33), .val (.int (5 : Int32)), .unset]) rfl ?_
      show Steps p.tables e below (T57.setTop (mkF m 61 #[.val (.int p0), .val (.ref b33), .val (.int (5 : Int32)), .unset] [])) _
      refine XS.iloadN X57.here hx rfl (hb hby at_61) rfl ?_
      show Steps p.tables e below (T57.setTop (mkF m 62 #[.val (.int p0), .val (.ref b33), .val (.int (5 : Int32)), .unset] [(.int (5 : Int32))])) _
      refine XS.bipush X57.here hx rfl (hb hby at_62) ?_
      show Steps p.tables e below (T57.setTop (mkF m 64 #[.val (.int p0), .val (.ref b33), .val (.int (5 : Int32)), .unset] [(.int (7 : Int32)), (.int (5 : Int32))])) _
      refine XS.icmpYes X57.here hx rfl (pc0 := 64) (pc' := 71) rfl (hb hby at_64) rfl (feq (by decide : ¬ ((5 : Int32) = (7 : Int32)))).2 (by decide) (by decide) ?_
      show Steps p.tables e below (T57.setTop (mkF m 71 #[.val (.int p0), .val (.ref b33), .val (.int (5 : Int32)), .unset] [])) _
      refine XS.iconst X57.here hx rfl (hb hby at_71) ?_
      show Steps p.tables e below (T57.setTop (mkF m 72 #[.val (.int p0), .val (.ref b33), .val (.int (5 : Int32)), .unset] [(.int (0 : Int32))])) _
      refine XS.istoreN X57.here hx rfl (hb hby at_72) rfl (l' := #[.val (.int p0), .val (.ref b33), .val (.int (5 : Int32)), .val (.int (0 : Int32))]) rfl ?_
      show Steps p.tables e below (T57.setTop (mkF m 73 #[.val (.int p0), .val (.ref b33), .val (.int (5 : Int32)), .val (.int (0 : Int32))] [])) _
      refine XS.aloadN X57.here hx rfl (hb hby at_73) rfl rfl ?_
      show Steps p.tables e below (T57.setTop (mkF m 74 #[.val (.int p0), .val (.ref b33), .val (.int (5 : Int32)), .val (.int (0 : Int32))] [(.ref b33)])) _
      refine XS.iloadN X57.here hx rfl (hb hby at_74) rfl ?_
      show Steps p.tables e below (T57.setTop (mkF m 75 #[.val (.int p0), .val (.ref b33), .val (.int (5 : Int32)), .val (.int (0 : Int32))] [(.int (5 : Int32)), (.ref b33)])) _
      refine X57.aaload hx (j := (5 : Int32)) (v := (.ref w_CONDITIONAL_CHECK_FAILED)) (by rw [e57]; exact Ar77.1) (State.isArrayOf_alike hZ.alike Ar77.2.1) rfl Ar77.2.2 hin77 hat77 (g := (mkF m 75 #[.val (.int p0), .val (.ref b33), .val (.int (5 : Int32)), .val (.int (0 : Int32))] [(.int (5 : Int32)), (.ref b33)])) rfl rfl (hb hby at_75) _ ?_
      show Steps p.tables e below (T57.setTop (mkF m 76 #[.val (.int p0), .val (.ref b33), .val (.int (5 : Int32)), .val (.int (0 : Int32))] [(.ref w_CONDITIONAL_CHECK_FAILED)])) _
      refine st78.trans ?_
      show Steps p.tables e below (T78.setTop (mkF m 79 #[.val (.int p0), .val (.ref b33), .val (.int (5 : Int32)), .val (.int (0 : Int32))] [(.int (0 : Int32))])) _
      refine XS.iloadN X78.here hx rfl (hb hby at_79) rfl ?_
      show Steps p.tables e below (T78.setTop (mkF m 80 #[.val (.int p0), .val (.ref b33), .val (.int (5 : Int32)), .val (.int (0 : Int32))] [(.int (0 : Int32)), (.int (0 : Int32))])) _
      refine XS.icmpNo X78.here hx rfl (hb hby at_80) rfl (teq (by decide : (0 : Int32) = (0 : Int32))).2 ?_
      show Steps p.tables e below (T78.setTop (mkF m 83 #[.val (.int p0), .val (.ref b33), .val (.int (5 : Int32)), .val (.int (0 : Int32))] [])) _
      refine XS.iconst X78.here hx rfl (hb hby at_83) ?_
      show Steps p.tables e below (T78.setTop (mkF m 84 #[.val (.int p0), .val (.ref b33), .val (.int (5 : Int32)), .val (.int (0 : Int32))] [(.int (1 : Int32))])) _
      refine XS.goto X78.here hx rfl (pc0 := 84) (pc' := 88) rfl (hb hby at_84) (by decide) (by decide) ?_
      show Steps p.tables e below (T78.setTop (mkF m 88 #[.val (.int p0), .val (.ref b33), .val (.int (5 : Int32)), .val (.int (0 : Int32))] [(.int (1 : Int32))])) _
      exact retN X78 hx (t := .boolean) Bd.returns (by simp) (hb hby at_88) hr
    · show own_Made (some (.int 1)) n0 _ T78.heap _
      rw [e78]
      exact ⟨rfl, N78, trivial⟩
  · -- (6 : Int32)
    obtain ⟨cl79, Ar79, q79, S79, N79_, H79_, G79⟩ := V57
    have hin79 : ¬ ((6 : Int32) < 0 ∨ cl79.slots.size ≤ ((6 : Int32)).toNatClampNeg) := inb_of S79 ⟨by decide, by decide⟩
    have hat79 : cl79.slots[((6 : Int32)).toNatClampNeg]? = some (.ref w_TRANSACTION_CANCELED) := Has.at H79_ hin79 rfl
    obtain ⟨cq80, kq80, q80a, q80b, q80c⟩ := isOf hZ e57 ((E_TRANSACTION_CANCELED.ext EX57))
    obtain ⟨_, _, ⟨T80, L80, k80, n80⟩, -, X80, ⟨Lc80, hQ80, l80, y80, z80⟩, st80⟩ := X57.virtualBack hx (y := (⟨"com/example/ovenbird/ovenbird/api/ErrorCode", "isServerFault", "()Z"⟩ : MethodName)) (z := (⟨"com/example/ovenbird/ovenbird/api/ErrorCode", "isServerFault", "()Z"⟩ : MethodName)) hown (mvT hZ (hw _ (List.mem_of_getElem? (i := 20) rfl))) (mvT hZ (hw _ (List.mem_of_getElem? (i := 21) rfl))) (notFace_of_selects (args := #[]) (mvT hZ (hw _ (List.mem_of_getElem? (i := 23) rfl)))) (mvT hZ (hw _ (List.mem_of_getElem? (i := 23) rfl))) (mvT hZ (hw _ (List.mem_of_getElem? (i := 22) rfl))) (by decide) (backOf (W := 0) (rm_sf l Z a0 hw [] w_TRANSACTION_CANCELED h57 n0 (Nat.le_trans Z0 EX57.1) w_VALIDATION w_SERIALIZATION w_UNKNOWN_OPERATION w_RESOURCE_NOT_FOUND w_RESOURCE_IN_USE w_CONDITIONAL_CHECK_FAILED w_TRANSACTION_CANCELED w_INTERNAL_SERVER_ERROR (hWd.ext EX57) (0 : Int32) (by simp [(F_TRANSACTION_CANCELED_ordinal.ne F_INTERNAL_SERVER_ERROR_ordinal (by decide))])) hZ (hw _ (List.mem_of_getElem? (i := 24) rfl)) (hw _ (List.mem_of_getElem? (i := 3) rfl)) (by decide) (by decide)) q80a q80c (g := (mkF m 76 #[.val (.int p0), .val (.ref b33), .val (.int (6 : Int32)), .val (.int (0 : Int32))] [(.ref w_TRANSACTION_CANCELED)])) rfl (by rw [hml]; rfl) (Steps.refl _) (argsL := []) (rest := []) (lenOf pd_8 rfl) rfl (by show 2 * 0 + _ ≤ _; exact Nat.le_of_eq rfl) (hb hby at_76) (fun _ _ => ⟨rfl, e57, (by decide : 1 + 0 ≤ _), (by decide : 8 + 0 ≤ _)⟩)
    dsimp only [Pt.U, Pt.locs, Pt.cells, Pt.slots] at X80 l80 y80 z80 st80 hQ80
    subst l80 y80 z80
    obtain ⟨rfl, N80q, e80⟩ := hQ80
    have N80 := Fr.app N57 N80q
    obtain ⟨fs, hr, hrun, hended, hW, hsame⟩ := X80.leave (v := some (.int (1 : Int32))) (fun h => by rw [Bd.returns] at h; cases h)
    refine ⟨_, _, ck58 _ ?_, hrun, hended, _, _, rfl, ?_, ⟨_, rfl⟩, hW, hsame.mono (by decide) (by decide)⟩
    · show Steps p.tables e below (T57.setTop (mkF m 60 #[.val (.int p0), .val (.ref b33), .unset, .unset] [(.int (p0 &&& (7 : Int32)))])) _
      rw [hv65]
      show Steps p.tables e below (T57.setTop (mkF m 60 #[.val (.int p0), .val (.ref b33), .unset, .unset] [(.int (6 : Int32))])) _
      refine XS.istoreN X57.here hx rfl (hb hby at_60) rfl (l' := #[.val (.int p0), .val (.ref b33), .val (.int (6 : Int32)), .unset]) rfl ?_
      show Steps p.tables e below (T57.setTop (mkF m 61 #[.val (.int p0), .val (.ref b33), .val (.int (6 : Int32)), .unset] [])) _
      refine XS.iloadN X57.here hx rfl (hb hby at_61) rfl ?_
      show Steps p.tables e below (T57.setTop (mkF m 62 #[.val (.int p0), .val (.ref b33), .val (.int (6 : Int32)), .unset] [(.int (6 : Int32))])) _
      refine XS.bipush X57.here hx rfl (hb hby at_62) ?_
      show Steps p.tables e below (T57.setTop (mkF m 64 #[.val (.int p0), .val (.ref b33), .val (.int (6 : Int32)), .unset] [(.int (7 : Int32)), (.int (6 : Int32))])) _
      refine XS.icmpYes X57.here hx rfl (pc0 := 64) (pc' := 71) rfl (hb hby at_64) rfl (feq (by decide : ¬ ((6 : Int32) = (7 : Int32)))).2 (by decide) (by decide) ?_
      show Steps p.tables e below (T57.setTop (mkF m 71 #[.val (.int p0), .val (.ref b33), .val (.int (6 : Int32)), .unset] [])) _
      refine XS.iconst X57.here hx rfl (hb hby at_71) ?_
      show Steps p.tables e below (T57.setTop (mkF m 72 #[.val (.int p0), .val (.ref b33), .val (.int (6 : Int32)), .unset] [(.int (0 : Int32))])) _
      refine XS.istoreN X57.here hx rfl (hb hby at_72) rfl (l' := #[.val (.int p0), .val (.ref b33), .val (.int (6 : Int32)), .val (.int (0 : Int32))]) rfl ?_
      show Steps p.tables e below (T57.setTop (mkF m 73 #[.val (.int p0), .val (.ref b33), .val (.int (6 : Int32)), .val (.int (0 : Int32))] [])) _
      refine XS.aloadN X57.here hx rfl (hb hby at_73) rfl rfl ?_
      show Steps p.tables e below (T57.setTop (mkF m 74 #[.val (.int p0), .val (.ref b33), .val (.int (6 : Int32)), .val (.int (0 : Int32))] [(.ref b33)])) _
      refine XS.iloadN X57.here hx rfl (hb hby at_74) rfl ?_
      show Steps p.tables e below (T57.setTop (mkF m 75 #[.val (.int p0), .val (.ref b33), .val (.int (6 : Int32)), .val (.int (0 : Int32))] [(.int (6 : Int32)), (.ref b33)])) _
      refine X57.aaload hx (j := (6 : Int32)) (v := (.ref w_TRANSACTION_CANCELED)) (by rw [e57]; exact Ar79.1) (State.isArrayOf_alike hZ.alike Ar79.2.1) rfl Ar79.2.2 hin79 hat79 (g := (mkF m 75 #[.val (.int p0), .val (.ref b33), .val (.int (6 : Int32)), .val (.int (0 : Int32))] [(.int (6 : Int32)), (.ref b33)])) rfl rfl (hb hby at_75) _ ?_
      show Steps p.tables e below (T57.setTop (mkF m 76 #[.val (.int p0), .val (.ref b33), .val (.int (6 : Int32)), .val (.int (0 : Int32))] [(.ref w_TRANSACTION_CANCELED)])) _
      refine st80.trans ?_
      show Steps p.tables e below (T80.setTop (mkF m 79 #[.val (.int p0), .val (.ref b33), .val (.int (6 : Int32)), .val (.int (0 : Int32))] [(.int (0 : Int32))])) _
      refine XS.iloadN X80.here hx rfl (hb hby at_79) rfl ?_
      show Steps p.tables e below (T80.setTop (mkF m 80 #[.val (.int p0), .val (.ref b33), .val (.int (6 : Int32)), .val (.int (0 : Int32))] [(.int (0 : Int32)), (.int (0 : Int32))])) _
      refine XS.icmpNo X80.here hx rfl (hb hby at_80) rfl (teq (by decide : (0 : Int32) = (0 : Int32))).2 ?_
      show Steps p.tables e below (T80.setTop (mkF m 83 #[.val (.int p0), .val (.ref b33), .val (.int (6 : Int32)), .val (.int (0 : Int32))] [])) _
      refine XS.iconst X80.here hx rfl (hb hby at_83) ?_
      show Steps p.tables e below (T80.setTop (mkF m 84 #[.val (.int p0), .val (.ref b33), .val (.int (6 : Int32)), .val (.int (0 : Int32))] [(.int (1 : Int32))])) _
      refine XS.goto X80.here hx rfl (pc0 := 84) (pc' := 88) rfl (hb hby at_84) (by decide) (by decide) ?_
      show Steps p.tables e below (T80.setTop (mkF m 88 #[.val (.int p0), .val (.ref b33), .val (.int (6 : Int32)), .val (.int (0 : Int32))] [(.int (1 : Int32))])) _
      exact retN X80 hx (t := .boolean) Bd.returns (by simp) (hb hby at_88) hr
    · show own_Made (some (.int 1)) n0 _ T80.heap _
      rw [e80]
      exact ⟨rfl, N80, trivial⟩
  · -- (7 : Int32)
    obtain ⟨cl81, Ar81, q81, S81, N81_, H81_, G81⟩ := V57
    have hin81 : ¬ ((7 : Int32) < 0 ∨ cl81.slots.size ≤ ((7 : Int32)).toNatClampNeg) := inb_of S81 ⟨by decide, by decide⟩
    have hat81 : cl81.slots[((7 : Int32)).toNatClampNeg]? = some (.ref w_INTERNAL_SERVER_ERROR) := Has.at H81_ hin81 rfl
    obtain ⟨cq82, kq82, q82a, q82b, q82c⟩ := isOf hZ e57 ((E_INTERNAL_SERVER_ERROR.ext EX57))
    obtain ⟨_, _, ⟨T82, L82, k82, n82⟩, -, X82, ⟨Lc82, hQ82, l82, y82, z82⟩, st82⟩ := X57.virtualBack hx (y := (⟨"com/example/ovenbird/ovenbird/api/ErrorCode", "isServerFault", "()Z"⟩ : MethodName)) (z := (⟨"com/example/ovenbird/ovenbird/api/ErrorCode", "isServerFault", "()Z"⟩ : MethodName)) hown (mvT hZ (hw _ (List.mem_of_getElem? (i := 20) rfl))) (mvT hZ (hw _ (List.mem_of_getElem? (i := 21) rfl))) (notFace_of_selects (args := #[]) (mvT hZ (hw _ (List.mem_of_getElem? (i := 23) rfl)))) (mvT hZ (hw _ (List.mem_of_getElem? (i := 23) rfl))) (mvT hZ (hw _ (List.mem_of_getElem? (i := 22) rfl))) (by decide) (backOf (W := 0) (rm_sf l Z a0 hw [] w_INTERNAL_SERVER_ERROR h57 n0 (Nat.le_trans Z0 EX57.1) w_VALIDATION w_SERIALIZATION w_UNKNOWN_OPERATION w_RESOURCE_NOT_FOUND w_RESOURCE_IN_USE w_CONDITIONAL_CHECK_FAILED w_TRANSACTION_CANCELED w_INTERNAL_SERVER_ERROR (hWd.ext EX57) (1 : Int32) (by simp [])) hZ (hw _ (List.mem_of_getElem? (i := 24) rfl)) (hw _ (List.mem_of_getElem? (i := 3) rfl)) (by decide) (by decide)) q82a q82c (g := (mkF m 76 #[.val (.int p0), .val (.ref b33), .val (.int (7 : Int32)), .val (.int (1 : Int32))] [(.ref w_INTERNAL_SERVER_ERROR)])) rfl (by rw [hml]; rfl) (Steps.refl _) (argsL := []) (rest := []) (lenOf pd_8 rfl) rfl (by show 2 * 0 + _ ≤ _; exact Nat.le_of_eq rfl) (hb hby at_76) (fun _ _ => ⟨rfl, e57, (by decide : 1 + 0 ≤ _), (by decide : 8 + 0 ≤ _)⟩)
    dsimp only [Pt.U, Pt.locs, Pt.cells, Pt.slots] at X82 l82 y82 z82 st82 hQ82
    subst l82 y82 z82
    obtain ⟨rfl, N82q, e82⟩ := hQ82
    have N82 := Fr.app N57 N82q
    obtain ⟨fs, hr, hrun, hended, hW, hsame⟩ := X82.leave (v := some (.int (1 : Int32))) (fun h => by rw [Bd.returns] at h; cases h)
    refine ⟨_, _, ck58 _ ?_, hrun, hended, _, _, rfl, ?_, ⟨_, rfl⟩, hW, hsame.mono (by decide) (by decide)⟩
    · show Steps p.tables e below (T57.setTop (mkF m 60 #[.val (.int p0), .val (.ref b33), .unset, .unset] [(.int (p0 &&& (7 : Int32)))])) _
      rw [hv66]
      show Steps p.tables e below (T57.setTop (mkF m 60 #[.val (.int p0), .val (.ref b33), .unset, .unset] [(.int (7 : Int32))])) _
      refine XS.istoreN X57.here hx rfl (hb hby at_60) rfl (l' := #[.val (.int p0), .val (.ref b33), .val (.int (7 : Int32)), .unset]) rfl ?_
      show Steps p.tables e below (T57.setTop (mkF m 61 #[.val (.int p0), .val (.ref b33), .val (.int (7 : Int32)), .unset] [])) _
      refine XS.iloadN X57.here hx rfl (hb hby at_61) rfl ?_
      show Steps p.tables e below (T57.setTop (mkF m 62 #[.val (.int p0), .val (.ref b33), .val (.int (7 : Int32)), .unset] [(.int (7 : Int32))])) _
      refine XS.bipush X57.here hx rfl (hb hby at_62) ?_
      show Steps p.tables e below (T57.setTop (mkF m 64 #[.val (.int p0), .val (.ref b33), .val (.int (7 : Int32)), .unset] [(.int (7 : Int32)), (.int (7 : Int32))])) _
      refine XS.icmpNo X57.here hx rfl (hb hby at_64) rfl (teq (by decide : (7 : Int32) = (7 : Int32))).2 ?_
      show Steps p.tables e below (T57.setTop (mkF m 67 #[.val (.int p0), .val (.ref b33), .val (.int (7 : Int32)), .unset] [])) _
      refine XS.iconst X57.here hx rfl (hb hby at_67) ?_
      show Steps p.tables e below (T57.setTop (mkF m 68 #[.val (.int p0), .val (.ref b33), .val (.int (7 : Int32)), .unset] [(.int (1 : Int32))])) _
      refine XS.goto X57.here hx rfl (pc0 := 68) (pc' := 72) rfl (hb hby at_68) (by decide) (by decide) ?_
      show Steps p.tables e below (T57.setTop (mkF m 72 #[.val (.int p0), .val (.ref b33), .val (.int (7 : Int32)), .unset] [(.int (1 : Int32))])) _
      refine XS.istoreN X57.here hx rfl (hb hby at_72) rfl (l' := #[.val (.int p0), .val (.ref b33), .val (.int (7 : Int32)), .val (.int (1 : Int32))]) rfl ?_
      show Steps p.tables e below (T57.setTop (mkF m 73 #[.val (.int p0), .val (.ref b33), .val (.int (7 : Int32)), .val (.int (1 : Int32))] [])) _
      refine XS.aloadN X57.here hx rfl (hb hby at_73) rfl rfl ?_
      show Steps p.tables e below (T57.setTop (mkF m 74 #[.val (.int p0), .val (.ref b33), .val (.int (7 : Int32)), .val (.int (1 : Int32))] [(.ref b33)])) _
      refine XS.iloadN X57.here hx rfl (hb hby at_74) rfl ?_
      show Steps p.tables e below (T57.setTop (mkF m 75 #[.val (.int p0), .val (.ref b33), .val (.int (7 : Int32)), .val (.int (1 : Int32))] [(.int (7 : Int32)), (.ref b33)])) _
      refine X57.aaload hx (j := (7 : Int32)) (v := (.ref w_INTERNAL_SERVER_ERROR)) (by rw [e57]; exact Ar81.1) (State.isArrayOf_alike hZ.alike Ar81.2.1) rfl Ar81.2.2 hin81 hat81 (g := (mkF m 75 #[.val (.int p0), .val (.ref b33), .val (.int (7 : Int32)), .val (.int (1 : Int32))] [(.int (7 : Int32)), (.ref b33)])) rfl rfl (hb hby at_75) _ ?_
      show Steps p.tables e below (T57.setTop (mkF m 76 #[.val (.int p0), .val (.ref b33), .val (.int (7 : Int32)), .val (.int (1 : Int32))] [(.ref w_INTERNAL_SERVER_ERROR)])) _
      refine st82.trans ?_
      show Steps p.tables e below (T82.setTop (mkF m 79 #[.val (.int p0), .val (.ref b33), .val (.int (7 : Int32)), .val (.int (1 : Int32))] [(.int (1 : Int32))])) _
      refine XS.iloadN X82.here hx rfl (hb hby at_79) rfl ?_
      show Steps p.tables e below (T82.setTop (mkF m 80 #[.val (.int p0), .val (.ref b33), .val (.int (7 : Int32)), .val (.int (1 : Int32))] [(.int (1 : Int32)), (.int (1 : Int32))])) _
      refine XS.icmpNo X82.here hx rfl (hb hby at_80) rfl (teq (by decide : (1 : Int32) = (1 : Int32))).2 ?_
      show Steps p.tables e below (T82.setTop (mkF m 83 #[.val (.int p0), .val (.ref b33), .val (.int (7 : Int32)), .val (.int (1 : Int32))] [])) _
      refine XS.iconst X82.here hx rfl (hb hby at_83) ?_
      show Steps p.tables e below (T82.setTop (mkF m 84 #[.val (.int p0), .val (.ref b33), .val (.int (7 : Int32)), .val (.int (1 : Int32))] [(.int (1 : Int32))])) _
      refine XS.goto X82.here hx rfl (pc0 := 84) (pc' := 88) rfl (hb hby at_84) (by decide) (by decide) ?_
      show Steps p.tables e below (T82.setTop (mkF m 88 #[.val (.int p0), .val (.ref b33), .val (.int (7 : Int32)), .val (.int (1 : Int32))] [(.int (1 : Int32))])) _
      exact retN X82 hx (t := .boolean) Bd.returns (by simp) (hb hby at_88) hr
    · show own_Made (some (.int 1)) n0 _ T82.heap _
      rw [e82]
      exact ⟨rfl, N82, trivial⟩
set_option maxRecDepth 65536 in
set_option maxHeartbeats 40000000 in
theorem comes_1 {Post : Tables → Env → Array Value → State → Outcome → State → Prop} (hpost : ∀ tb e args s v u, (limb_1_1.after args s (.returned v) u = true ∧ limb_1_2.after args s (.returned v) u = true ∧ True) → FrameEnd s (.returned v) u (Jvm.fieldLocs frame_1_writes args s ++ Jvm.arrayLocs frame_1_arrays args s ++ Jvm.staticLocs frame_1_statics s) 16 128 → Post tb e args s (.returned v) u) :
    ArmFor flags0 classFile x code maxLocals ret World_1 tables_1 room_1 Calls_1 rest_1 Pre_1 Post := by
  intro l hfl _ _ p e ha hc hk s m args below hf hA hF happ hP
  obtain ⟨hcalls, hrest, hpre⟩ := hP
  obtain ⟨-, -, -, hnamed, -, -, -, hat⟩ := (Spec.applies_iff hf).mp happ
  obtain ⟨hg, hn⟩ := and_e (Cond.before_iff.mp (show (Jvm.Cond.and given_1 narrow_1).before args s = true from hpre))
  obtain ⟨gg0, hh0⟩ := and_e hg
  obtain ⟨w0, rfl⟩ : ∃ w0 : Value, args = #[w0] := by
    have hs : args.size = 1 := by simpa [Cond.value, given_1] using gg0
    obtain ⟨L⟩ := args
    match L, hs with
    | [w0], _ => exact ⟨w0, rfl⟩
  have hw := fun d (hd : d ∈ tables_1) => atoms_spec (ws := Jvm.Cond.code x code maxLocals ret :: tables_1) hat d (List.mem_cons_of_mem _ hd)
  have hfit : Fit s := fun {y c} hc i hi => by
    obtain ⟨ha, rfl⟩ := Array.getElem?_eq_some_iff.mp hc
    have q := List.all_eq_true.mp ((Array.all_eq_true_iff_forall_mem.mp hF) _ (Array.getElem_mem ha)) i (List.mem_range.mpr hi)
    simpa [Array.getElem?_eq_getElem hi] using q
  obtain ⟨i0, ei0⟩ := is_v hh0
  obtain rfl : w0 = (.int i0) := Option.some.inj ei0
  obtain ⟨g1, g2⟩ := and_e hn
  obtain ⟨g3, g4⟩ := and_e g2
  obtain ⟨g5, g6⟩ := and_e g4
  obtain ⟨g7, g8⟩ := and_e g6
  obtain ⟨g9, g10⟩ := and_e g8
  obtain ⟨g11, g12⟩ := and_e g10
  obtain ⟨g13, g14⟩ := and_e g12
  obtain ⟨g15, g16⟩ := and_e g14
  obtain ⟨g17, g18⟩ := and_e g16
  obtain ⟨g19, g20⟩ := and_e g18
  obtain ⟨g21, g22⟩ := and_e g20
  obtain ⟨g23, g24⟩ := and_e g22
  obtain ⟨g25, g26⟩ := and_e g24
  obtain ⟨g27, g28⟩ := and_e g26
  obtain ⟨g29, g30⟩ := and_e g28
  obtain ⟨w_VALIDATION, ev_VALIDATION⟩ := exa_v g1
  have E_VALIDATION := Exa.start ev_VALIDATION g1
  have S_VALIDATION := Sta.start ev_VALIDATION (Or.inr ⟨hw _ (List.mem_of_getElem? (i := 3) rfl), hw _ (List.mem_of_getElem? (i := 4) rfl)⟩)
  have F_VALIDATION_ordinal := own_fld_eq ev_VALIDATION g17
  obtain ⟨w_SERIALIZATION, ev_SERIALIZATION⟩ := exa_v g3
  have E_SERIALIZATION := Exa.start ev_SERIALIZATION g3
  have S_SERIALIZATION := Sta.start ev_SERIALIZATION (Or.inr ⟨hw _ (List.mem_of_getElem? (i := 3) rfl), hw _ (List.mem_of_getElem? (i := 7) rfl)⟩)
  have F_SERIALIZATION_ordinal := own_fld_eq ev_SERIALIZATION g27
  obtain ⟨w_UNKNOWN_OPERATION, ev_UNKNOWN_OPERATION⟩ := exa_v g5
  have E_UNKNOWN_OPERATION := Exa.start ev_UNKNOWN_OPERATION g5
  have S_UNKNOWN_OPERATION := Sta.start ev_UNKNOWN_OPERATION (Or.inr ⟨hw _ (List.mem_of_getElem? (i := 3) rfl), hw _ (List.mem_of_getElem? (i := 9) rfl)⟩)
  have F_UNKNOWN_OPERATION_ordinal := own_fld_eq ev_UNKNOWN_OPERATION g25
  obtain ⟨w_RESOURCE_NOT_FOUND, ev_RESOURCE_NOT_FOUND⟩ := exa_v g7
  have E_RESOURCE_NOT_FOUND := Exa.start ev_RESOURCE_NOT_FOUND g7
  have S_RESOURCE_NOT_FOUND := Sta.start ev_RESOURCE_NOT_FOUND (Or.inr ⟨hw _ (List.mem_of_getElem? (i := 3) rfl), hw _ (List.mem_of_getElem? (i := 11) rfl)⟩)
  have F_RESOURCE_NOT_FOUND_ordinal := own_fld_eq ev_RESOURCE_NOT_FOUND g21
  obtain ⟨w_RESOURCE_IN_USE, ev_RESOURCE_IN_USE⟩ := exa_v g9
  have E_RESOURCE_IN_USE := Exa.start ev_RESOURCE_IN_USE g9
  have S_RESOURCE_IN_USE := Sta.start ev_RESOURCE_IN_USE (Or.inr ⟨hw _ (List.mem_of_getElem? (i := 3) rfl), hw _ (List.mem_of_getElem? (i := 13) rfl)⟩)
  have F_RESOURCE_IN_USE_ordinal := own_fld_eq ev_RESOURCE_IN_USE g29
  obtain ⟨w_CONDITIONAL_CHECK_FAILED, ev_CONDITIONAL_CHECK_FAILED⟩ := exa_v g11
  have E_CONDITIONAL_CHECK_FAILED := Exa.start ev_CONDITIONAL_CHECK_FAILED g11
  have S_CONDITIONAL_CHECK_FAILED := Sta.start ev_CONDITIONAL_CHECK_FAILED (Or.inr ⟨hw _ (List.mem_of_getElem? (i := 3) rfl), hw _ (List.mem_of_getElem? (i := 15) rfl)⟩)
  have F_CONDITIONAL_CHECK_FAILED_ordinal := own_fld_eq ev_CONDITIONAL_CHECK_FAILED g30
  obtain ⟨w_TRANSACTION_CANCELED, ev_TRANSACTION_CANCELED⟩ := exa_v g13
  have E_TRANSACTION_CANCELED := Exa.start ev_TRANSACTION_CANCELED g13
  have S_TRANSACTION_CANCELED := Sta.start ev_TRANSACTION_CANCELED (Or.inr ⟨hw _ (List.mem_of_getElem? (i := 3) rfl), hw _ (List.mem_of_getElem? (i := 17) rfl)⟩)
  have F_TRANSACTION_CANCELED_ordinal := own_fld_eq ev_TRANSACTION_CANCELED g23
  obtain ⟨w_INTERNAL_SERVER_ERROR, ev_INTERNAL_SERVER_ERROR⟩ := exa_v g15
  have E_INTERNAL_SERVER_ERROR := Exa.start ev_INTERNAL_SERVER_ERROR g15
  have S_INTERNAL_SERVER_ERROR := Sta.start ev_INTERNAL_SERVER_ERROR (Or.inr ⟨hw _ (List.mem_of_getElem? (i := 3) rfl), hw _ (List.mem_of_getElem? (i := 19) rfl)⟩)
  have F_INTERNAL_SERVER_ERROR_ordinal := own_fld_eq ev_INTERNAL_SERVER_ERROR g19
  have hW0 : own_W s s.heap w_VALIDATION w_SERIALIZATION w_UNKNOWN_OPERATION w_RESOURCE_NOT_FOUND w_RESOURCE_IN_USE w_CONDITIONAL_CHECK_FAILED w_TRANSACTION_CANCELED w_INTERNAL_SERVER_ERROR := ⟨S_VALIDATION, E_VALIDATION, F_VALIDATION_ordinal, S_SERIALIZATION, E_SERIALIZATION, F_SERIALIZATION_ordinal, S_UNKNOWN_OPERATION, E_UNKNOWN_OPERATION, F_UNKNOWN_OPERATION_ordinal, S_RESOURCE_NOT_FOUND, E_RESOURCE_NOT_FOUND, F_RESOURCE_NOT_FOUND_ordinal, S_RESOURCE_IN_USE, E_RESOURCE_IN_USE, F_RESOURCE_IN_USE_ordinal, S_CONDITIONAL_CHECK_FAILED, E_CONDITIONAL_CHECK_FAILED, F_CONDITIONAL_CHECK_FAILED_ordinal, S_TRANSACTION_CANCELED, E_TRANSACTION_CANCELED, F_TRANSACTION_CANCELED_ordinal, S_INTERNAL_SERVER_ERROR, E_INTERNAL_SERVER_ERROR, F_INTERNAL_SERVER_ERROR_ordinal⟩
  obtain ⟨n, o, h1, h2, h3, _, L, rfl, hQ0, hq⟩ := rm_law l s _ hw tables_1 i0 s.heap s.heap.size (Nat.le_refl _) w_VALIDATION w_SERIALIZATION w_UNKNOWN_OPERATION w_RESOURCE_NOT_FOUND w_RESOURCE_IN_USE w_CONDITIONAL_CHECK_FAILED w_TRANSACTION_CANCELED w_INTERNAL_SERVER_ERROR hW0 p e ha hc hk s m _ below hf ((Spec.applies_iff_loose hf).mp happ).1 ⟨rfl, State.Warmed39.refl s, rfl⟩ trivial
  have N := hQ0.2.1
  obtain rfl := hQ0.1
  refine ⟨n, _, h1, h2, h3, hpost _ _ _ _ _ _ ⟨Cond.after_iff.mpr rfl, Cond.after_iff.mpr (eq_i res_at (Term.int_eval (1)) rfl), trivial⟩ ⟨hq.1, hq.2.1, (hq.2.2.sift fun y hy => Or.inr (N y hy)).mono (by decide) (by decide)⟩⟩
theorem main_1_1 : Claimed_1_1 := comes_1 fun _ _ _ _ _ _ h hF => ⟨h.1, hF⟩
theorem main_1_2 : Claimed_1_2 := comes_1 fun _ _ _ _ _ _ h hF => ⟨h.2.1, hF⟩
end Jvm.Pilot.@@N@@
namespace Jvm.Pilot.@@N@@
open Jvm Jvm.ClassFile Sem Op Lib Jvm.Free Jvm.Stand Jvm.Pilot.@@N@@.Jvm.D
/-! MADE BY PROGRAM (witnessworld.py) out of the Statement's table words and the real class files: 13 classes; the members and pool entries that the words name. The judged class is class 1, her method 1. -/
namespace start1
open Jvm.ClassFile
def u (s : String) : CpInfo := .utf8 (stringToUtf16 s)
/-- a pool by its gaps: so many unusable entries, then the entry; so many at the end -/
def gap : Nat → List CpInfo → List CpInfo
  | 0, r => r
  | n + 1, r => .unusable :: gap n r
def poolList (es : List (Nat × CpInfo)) (last : Nat) : List CpInfo := es.foldr (fun e r => gap e.1 (e.2 :: r)) (gap last [])
def pool (es : List (Nat × CpInfo)) (last : Nat) : Array CpInfo := ⟨poolList es last⟩
def fileOf (pool : Array CpInfo) (this : Nat) (attrs : Array Attribute := #[]) (ms : Array MethodInfo := #[]) (fl : Nat := 33) (sup : Nat := 0) (ifs : Array Nat := #[]) (fds : Array FieldInfo := #[]) : ClassFile where
  minorVersion := 0
  majorVersion := 65
  constantPool := pool
  accessFlags := fl
  thisClass := this
  superClass := sup
  interfaces := ifs
  fields := fds
  methods := ms
  attributes := attrs
def plain (name : String) (sup : Option ClassId) : Class where
  name := name
  kind := .ordinary
  loader := none
  accessFlags := 33
  super := sup
  interfaces := #[]
  cf := none
  fields := #[]
  methods := #[]
  instanceTypes := #[]
  staticTypes := #[]
  resolved := #[]
  callSites := []
  init := .initialized
  statics := none
  mirror := none

def pool0 : Array CpInfo := pool [(5, u "<init>"), (0, u "()V"), (1, .class_ 10), (1, u "java/lang/Object")] 113

def k0m0 : Method := { name := "<init>", desc := "()V", sig := { parameters := [], returnType := none }, accessFlags := 1, code := none }
/-- java/lang/Object -/
def k0 : Class := { plain "java/lang/Object" none with
  accessFlags := 33
  interfaces := #[]
  cf := some (fileOf pool0 8 #[] #[{ accessFlags := 1, nameIndex := 5, descriptorIndex := 6, attributes := #[] }] 33 0 #[] #[])
  fields := #[]
  methods := #[k0m0]
  instanceTypes := #[]
  staticTypes := #[]
  resolved := Array.replicate 124 none
  statics := none }

def pool1 : Array CpInfo := pool [(2, .class_ 4), (1, u "java/lang/Object"), (0, u "<init>"), (0, u "()V"), (0, .class_ 8), (0, u "com/example/ovenbird/ovenbird/api/ErrorCode"), (0, .fieldref 7 10), (0, .nameAndType 11 12), (0, u "VALIDATION"), (0, u "Lcom/example/ovenbird/ovenbird/api/ErrorCode;"), (0, .fieldref 7 14), (0, .nameAndType 15 12), (0, u "SERIALIZATION"), (0, .fieldref 7 17), (0, .nameAndType 18 12), (0, u "UNKNOWN_OPERATION"), (0, .fieldref 7 20), (0, .nameAndType 21 12), (0, u "RESOURCE_NOT_FOUND"), (0, .fieldref 7 23), (0, .nameAndType 24 12), (0, u "RESOURCE_IN_USE"), (0, .fieldref 7 26), (0, .nameAndType 27 12), (0, u "CONDITIONAL_CHECK_FAILED"), (0, .fieldref 7 29), (0, .nameAndType 30 12), (0, u "TRANSACTION_CANCELED"), (0, .fieldref 7 32), (0, .nameAndType 33 12), (0, u "INTERNAL_SERVER_ERROR"), (0, .methodref 7 35), (0, .nameAndType 36 37), (0, u "isServerFault"), (0, u "()Z"), (0, .class_ 39), (0, u "com/example/ovenbird/ovenbird/api/ErrorCodeIsServerFaultPinLaw"), (2, u "law"), (0, u "(I)Z")] 5

def k1m0 : Method := { name := "<init>", desc := "()V", sig := { parameters := [], returnType := none }, accessFlags := 2, code := none }
def k1c1 : Code := { maxStack := 4, maxLocals := 4, code := code, exceptionTable := #[], attributes := #[] }
def k1m1 : Method := { name := "law", desc := "(I)Z", sig := { parameters := [.int], returnType := some .boolean }, accessFlags := 9, code := some k1c1 }
/-- com/example/ovenbird/ovenbird/api/ErrorCodeIsServerFaultPinLaw -/
def k1 : Class := { plain "com/example/ovenbird/ovenbird/api/ErrorCodeIsServerFaultPinLaw" (some 0) with
  accessFlags := 49
  interfaces := #[]
  cf := some (fileOf pool1 38 #[] #[{ accessFlags := 2, nameIndex := 5, descriptorIndex := 6, attributes := #[] }, { accessFlags := 9, nameIndex := 42, descriptorIndex := 43, attributes := #[] }] 49 2 #[] #[])
  fields := #[]
  methods := #[k1m0, k1m1]
  instanceTypes := #[]
  staticTypes := #[]
  resolved := Array.replicate 49 none
  statics := none }

def pool2 : Array CpInfo := pool [(1, .class_ 2), (0, u "java/lang/constant/Constable"), (0, .class_ 4), (0, u "java/lang/Object")] 6

/-- java/lang/constant/Constable -/
def k2 : Class := { plain "java/lang/constant/Constable" (some 0) with
  accessFlags := 1537
  interfaces := #[]
  cf := some (fileOf pool2 1 #[] #[] 1537 3 #[] #[])
  fields := #[]
  methods := #[]
  instanceTypes := #[]
  staticTypes := #[]
  resolved := Array.replicate 11 none
  statics := none }

def pool3 : Array CpInfo := pool [(1, .class_ 2), (0, u "java/lang/Comparable"), (0, .class_ 4), (0, u "java/lang/Object")] 7

/-- java/lang/Comparable -/
def k3 : Class := { plain "java/lang/Comparable" (some 0) with
  accessFlags := 1537
  interfaces := #[]
  cf := some (fileOf pool3 1 #[] #[] 1537 3 #[] #[])
  fields := #[]
  methods := #[]
  instanceTypes := #[]
  staticTypes := #[]
  resolved := Array.replicate 12 none
  statics := none }

def pool4 : Array CpInfo := pool [(1, .class_ 2), (0, u "java/io/Serializable"), (0, .class_ 4), (0, u "java/lang/Object")] 2

/-- java/io/Serializable -/
def k4 : Class := { plain "java/io/Serializable" (some 0) with
  accessFlags := 1537
  interfaces := #[]
  cf := some (fileOf pool4 1 #[] #[] 1537 3 #[] #[])
  fields := #[]
  methods := #[]
  instanceTypes := #[]
  staticTypes := #[]
  resolved := Array.replicate 7 none
  statics := none }

def pool5 : Array CpInfo := pool [(2, .class_ 4), (1, u "java/lang/Enum"), (0, u "name"), (0, u "Ljava/lang/String;"), (2, u "ordinal"), (0, u "I"), (1, .class_ 14), (1, u "java/lang/Object"), (4, u "hash"), (86, .class_ 108), (1, u "java/lang/Enum$EnumDesc"), (2, .class_ 112), (0, u "java/lang/constant/Constable"), (0, .class_ 114), (0, u "java/lang/Comparable"), (0, .class_ 116), (0, u "java/io/Serializable")] 87

/-- java/lang/Enum -/
def k5 : Class := { plain "java/lang/Enum" (some 0) with
  accessFlags := 1057
  interfaces := #[2, 3, 4]
  cf := some (fileOf pool5 2 #[.nestMembers #[106]] #[] 1057 12 #[111, 113, 115] #[{ accessFlags := 18, nameIndex := 5, descriptorIndex := 6, attributes := #[] }, { accessFlags := 18, nameIndex := 9, descriptorIndex := 10, attributes := #[] }, { accessFlags := 2, nameIndex := 19, descriptorIndex := 10, attributes := #[] }])
  fields := #[{ name := "name", type := (.object "java/lang/String"), accessFlags := 18, slot := 0, constantValue := 0 }, { name := "ordinal", type := .int, accessFlags := 18, slot := 1, constantValue := 0 }, { name := "hash", type := .int, accessFlags := 2, slot := 2, constantValue := 0 }]
  methods := #[]
  instanceTypes := #[(.object "java/lang/String"), .int, .int]
  staticTypes := #[]
  resolved := Array.replicate 204 none
  statics := none }

def pool6 : Array CpInfo := pool [(1, .class_ 2), (0, u "com/example/ovenbird/ovenbird/api/ErrorCode"), (2, u "VALIDATION"), (0, u "Lcom/example/ovenbird/ovenbird/api/ErrorCode;"), (2, u "SERIALIZATION"), (2, u "UNKNOWN_OPERATION"), (2, u "RESOURCE_NOT_FOUND"), (2, u "RESOURCE_IN_USE"), (2, u "CONDITIONAL_CHECK_FAILED"), (2, u "TRANSACTION_CANCELED"), (0, .fieldref 1 26), (0, .nameAndType 27 6), (0, u "INTERNAL_SERVER_ERROR"), (2, u "$VALUES"), (0, u "[Lcom/example/ovenbird/ovenbird/api/ErrorCode;"), (6, .class_ 40), (1, u "java/lang/Enum"), (17, u "type"), (0, u "Ljava/lang/String;"), (2, u "errorName"), (2, u "messageMember"), (1, .class_ 68), (0, u "com/example/ovenbird/ovenbird/api/ErrorCode$Namespace"), (47, u "isServerFault"), (0, u "()Z")] 23

def k6c0 : Code := { maxStack := 2, maxLocals := 1, code := prog_1_method_8_code, exceptionTable := #[], attributes := #[] }
def k6m0 : Method := { name := "isServerFault", desc := "()Z", sig := { parameters := [], returnType := some .boolean }, accessFlags := 1, code := some k6c0 }
/-- com/example/ovenbird/ovenbird/api/ErrorCode -/
def k6 : Class := { plain "com/example/ovenbird/ovenbird/api/ErrorCode" (some 5) with
  accessFlags := 16433
  interfaces := #[]
  cf := some (fileOf pool6 1 #[.nestMembers #[67]] #[{ accessFlags := 1, nameIndex := 116, descriptorIndex := 117, attributes := #[] }] 16433 38 #[] #[{ accessFlags := 16409, nameIndex := 5, descriptorIndex := 6, attributes := #[] }, { accessFlags := 16409, nameIndex := 9, descriptorIndex := 6, attributes := #[] }, { accessFlags := 16409, nameIndex := 12, descriptorIndex := 6, attributes := #[] }, { accessFlags := 16409, nameIndex := 15, descriptorIndex := 6, attributes := #[] }, { accessFlags := 16409, nameIndex := 18, descriptorIndex := 6, attributes := #[] }, { accessFlags := 16409, nameIndex := 21, descriptorIndex := 6, attributes := #[] }, { accessFlags := 16409, nameIndex := 24, descriptorIndex := 6, attributes := #[] }, { accessFlags := 16409, nameIndex := 27, descriptorIndex := 6, attributes := #[] }, { accessFlags := 18, nameIndex := 58, descriptorIndex := 59, attributes := #[] }, { accessFlags := 18, nameIndex := 62, descriptorIndex := 59, attributes := #[] }, { accessFlags := 18, nameIndex := 65, descriptorIndex := 59, attributes := #[] }, { accessFlags := 4122, nameIndex := 30, descriptorIndex := 31, attributes := #[] }])
  fields := #[{ name := "VALIDATION", type := (.object "com/example/ovenbird/ovenbird/api/ErrorCode"), accessFlags := 16409, slot := 0, constantValue := 0 }, { name := "SERIALIZATION", type := (.object "com/example/ovenbird/ovenbird/api/ErrorCode"), accessFlags := 16409, slot := 1, constantValue := 0 }, { name := "UNKNOWN_OPERATION", type := (.object "com/example/ovenbird/ovenbird/api/ErrorCode"), accessFlags := 16409, slot := 2, constantValue := 0 }, { name := "RESOURCE_NOT_FOUND", type := (.object "com/example/ovenbird/ovenbird/api/ErrorCode"), accessFlags := 16409, slot := 3, constantValue := 0 }, { name := "RESOURCE_IN_USE", type := (.object "com/example/ovenbird/ovenbird/api/ErrorCode"), accessFlags := 16409, slot := 4, constantValue := 0 }, { name := "CONDITIONAL_CHECK_FAILED", type := (.object "com/example/ovenbird/ovenbird/api/ErrorCode"), accessFlags := 16409, slot := 5, constantValue := 0 }, { name := "TRANSACTION_CANCELED", type := (.object "com/example/ovenbird/ovenbird/api/ErrorCode"), accessFlags := 16409, slot := 6, constantValue := 0 }, { name := "INTERNAL_SERVER_ERROR", type := (.object "com/example/ovenbird/ovenbird/api/ErrorCode"), accessFlags := 16409, slot := 7, constantValue := 0 }, { name := "type", type := (.object "java/lang/String"), accessFlags := 18, slot := 3, constantValue := 0 }, { name := "errorName", type := (.object "java/lang/String"), accessFlags := 18, slot := 4, constantValue := 0 }, { name := "messageMember", type := (.object "java/lang/String"), accessFlags := 18, slot := 5, constantValue := 0 }, { name := "$VALUES", type := (.array (.object "com/example/ovenbird/ovenbird/api/ErrorCode")), accessFlags := 4122, slot := 8, constantValue := 0 }]
  methods := #[k6m0]
  instanceTypes := #[(.object "java/lang/String"), .int, .int, (.object "java/lang/String"), (.object "java/lang/String"), (.object "java/lang/String")]
  staticTypes := #[(.object "com/example/ovenbird/ovenbird/api/ErrorCode"), (.object "com/example/ovenbird/ovenbird/api/ErrorCode"), (.object "com/example/ovenbird/ovenbird/api/ErrorCode"), (.object "com/example/ovenbird/ovenbird/api/ErrorCode"), (.object "com/example/ovenbird/ovenbird/api/ErrorCode"), (.object "com/example/ovenbird/ovenbird/api/ErrorCode"), (.object "com/example/ovenbird/ovenbird/api/ErrorCode"), (.object "com/example/ovenbird/ovenbird/api/ErrorCode"), (.array (.object "com/example/ovenbird/ovenbird/api/ErrorCode"))]
  resolved := Array.replicate 141 none
  statics := some 0 }

def pool7 : Array CpInfo := pool [(1, u "java/lang/Cloneable"), (0, .class_ 1), (0, u "java/lang/Object"), (0, .class_ 3)] 3

/-- java/lang/Cloneable -/
def k7 : Class := { plain "java/lang/Cloneable" (some 0) with
  accessFlags := 1537
  interfaces := #[]
  cf := some (fileOf pool7 2 #[] #[] 1537 4 #[] #[])
  fields := #[]
  methods := #[]
  instanceTypes := #[]
  staticTypes := #[]
  resolved := Array.replicate 8 none
  statics := none }

/-- the primitive byte -/
def k8 : Class := { plain "byte" none with kind := .primitive 'B', accessFlags := 0x411 }
/-- [B -/
def k9 : Class := { plain "[B" (some 0) with kind := .array 8 .byte, interfaces := #[7, 4], accessFlags := 1041 }

/-- the primitive int -/
def k10 : Class := { plain "int" none with kind := .primitive 'I', accessFlags := 0x411 }
/-- [I -/
def k11 : Class := { plain "[I" (some 0) with kind := .array 10 .int, interfaces := #[7, 4], accessFlags := 1041 }

/-- [Lcom/example/ovenbird/ovenbird/api/ErrorCode; -/
def k12 : Class := { plain "[Lcom/example/ovenbird/ovenbird/api/ErrorCode;" (some 0) with kind := .array 6 (.object "com/example/ovenbird/ovenbird/api/ErrorCode"), interfaces := #[7, 4], accessFlags := 1041 }

def heap : Heap := #[{ cls := 6, slots := #[.ref 1, .ref 2, .ref 3, .ref 4, .ref 5, .ref 6, .ref 7, .ref 8, .null], vm := .statics 6 },
  { cls := 6, slots := #[.null, .int 0, .int 0, .null, .null, .null], vm := .none },
  { cls := 6, slots := #[.null, .int 1, .int 0, .null, .null, .null], vm := .none },
  { cls := 6, slots := #[.null, .int 2, .int 0, .null, .null, .null], vm := .none },
  { cls := 6, slots := #[.null, .int 3, .int 0, .null, .null, .null], vm := .none },
  { cls := 6, slots := #[.null, .int 4, .int 0, .null, .null, .null], vm := .none },
  { cls := 6, slots := #[.null, .int 5, .int 0, .null, .null, .null], vm := .none },
  { cls := 6, slots := #[.null, .int 6, .int 0, .null, .null, .null], vm := .none },
  { cls := 6, slots := #[.null, .int 7, .int 0, .null, .null, .null], vm := .none }]
def classes : Array Class := #[k0, k1, k2, k3, k4, k5, k6, k7, k8, k9, k10, k11, k12]
def interned : List (Array UInt16 × Addr) := []
def slotsUsed : Nat := 57
def theMethod : MethodId := ⟨1, 1⟩
def args0 : Array Value := #[.int 5]
def aboutOver (below : List Frame) : State where
  vm := { classes := classes, interned := interned.toArray }
  heap := heap
  slotsUsed := slotsUsed
  threads := #[{ frames := .invoking theMethod args0 :: below }]
def below0 : List Frame := [.native { method := ⟨0, 0⟩, args := #[] }]
def about1 : State := aboutOver below0
def p0 : Program := .bare "" "" ""
def e0 : Env := launch0.env 0 0 0
theorem w_frames : about1.frames = Frame.invoking theMethod args0 :: below0 := rfl
set_option maxRecDepth 65536 in
theorem w_args : argsFit about1.vm theMethod args0 = true := by decide +kernel
set_option maxRecDepth 65536 in
theorem w_heap : heapFits about1 = true := by decide +kernel
set_option maxRecDepth 65536 in
theorem w_runnable : about1.curStatus? = some .runnable := by decide +kernel
set_option maxRecDepth 65536 in
theorem w_alone : about1.alone = true := by decide +kernel
set_option maxRecDepth 65536 in
theorem w_named : about1.methodNamed? x = some theMethod := by decide +kernel
set_option maxRecDepth 65536 in
theorem w_hears : about1.hears theMethod below0 = true := by decide +kernel
set_option maxRecDepth 65536 in
theorem w_ripe : about1.ripe theMethod args0 below0 = true := by decide +kernel
theorem w_running : about1.status = .running := rfl
set_option maxRecDepth 65536 in
theorem w_room : about1.hasRoom e0.platform room_1 = true :=
  launch0.hasRoom_least _ room_1 (by decide +kernel) (by decide +kernel) (by decide +kernel) (by decide +kernel) (by decide +kernel) (by decide +kernel)
theorem allAtoms_all (ts : List Jvm.Cond) (a : Array Jvm.Value) (st : Jvm.State) : (allAtoms ts).before a st = ts.all (fun c => c.before a st) := by
  induction ts with
  | nil => rfl
  | cons c t ih =>
    show (Jvm.Cond.and c (allAtoms t)).before a st = _
    rw [Jvm.Cond.before_and, ih, List.all_cons]
def words1 : List Jvm.Cond := Jvm.Cond.code x code maxLocals ret :: tables_1
/-- a 'code' word, met by the world's own term for the bytes: nothing is compared byte by byte -/
theorem code_word {y : MethodName} {bytes : ByteArray} {mx : Nat} {rt : Option FieldType} {a : Array Value} {s : State} {m : MethodId} {meth : Method} {c : Code} (h1 : s.methodNamed? y = some m) (h2 : s.vm.method? m = some meth) (h3 : meth.code = some c) (h4 : c.code = bytes)
    (h5 : (c.maxLocals == mx && c.exceptionTable.isEmpty && decide (c.maxStack ≤ mostOperands) && decide (meth.sig.returnType = rt) && !meth.locks && decide (parseMethodDescriptor y.desc = some meth.sig)) = true) : (Jvm.Cond.code y bytes mx rt).before a s = true := by
  simp only [Bool.and_eq_true, beq_iff_eq, Bool.not_eq_true', decide_eq_true_eq] at h5
  obtain ⟨⟨⟨⟨⟨g1, g2⟩, g3⟩, g4⟩, g5⟩, g6⟩ := h5
  simp [Cond.before, Cond.holds, Cond.value, h1, h2, h3, h4, g1, g2, g3, g4, g5, g6]
def isCode : Jvm.Cond → Bool
  | .code _ _ _ _ => true
  | _ => false
theorem all_split {L : List Jvm.Cond} {P : Jvm.Cond → Bool} (h1 : L.all (fun c => isCode c || P c) = true) (h2 : ∀ c ∈ L.filter isCode, P c = true) : L.all P = true := by
  refine List.all_eq_true.mpr fun c hc => ?_
  have h := List.all_eq_true.mp h1 c hc
  rcases Bool.eq_false_or_eq_true (isCode c) with hi | hi
  · exact h2 c (List.mem_filter.mpr ⟨hc, hi⟩)
  · simpa [hi] using h
set_option maxRecDepth 65536 in
theorem w_c0 : (Jvm.Cond.code x code maxLocals ret).before args0 about1 = true := code_word (m := ⟨1, 1⟩) (meth := k1m1) (c := k1c1) (by decide +kernel) rfl rfl rfl (by decide +kernel)
set_option maxRecDepth 65536 in
theorem w_c1 : (Jvm.Cond.code ({ cls := "com/example/ovenbird/ovenbird/api/ErrorCode", name := "isServerFault", desc := "()Z" } : Jvm.MethodName) prog_1_method_8_code (1 : Nat) (Option.some Jvm.ClassFile.FieldType.boolean)).before args0 about1 = true := code_word (m := ⟨6, 0⟩) (meth := k6m0) (c := k6c0) (by decide +kernel) rfl rfl rfl (by decide +kernel)
def codes1 : List Jvm.Cond := [Jvm.Cond.code x code maxLocals ret, Jvm.Cond.code ({ cls := "com/example/ovenbird/ovenbird/api/ErrorCode", name := "isServerFault", desc := "()Z" } : Jvm.MethodName) prog_1_method_8_code (1 : Nat) (Option.some Jvm.ClassFile.FieldType.boolean)]
set_option maxRecDepth 65536 in
theorem codes_eq : words1.filter isCode = codes1 := rfl
theorem w_codes : ∀ c ∈ words1.filter isCode, c.before args0 about1 = true := by
  rw [codes_eq]
  intro c hc
  simp only [codes1, List.mem_cons, List.not_mem_nil, or_false] at hc
  rcases hc with rfl | rfl
  · exact w_c0
  · exact w_c1
set_option maxRecDepth 65536 in
theorem w_t1 : (words1.take 24).all (fun c => isCode c || c.before args0 about1) = true := by decide +kernel
set_option maxRecDepth 65536 in
theorem w_t2 : (words1.drop 24).all (fun c => isCode c || c.before args0 about1) = true := by decide +kernel
theorem w_tables : (allAtoms (Jvm.Cond.code x code maxLocals ret :: tables_1)).before args0 about1 = true := by
  rw [allAtoms_all]
  show words1.all (fun c => c.before args0 about1) = true
  refine all_split ?_ w_codes
  rw [← List.take_append_drop 24 words1, List.all_append, w_t1, w_t2]
  rfl
set_option maxRecDepth 65536 in
theorem w_case : (Jvm.Cond.and given_1 narrow_1).before args0 about1 = true := by decide +kernel
theorem w_applies : (headSpec (Jvm.Cond.code x code maxLocals ret :: tables_1) room_1).applies x e0.platform about1 = true :=
  (Spec.applies_iff w_frames).mpr ⟨w_running, w_runnable, w_alone, w_named, w_hears, w_ripe, w_room, w_tables⟩
theorem atStart : AtStart classFile x code maxLocals ret World_1 tables_1 room_1 Calls_1 rest_1 Pre_1 launch0 p0 e0 about1 theMethod args0 below0 :=
  ⟨lists_1, trivial, launch0.admits_env _ _ _, launch0.least_env, fairChoices_fair.cas, fairChoices_fair.clock, w_frames, w_args, w_heap, w_applies, trivial, trivial, w_case⟩
end start1
theorem witness_1 : WitnessClaimed_1 := ⟨start1.p0, start1.e0, start1.about1, start1.theMethod, start1.args0, start1.below0, start1.atStart⟩
end Jvm.Pilot.@@N@@
