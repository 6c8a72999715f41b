import JvmDerived
import JvmDerived.Pilot.@@N@@Statement
import JvmDerived.Pilot.@@N@@Code
set_option linter.unusedVariables false
set_option linter.unusedSimpArgs false

namespace Jvm.Pilot.@@N@@
open Jvm Jvm.ClassFile Sem Op Lib Jvm.Free Jvm.Stand Jvm.LawKit Jvm.RoadKit Bundle Jvm.Pilot.@@N@@.Jvm.D
/-- a body that writes nothing and returns r -/
def own_Pure (r : Option Value) (h0 : Heap) (n0 : Nat) (v : Option Value) (h : Heap) (L : List Loc) : Prop := v = r ∧ Fr n0 L ∧ h = h0
theorem own_ext_refl (h : Heap) : Ext h h := ⟨Nat.le_refl _, fun _ _ q => q⟩
theorem own_ext_trans {h0 h h' : Heap} (A : Ext h0 h) (B : Ext h h') : Ext h0 h' := ⟨Nat.le_trans A.1 B.1, fun a c q => B.2 a c (A.2 a c q)⟩
theorem own_ext_keep {h0 h h' : Heap} {ws : List Addr} (A : Ext h0 h) (K : Keep h h' ws) (q : ∀ x ∈ ws, h0.size ≤ x) : Ext h0 h' :=
  ⟨Nat.le_trans A.1 K.1, fun a c r => K.2.1 a c (A.2 a c r) fun z => Nat.lt_irrefl _ (Nat.lt_of_lt_of_le (Array.getElem?_eq_some_iff.mp r).1 (q a z))⟩
theorem own_ext_wr {h0 h h' : Heap} {a : Addr} {sl : Nat} {v : Value} (A : Ext h0 h) (W : Wr h h' a sl v) (q : h0.size ≤ a) : Ext h0 h' := own_ext_keep A (Keep.of_wr W) (allS q all0)
/-- a law that may make cells -/
def own_Made (r : Option Value) (n0 : Nat) (v : Option Value) (h : Heap) (L : List Loc) : Prop := v = r ∧ Fr n0 L ∧ True
theorem own_fld_eq {args : Array Value} {Z : State} {t : Term} {a : Addr} {C n d : String} {k : Int32} (ht : t.eval args Z none [] Z = some (.ref a))
    (h : (Cond.eq (.field t C n d) (.int k)).value args Z none Z [] = some true) : Fld Z Z.heap a C n d (.int k) := by
  apply Fld.start
  have e1 : (Term.field t C n d).eval args Z none [] Z = Z.fieldOf? a C n d := fld_at ht
  rw [← e1]
  have e2 : (Term.int k).eval args Z none [] Z = some (.int k) := Term.int_eval k
  simp only [Cond.value] at h
  cases hx : (Term.field t C n d).eval args Z none [] Z with
  | none => simp [hx] at h
  | some v => cases v <;> simp [hx, e2] at h ⊢; exact h
theorem own_fld_ref {args : Array Value} {Z : State} {t u : Term} {a b : Addr} {C n d : String} (ht : t.eval args Z none [] Z = some (.ref a)) (hu : u.eval args Z none [] Z = some (.ref b))
    (h : (Cond.eq (.field t C n d) u).value args Z none Z [] = some true) : Fld Z Z.heap a C n d (.ref b) := by
  apply Fld.start
  have e1 : (Term.field t C n d).eval args Z none [] Z = Z.fieldOf? a C n d := fld_at ht
  rw [← e1]
  simp only [Cond.value] at h
  cases hx : (Term.field t C n d).eval args Z none [] Z with
  | none => simp [hx] at h
  | some v => cases v <;> simp [hx, hu] at h ⊢; exact h
/-- what the case says of the pinned statics -/
def own_W (Z : State) (h : Heap) (w_BENEFICIARY_ID w_FLOOR_ID w_FLOOR_REQUEST_ID w_PRIORITY w_REQUEST_STATUS w_ERROR_CODE w_ERROR_INFO w_PARTICIPANT_PROVIDED_INFO w_STATUS_INFO w_SUPPORTED_ATTRIBUTES w_SUPPORTED_PRIMITIVES w_USER_DISPLAY_NAME w_USER_URI w_BENEFICIARY_INFORMATION w_FLOOR_REQUEST_INFORMATION w_REQUESTED_BY_INFORMATION w_FLOOR_REQUEST_STATUS w_OVERALL_REQUEST_STATUS w_SIXTEEN_BITS w_GROUPED w_OCTETS w_NON_EMPTY : Addr) : Prop :=
  Sta Z h "com/example/parley/parley/message/AttributeType" "BENEFICIARY_ID" "Lcom/example/parley/parley/message/AttributeType;" (.ref w_BENEFICIARY_ID) ∧
  Exa Z h w_BENEFICIARY_ID "com/example/parley/parley/message/AttributeType" ∧
  Fld Z h w_BENEFICIARY_ID "com/example/parley/parley/message/AttributeType" "shape" "Lcom/example/parley/parley/message/AttributeType$Shape;" (.ref w_SIXTEEN_BITS) ∧
  Sta Z h "com/example/parley/parley/message/AttributeType" "FLOOR_ID" "Lcom/example/parley/parley/message/AttributeType;" (.ref w_FLOOR_ID) ∧
  Exa Z h w_FLOOR_ID "com/example/parley/parley/message/AttributeType" ∧
  Fld Z h w_FLOOR_ID "com/example/parley/parley/message/AttributeType" "shape" "Lcom/example/parley/parley/message/AttributeType$Shape;" (.ref w_SIXTEEN_BITS) ∧
  Sta Z h "com/example/parley/parley/message/AttributeType" "FLOOR_REQUEST_ID" "Lcom/example/parley/parley/message/AttributeType;" (.ref w_FLOOR_REQUEST_ID) ∧
  Exa Z h w_FLOOR_REQUEST_ID "com/example/parley/parley/message/AttributeType" ∧
  Fld Z h w_FLOOR_REQUEST_ID "com/example/parley/parley/message/AttributeType" "shape" "Lcom/example/parley/parley/message/AttributeType$Shape;" (.ref w_SIXTEEN_BITS) ∧
  Sta Z h "com/example/parley/parley/message/AttributeType" "PRIORITY" "Lcom/example/parley/parley/message/AttributeType;" (.ref w_PRIORITY) ∧
  Exa Z h w_PRIORITY "com/example/parley/parley/message/AttributeType" ∧
  Fld Z h w_PRIORITY "com/example/parley/parley/message/AttributeType" "shape" "Lcom/example/parley/parley/message/AttributeType$Shape;" (.ref w_SIXTEEN_BITS) ∧
  Sta Z h "com/example/parley/parley/message/AttributeType" "REQUEST_STATUS" "Lcom/example/parley/parley/message/AttributeType;" (.ref w_REQUEST_STATUS) ∧
  Exa Z h w_REQUEST_STATUS "com/example/parley/parley/message/AttributeType" ∧
  Fld Z h w_REQUEST_STATUS "com/example/parley/parley/message/AttributeType" "shape" "Lcom/example/parley/parley/message/AttributeType$Shape;" (.ref w_SIXTEEN_BITS) ∧
  Sta Z h "com/example/parley/parley/message/AttributeType" "ERROR_CODE" "Lcom/example/parley/parley/message/AttributeType;" (.ref w_ERROR_CODE) ∧
  Exa Z h w_ERROR_CODE "com/example/parley/parley/message/AttributeType" ∧
  Fld Z h w_ERROR_CODE "com/example/parley/parley/message/AttributeType" "shape" "Lcom/example/parley/parley/message/AttributeType$Shape;" (.ref w_NON_EMPTY) ∧
  Sta Z h "com/example/parley/parley/message/AttributeType" "ERROR_INFO" "Lcom/example/parley/parley/message/AttributeType;" (.ref w_ERROR_INFO) ∧
  Exa Z h w_ERROR_INFO "com/example/parley/parley/message/AttributeType" ∧
  Fld Z h w_ERROR_INFO "com/example/parley/parley/message/AttributeType" "shape" "Lcom/example/parley/parley/message/AttributeType$Shape;" (.ref w_OCTETS) ∧
  Sta Z h "com/example/parley/parley/message/AttributeType" "PARTICIPANT_PROVIDED_INFO" "Lcom/example/parley/parley/message/AttributeType;" (.ref w_PARTICIPANT_PROVIDED_INFO) ∧
  Exa Z h w_PARTICIPANT_PROVIDED_INFO "com/example/parley/parley/message/AttributeType" ∧
  Fld Z h w_PARTICIPANT_PROVIDED_INFO "com/example/parley/parley/message/AttributeType" "shape" "Lcom/example/parley/parley/message/AttributeType$Shape;" (.ref w_OCTETS) ∧
  Sta Z h "com/example/parley/parley/message/AttributeType" "STATUS_INFO" "Lcom/example/parley/parley/message/AttributeType;" (.ref w_STATUS_INFO) ∧
  Exa Z h w_STATUS_INFO "com/example/parley/parley/message/AttributeType" ∧
  Fld Z h w_STATUS_INFO "com/example/parley/parley/message/AttributeType" "shape" "Lcom/example/parley/parley/message/AttributeType$Shape;" (.ref w_OCTETS) ∧
  Sta Z h "com/example/parley/parley/message/AttributeType" "SUPPORTED_ATTRIBUTES" "Lcom/example/parley/parley/message/AttributeType;" (.ref w_SUPPORTED_ATTRIBUTES) ∧
  Exa Z h w_SUPPORTED_ATTRIBUTES "com/example/parley/parley/message/AttributeType" ∧
  Fld Z h w_SUPPORTED_ATTRIBUTES "com/example/parley/parley/message/AttributeType" "shape" "Lcom/example/parley/parley/message/AttributeType$Shape;" (.ref w_OCTETS) ∧
  Sta Z h "com/example/parley/parley/message/AttributeType" "SUPPORTED_PRIMITIVES" "Lcom/example/parley/parley/message/AttributeType;" (.ref w_SUPPORTED_PRIMITIVES) ∧
  Exa Z h w_SUPPORTED_PRIMITIVES "com/example/parley/parley/message/AttributeType" ∧
  Fld Z h w_SUPPORTED_PRIMITIVES "com/example/parley/parley/message/AttributeType" "shape" "Lcom/example/parley/parley/message/AttributeType$Shape;" (.ref w_OCTETS) ∧
  Sta Z h "com/example/parley/parley/message/AttributeType" "USER_DISPLAY_NAME" "Lcom/example/parley/parley/message/AttributeType;" (.ref w_USER_DISPLAY_NAME) ∧
  Exa Z h w_USER_DISPLAY_NAME "com/example/parley/parley/message/AttributeType" ∧
  Fld Z h w_USER_DISPLAY_NAME "com/example/parley/parley/message/AttributeType" "shape" "Lcom/example/parley/parley/message/AttributeType$Shape;" (.ref w_OCTETS) ∧
  Sta Z h "com/example/parley/parley/message/AttributeType" "USER_URI" "Lcom/example/parley/parley/message/AttributeType;" (.ref w_USER_URI) ∧
  Exa Z h w_USER_URI "com/example/parley/parley/message/AttributeType" ∧
  Fld Z h w_USER_URI "com/example/parley/parley/message/AttributeType" "shape" "Lcom/example/parley/parley/message/AttributeType$Shape;" (.ref w_OCTETS) ∧
  Sta Z h "com/example/parley/parley/message/AttributeType" "BENEFICIARY_INFORMATION" "Lcom/example/parley/parley/message/AttributeType;" (.ref w_BENEFICIARY_INFORMATION) ∧
  Exa Z h w_BENEFICIARY_INFORMATION "com/example/parley/parley/message/AttributeType" ∧
  Fld Z h w_BENEFICIARY_INFORMATION "com/example/parley/parley/message/AttributeType" "shape" "Lcom/example/parley/parley/message/AttributeType$Shape;" (.ref w_GROUPED) ∧
  Sta Z h "com/example/parley/parley/message/AttributeType" "FLOOR_REQUEST_INFORMATION" "Lcom/example/parley/parley/message/AttributeType;" (.ref w_FLOOR_REQUEST_INFORMATION) ∧
  Exa Z h w_FLOOR_REQUEST_INFORMATION "com/example/parley/parley/message/AttributeType" ∧
  Fld Z h w_FLOOR_REQUEST_INFORMATION "com/example/parley/parley/message/AttributeType" "shape" "Lcom/example/parley/parley/message/AttributeType$Shape;" (.ref w_GROUPED) ∧
  Sta Z h "com/example/parley/parley/message/AttributeType" "REQUESTED_BY_INFORMATION" "Lcom/example/parley/parley/message/AttributeType;" (.ref w_REQUESTED_BY_INFORMATION) ∧
  Exa Z h w_REQUESTED_BY_INFORMATION "com/example/parley/parley/message/AttributeType" ∧
  Fld Z h w_REQUESTED_BY_INFORMATION "com/example/parley/parley/message/AttributeType" "shape" "Lcom/example/parley/parley/message/AttributeType$Shape;" (.ref w_GROUPED) ∧
  Sta Z h "com/example/parley/parley/message/AttributeType" "FLOOR_REQUEST_STATUS" "Lcom/example/parley/parley/message/AttributeType;" (.ref w_FLOOR_REQUEST_STATUS) ∧
  Exa Z h w_FLOOR_REQUEST_STATUS "com/example/parley/parley/message/AttributeType" ∧
  Fld Z h w_FLOOR_REQUEST_STATUS "com/example/parley/parley/message/AttributeType" "shape" "Lcom/example/parley/parley/message/AttributeType$Shape;" (.ref w_GROUPED) ∧
  Sta Z h "com/example/parley/parley/message/AttributeType" "OVERALL_REQUEST_STATUS" "Lcom/example/parley/parley/message/AttributeType;" (.ref w_OVERALL_REQUEST_STATUS) ∧
  Exa Z h w_OVERALL_REQUEST_STATUS "com/example/parley/parley/message/AttributeType" ∧
  Fld Z h w_OVERALL_REQUEST_STATUS "com/example/parley/parley/message/AttributeType" "shape" "Lcom/example/parley/parley/message/AttributeType$Shape;" (.ref w_GROUPED) ∧
  Sta Z h "com/example/parley/parley/message/AttributeType$Shape" "SIXTEEN_BITS" "Lcom/example/parley/parley/message/AttributeType$Shape;" (.ref w_SIXTEEN_BITS) ∧
  Exa Z h w_SIXTEEN_BITS "com/example/parley/parley/message/AttributeType$Shape" ∧
  Fld Z h w_SIXTEEN_BITS "java/lang/Enum" "ordinal" "I" (.int (0 : Int32)) ∧
  Sta Z h "com/example/parley/parley/message/AttributeType$Shape" "GROUPED" "Lcom/example/parley/parley/message/AttributeType$Shape;" (.ref w_GROUPED) ∧
  Exa Z h w_GROUPED "com/example/parley/parley/message/AttributeType$Shape" ∧
  Fld Z h w_GROUPED "java/lang/Enum" "ordinal" "I" (.int (3 : Int32)) ∧
  Sta Z h "com/example/parley/parley/message/AttributeType$Shape" "OCTETS" "Lcom/example/parley/parley/message/AttributeType$Shape;" (.ref w_OCTETS) ∧
  Exa Z h w_OCTETS "com/example/parley/parley/message/AttributeType$Shape" ∧
  Fld Z h w_OCTETS "java/lang/Enum" "ordinal" "I" (.int (2 : Int32)) ∧
  Sta Z h "com/example/parley/parley/message/AttributeType$Shape" "NON_EMPTY" "Lcom/example/parley/parley/message/AttributeType$Shape;" (.ref w_NON_EMPTY) ∧
  Exa Z h w_NON_EMPTY "com/example/parley/parley/message/AttributeType$Shape" ∧
  Fld Z h w_NON_EMPTY "java/lang/Enum" "ordinal" "I" (.int (1 : Int32))
theorem own_W.ext {Z : State} {h h' : Heap} {w_BENEFICIARY_ID w_FLOOR_ID w_FLOOR_REQUEST_ID w_PRIORITY w_REQUEST_STATUS w_ERROR_CODE w_ERROR_INFO w_PARTICIPANT_PROVIDED_INFO w_STATUS_INFO w_SUPPORTED_ATTRIBUTES w_SUPPORTED_PRIMITIVES w_USER_DISPLAY_NAME w_USER_URI w_BENEFICIARY_INFORMATION w_FLOOR_REQUEST_INFORMATION w_REQUESTED_BY_INFORMATION w_FLOOR_REQUEST_STATUS w_OVERALL_REQUEST_STATUS w_SIXTEEN_BITS w_GROUPED w_OCTETS w_NON_EMPTY : Addr} (E : Ext h h') (H : own_W Z h w_BENEFICIARY_ID w_FLOOR_ID w_FLOOR_REQUEST_ID w_PRIORITY w_REQUEST_STATUS w_ERROR_CODE w_ERROR_INFO w_PARTICIPANT_PROVIDED_INFO w_STATUS_INFO w_SUPPORTED_ATTRIBUTES w_SUPPORTED_PRIMITIVES w_USER_DISPLAY_NAME w_USER_URI w_BENEFICIARY_INFORMATION w_FLOOR_REQUEST_INFORMATION w_REQUESTED_BY_INFORMATION w_FLOOR_REQUEST_STATUS w_OVERALL_REQUEST_STATUS w_SIXTEEN_BITS w_GROUPED w_OCTETS w_NON_EMPTY) : own_W Z h' w_BENEFICIARY_ID w_FLOOR_ID w_FLOOR_REQUEST_ID w_PRIORITY w_REQUEST_STATUS w_ERROR_CODE w_ERROR_INFO w_PARTICIPANT_PROVIDED_INFO w_STATUS_INFO w_SUPPORTED_ATTRIBUTES w_SUPPORTED_PRIMITIVES w_USER_DISPLAY_NAME w_USER_URI w_BENEFICIARY_INFORMATION w_FLOOR_REQUEST_INFORMATION w_REQUESTED_BY_INFORMATION w_FLOOR_REQUEST_STATUS w_OVERALL_REQUEST_STATUS w_SIXTEEN_BITS w_GROUPED w_OCTETS w_NON_EMPTY := by
  obtain ⟨S_BENEFICIARY_ID, E_BENEFICIARY_ID, F_BENEFICIARY_ID_shape, S_FLOOR_ID, E_FLOOR_ID, F_FLOOR_ID_shape, S_FLOOR_REQUEST_ID, E_FLOOR_REQUEST_ID, F_FLOOR_REQUEST_ID_shape, S_PRIORITY, E_PRIORITY, F_PRIORITY_shape, S_REQUEST_STATUS, E_REQUEST_STATUS, F_REQUEST_STATUS_shape, S_ERROR_CODE, E_ERROR_CODE, F_ERROR_CODE_shape, S_ERROR_INFO, E_ERROR_INFO, F_ERROR_INFO_shape, S_PARTICIPANT_PROVIDED_INFO, E_PARTICIPANT_PROVIDED_INFO, F_PARTICIPANT_PROVIDED_INFO_shape, S_STATUS_INFO, E_STATUS_INFO, F_STATUS_INFO_shape, S_SUPPORTED_ATTRIBUTES, E_SUPPORTED_ATTRIBUTES, F_SUPPORTED_ATTRIBUTES_shape, S_SUPPORTED_PRIMITIVES, E_SUPPORTED_PRIMITIVES, F_SUPPORTED_PRIMITIVES_shape, S_USER_DISPLAY_NAME, E_USER_DISPLAY_NAME, F_USER_DISPLAY_NAME_shape, S_USER_URI, E_USER_URI, F_USER_URI_shape, S_BENEFICIARY_INFORMATION, E_BENEFICIARY_INFORMATION, F_BENEFICIARY_INFORMATION_shape, S_FLOOR_REQUEST_INFORMATION, E_FLOOR_REQUEST_INFORMATION, F_FLOOR_REQUEST_INFORMATION_shape, S_REQUESTED_BY_INFORMATION, E_REQUESTED_BY_INFORMATION, F_REQUESTED_BY_INFORMATION_shape, S_FLOOR_REQUEST_STATUS, E_FLOOR_REQUEST_STATUS, F_FLOOR_REQUEST_STATUS_shape, S_OVERALL_REQUEST_STATUS, E_OVERALL_REQUEST_STATUS, F_OVERALL_REQUEST_STATUS_shape, S_SIXTEEN_BITS, E_SIXTEEN_BITS, F_SIXTEEN_BITS_ordinal, S_GROUPED, E_GROUPED, F_GROUPED_ordinal, S_OCTETS, E_OCTETS, F_OCTETS_ordinal, S_NON_EMPTY, E_NON_EMPTY, F_NON_EMPTY_ordinal⟩ := H
  exact ⟨S_BENEFICIARY_ID.ext E, E_BENEFICIARY_ID.ext E, F_BENEFICIARY_ID_shape.ext E, S_FLOOR_ID.ext E, E_FLOOR_ID.ext E, F_FLOOR_ID_shape.ext E, S_FLOOR_REQUEST_ID.ext E, E_FLOOR_REQUEST_ID.ext E, F_FLOOR_REQUEST_ID_shape.ext E, S_PRIORITY.ext E, E_PRIORITY.ext E, F_PRIORITY_shape.ext E, S_REQUEST_STATUS.ext E, E_REQUEST_STATUS.ext E, F_REQUEST_STATUS_shape.ext E, S_ERROR_CODE.ext E, E_ERROR_CODE.ext E, F_ERROR_CODE_shape.ext E, S_ERROR_INFO.ext E, E_ERROR_INFO.ext E, F_ERROR_INFO_shape.ext E, S_PARTICIPANT_PROVIDED_INFO.ext E, E_PARTICIPANT_PROVIDED_INFO.ext E, F_PARTICIPANT_PROVIDED_INFO_shape.ext E, S_STATUS_INFO.ext E, E_STATUS_INFO.ext E, F_STATUS_INFO_shape.ext E, S_SUPPORTED_ATTRIBUTES.ext E, E_SUPPORTED_ATTRIBUTES.ext E, F_SUPPORTED_ATTRIBUTES_shape.ext E, S_SUPPORTED_PRIMITIVES.ext E, E_SUPPORTED_PRIMITIVES.ext E, F_SUPPORTED_PRIMITIVES_shape.ext E, S_USER_DISPLAY_NAME.ext E, E_USER_DISPLAY_NAME.ext E, F_USER_DISPLAY_NAME_shape.ext E, S_USER_URI.ext E, E_USER_URI.ext E, F_USER_URI_shape.ext E, S_BENEFICIARY_INFORMATION.ext E, E_BENEFICIARY_INFORMATION.ext E, F_BENEFICIARY_INFORMATION_shape.ext E, S_FLOOR_REQUEST_INFORMATION.ext E, E_FLOOR_REQUEST_INFORMATION.ext E, F_FLOOR_REQUEST_INFORMATION_shape.ext E, S_REQUESTED_BY_INFORMATION.ext E, E_REQUESTED_BY_INFORMATION.ext E, F_REQUESTED_BY_INFORMATION_shape.ext E, S_FLOOR_REQUEST_STATUS.ext E, E_FLOOR_REQUEST_STATUS.ext E, F_FLOOR_REQUEST_STATUS_shape.ext E, S_OVERALL_REQUEST_STATUS.ext E, E_OVERALL_REQUEST_STATUS.ext E, F_OVERALL_REQUEST_STATUS_shape.ext E, S_SIXTEEN_BITS.ext E, E_SIXTEEN_BITS.ext E, F_SIXTEEN_BITS_ordinal.ext E, S_GROUPED.ext E, E_GROUPED.ext E, F_GROUPED_ordinal.ext E, S_OCTETS.ext E, E_OCTETS.ext E, F_OCTETS_ordinal.ext E, S_NON_EMPTY.ext E, E_NON_EMPTY.ext E, F_NON_EMPTY_ordinal.ext E⟩
theorem own_rem18 (x : Int32) : (x &&& (2147483647 : Int32)) % (18 : Int32) = (0 : Int32) ∨ (x &&& (2147483647 : Int32)) % (18 : Int32) = (1 : Int32) ∨ (x &&& (2147483647 : Int32)) % (18 : Int32) = (2 : Int32) ∨ (x &&& (2147483647 : Int32)) % (18 : Int32) = (3 : Int32) ∨ (x &&& (2147483647 : Int32)) % (18 : Int32) = (4 : Int32) ∨ (x &&& (2147483647 : Int32)) % (18 : Int32) = (5 : Int32) ∨ (x &&& (2147483647 : Int32)) % (18 : Int32) = (6 : Int32) ∨ (x &&& (2147483647 : Int32)) % (18 : Int32) = (7 : Int32) ∨ (x &&& (2147483647 : Int32)) % (18 : Int32) = (8 : Int32) ∨ (x &&& (2147483647 : Int32)) % (18 : Int32) = (9 : Int32) ∨ (x &&& (2147483647 : Int32)) % (18 : Int32) = (10 : Int32) ∨ (x &&& (2147483647 : Int32)) % (18 : Int32) = (11 : Int32) ∨ (x &&& (2147483647 : Int32)) % (18 : Int32) = (12 : Int32) ∨ (x &&& (2147483647 : Int32)) % (18 : Int32) = (13 : Int32) ∨ (x &&& (2147483647 : Int32)) % (18 : Int32) = (14 : Int32) ∨ (x &&& (2147483647 : Int32)) % (18 : Int32) = (15 : Int32) ∨ (x &&& (2147483647 : Int32)) % (18 : Int32) = (16 : Int32) ∨ (x &&& (2147483647 : Int32)) % (18 : Int32) = (17 : Int32) := by
  have h1 : (x &&& (2147483647 : Int32)).toInt = x.toInt % 2147483648 := c_mask x 2147483647 31 (by decide) (by decide)
  have h2 := (c_irem (x &&& (2147483647 : Int32)) (18 : Int32) 18 (by decide)).1 (by omega)
  have hlo : 0 ≤ ((x &&& (2147483647 : Int32)) % (18 : Int32)).toInt := by omega
  have hhi : ((x &&& (2147483647 : Int32)) % (18 : Int32)).toInt < 18 := by omega
  clear h1 h2
  rcases (by omega : ((x &&& (2147483647 : Int32)) % (18 : Int32)).toInt = 0 ∨ 1 ≤ ((x &&& (2147483647 : Int32)) % (18 : Int32)).toInt) with h | hlo
  · exact Or.inl (Int32.toInt_inj.mp (by rw [h]; decide))
  rcases (by omega : ((x &&& (2147483647 : Int32)) % (18 : Int32)).toInt = 1 ∨ 2 ≤ ((x &&& (2147483647 : Int32)) % (18 : Int32)).toInt) with h | hlo
  · exact Or.inr (Or.inl (Int32.toInt_inj.mp (by rw [h]; decide)))
  rcases (by omega : ((x &&& (2147483647 : Int32)) % (18 : Int32)).toInt = 2 ∨ 3 ≤ ((x &&& (2147483647 : Int32)) % (18 : Int32)).toInt) with h | hlo
  · exact Or.inr (Or.inr (Or.inl (Int32.toInt_inj.mp (by rw [h]; decide))))
  rcases (by omega : ((x &&& (2147483647 : Int32)) % (18 : Int32)).toInt = 3 ∨ 4 ≤ ((x &&& (2147483647 : Int32)) % (18 : Int32)).toInt) with h | hlo
  · exact Or.inr (Or.inr (Or.inr (Or.inl (Int32.toInt_inj.mp (by rw [h]; decide)))))
  rcases (by omega : ((x &&& (2147483647 : Int32)) % (18 : Int32)).toInt = 4 ∨ 5 ≤ ((x &&& (2147483647 : Int32)) % (18 : Int32)).toInt) with h | hlo
  · exact Or.inr (Or.inr (Or.inr (Or.inr (Or.inl (Int32.toInt_inj.mp (by rw [h]; decide))))))
  rcases (by omega : ((x &&& (2147483647 : Int32)) % (18 : Int32)).toInt = 5 ∨ 6 ≤ ((x &&& (2147483647 : Int32)) % (18 : Int32)).toInt) with h | hlo
  · exact Or.inr (Or.inr (Or.inr (Or.inr (Or.inr (Or.inl (Int32.toInt_inj.mp (by rw [h]; decide)))))))
  rcases (by omega : ((x &&& (2147483647 : Int32)) % (18 : Int32)).toInt = 6 ∨ 7 ≤ ((x &&& (2147483647 : Int32)) % (18 : Int32)).toInt) with h | hlo
  · exact Or.inr (Or.inr (Or.inr (Or.inr (Or.inr (Or.inr (Or.inl (Int32.toInt_inj.mp (by rw [h]; decide))))))))
  rcases (by omega : ((x &&& (2147483647 : Int32)) % (18 : Int32)).toInt = 7 ∨ 8 ≤ ((x &&& (2147483647 : Int32)) % (18 : Int32)).toInt) with h | hlo
  · exact Or.inr (Or.inr (Or.inr (Or.inr (Or.inr (Or.inr (Or.inr (Or.inl (Int32.toInt_inj.mp (by rw [h]; decide)))))))))
  rcases (by omega : ((x &&& (2147483647 : Int32)) % (18 : Int32)).toInt = 8 ∨ 9 ≤ ((x &&& (2147483647 : Int32)) % (18 : Int32)).toInt) with h | hlo
  · exact Or.inr (Or.inr (Or.inr (Or.inr (Or.inr (Or.inr (Or.inr (Or.inr (Or.inl (Int32.toInt_inj.mp (by rw [h]; decide))))))))))
  rcases (by omega : ((x &&& (2147483647 : Int32)) % (18 : Int32)).toInt = 9 ∨ 10 ≤ ((x &&& (2147483647 : Int32)) % (18 : Int32)).toInt) with h | hlo
  · exact Or.inr (Or.inr (Or.inr (Or.inr (Or.inr (Or.inr (Or.inr (Or.inr (Or.inr (Or.inl (Int32.toInt_inj.mp (by rw [h]; decide)))))))))))
  rcases (by omega : ((x &&& (2147483647 : Int32)) % (18 : Int32)).toInt = 10 ∨ 11 ≤ ((x &&& (2147483647 : Int32)) % (18 : Int32)).toInt) with h | hlo
  · exact Or.inr (Or.inr (Or.inr (Or.inr (Or.inr (Or.inr (Or.inr (Or.inr (Or.inr (Or.inr (Or.inl (Int32.toInt_inj.mp (by rw [h]; decide))))))))))))
  rcases (by omega : ((x &&& (2147483647 : Int32)) % (18 : Int32)).toInt = 11 ∨ 12 ≤ ((x &&& (2147483647 : Int32)) % (18 : Int32)).toInt) with h | hlo
  · exact Or.inr (Or.inr (Or.inr (Or.inr (Or.inr (Or.inr (Or.inr (Or.inr (Or.inr (Or.inr (Or.inr (Or.inl (Int32.toInt_inj.mp (by rw [h]; decide)))))))))))))
  rcases (by omega : ((x &&& (2147483647 : Int32)) % (18 : Int32)).toInt = 12 ∨ 13 ≤ ((x &&& (2147483647 : Int32)) % (18 : Int32)).toInt) with h | hlo
  · exact Or.inr (Or.inr (Or.inr (Or.inr (Or.inr (Or.inr (Or.inr (Or.inr (Or.inr (Or.inr (Or.inr (Or.inr (Or.inl (Int32.toInt_inj.mp (by rw [h]; decide))))))))))))))
  rcases (by omega : ((x &&& (2147483647 : Int32)) % (18 : Int32)).toInt = 13 ∨ 14 ≤ ((x &&& (2147483647 : Int32)) % (18 : Int32)).toInt) with h | hlo
  · exact Or.inr (Or.inr (Or.inr (Or.inr (Or.inr (Or.inr (Or.inr (Or.inr (Or.inr (Or.inr (Or.inr (Or.inr (Or.inr (Or.inl (Int32.toInt_inj.mp (by rw [h]; decide)))))))))))))))
  rcases (by omega : ((x &&& (2147483647 : Int32)) % (18 : Int32)).toInt = 14 ∨ 15 ≤ ((x &&& (2147483647 : Int32)) % (18 : Int32)).toInt) with h | hlo
  · exact Or.inr (Or.inr (Or.inr (Or.inr (Or.inr (Or.inr (Or.inr (Or.inr (Or.inr (Or.inr (Or.inr (Or.inr (Or.inr (Or.inr (Or.inl (Int32.toInt_inj.mp (by rw [h]; decide))))))))))))))))
  rcases (by omega : ((x &&& (2147483647 : Int32)) % (18 : Int32)).toInt = 15 ∨ 16 ≤ ((x &&& (2147483647 : Int32)) % (18 : Int32)).toInt) with h | hlo
  · exact Or.inr (Or.inr (Or.inr (Or.inr (Or.inr (Or.inr (Or.inr (Or.inr (Or.inr (Or.inr (Or.inr (Or.inr (Or.inr (Or.inr (Or.inr (Or.inl (Int32.toInt_inj.mp (by rw [h]; decide)))))))))))))))))
  rcases (by omega : ((x &&& (2147483647 : Int32)) % (18 : Int32)).toInt = 16 ∨ 17 ≤ ((x &&& (2147483647 : Int32)) % (18 : Int32)).toInt) with h | hlo
  · exact Or.inr (Or.inr (Or.inr (Or.inr (Or.inr (Or.inr (Or.inr (Or.inr (Or.inr (Or.inr (Or.inr (Or.inr (Or.inr (Or.inr (Or.inr (Or.inr (Or.inl (Int32.toInt_inj.mp (by rw [h]; decide))))))))))))))))))
  have h : ((x &&& (2147483647 : Int32)) % (18 : Int32)).toInt = 17 := by omega
  exact Or.inr (Or.inr (Or.inr (Or.inr (Or.inr (Or.inr (Or.inr (Or.inr (Or.inr (Or.inr (Or.inr (Or.inr (Or.inr (Or.inr (Or.inr (Or.inr (Or.inr (Int32.toInt_inj.mp (by rw [h]; decide))))))))))))))))))
theorem d2_0 : decode jdk_37_method_2_code 0 = .ok (.aload_n 0, 1) := by decide +kernel
theorem d2_1 : decode jdk_37_method_2_code 1 = .ok (.getfield 7, 3) := by decide +kernel
theorem d2_4 : decode jdk_37_method_2_code 4 = .ok (.ireturn, 1) := by decide +kernel
theorem pn_3 : plainName "java/lang/Enum" = true := by first | (simp [plainName, overriddenIn]; done) | decide +kernel
theorem ef_rm_ord (m : MethodId) (x0 : Addr) : entryFrame m #[(.ref x0)] 1 = mkF m 0 #[.val (.ref x0)] [] := by first | (simp [entryFrame, mkF, argsToLocals, Value.category]; done) | rfl
set_option maxRecDepth 65536 in
set_option maxHeartbeats 40000000 in
theorem rm_ord (l : Launch) (Z : State) (a0 : Array Value) (hw : ∀ d ∈ tables_1, d.before a0 Z = true) (ws : List Jvm.Cond) (a1 : Addr) (h0 : Heap) (n0 : Nat) (Z0 : n0 ≤ h0.size) (r : Int32) (F : Fld Z h0 a1 "java/lang/Enum" "ordinal" "I" (.int r)) :
    MetFree l (⟨"java/lang/Enum", "ordinal", "()I"⟩ : MethodName) (head1 (Jvm.Cond.code (⟨"java/lang/Enum", "ordinal", "()I"⟩ : MethodName) jdk_37_method_2_code 1 (some .int) :: ws) ({ frames := 0, cells := 0, slots := 0, locals := 0 } : Room)) (fun aQ UQ => aQ = #[(.ref a1)] ∧ Z.Warmed39 UQ.vm ∧ UQ.heap = h0) (fun _ _ _ _ _ => True) (fun _ UQ oQ UR => ∃ vQ LQ, oQ = .returned vQ ∧ own_Pure (some (.int r)) h0 n0 vQ UR.heap LQ ∧ FrameEnd UQ oQ UR LQ ({ frames := 0, cells := 0, slots := 0, locals := 0 } : Room).cells ({ frames := 0, cells := 0, slots := 0, locals := 0 } : Room).slots) := by
  refine MetFree.of_bodySF (plainFor_of_name pn_3) hisR ?_
  intro p e s m args below meth c s₁ Bd hml0 hP hK
  obtain ⟨rfl, hZ, hh⟩ := hP
  have hx := Bd.exec
  have hby := Bd.bytes
  have hml : c.maxLocals = 1 := hml0
  have hown : s.vm.findClass "java/lang/Enum" = some m.cls := findClass_of_methodNamed Bd.named
  have hnm := (name_of_methodNamed Bd.named Bd.method).1
  have X0 : Stand p l e ({ frames := 0, cells := 0, slots := 0, locals := 0 } : Room) s m #[(.ref a1)] below meth c s₁ [] 0 0 := Stand.of_body Bd
  have e0 : s₁.heap = h0 := by rw [← hh, Bd.state]; rfl
  have N0 := Fr.nil n0
  have pre0 : ∀ t, Steps p.tables e below (s₁.setTop (mkF m 0 #[.val (.ref a1)] [])) t → Steps p.tables e below (s₁.setTop (entryFrame m #[(.ref a1)] 1)) t := fun t kq => castTop (ef_rm_ord m a1) kq
  obtain ⟨T87, X87, e87, st87⟩ := getF X0 hx hZ hown (host := "") (Or.inl (hw _ (List.mem_of_getElem? (i := 57) rfl))) Via.refl e0 F (g := (mkF m 1 #[.val (.ref a1)] [(.ref a1)])) rfl rfl (hb hby d2_1)
  obtain ⟨fs, hr, hrun, hended, hW, hsame⟩ := X87.leave (v := some (.int r)) (fun h => by rw [Bd.returns] at h; cases h)
  refine ⟨_, _, pre0 _ ?_, hrun, hended, _, _, rfl, ?_, ⟨_, rfl⟩, hW, hsame.mono (by decide) (by decide)⟩
  · show Steps p.tables e below (s₁.setTop (mkF m 0 #[.val (.ref a1)] [])) _
    refine XS.aloadN X0.here hx rfl (hb hby d2_0) rfl rfl ?_
    show Steps p.tables e below (s₁.setTop (mkF m 1 #[.val (.ref a1)] [(.ref a1)])) _
    refine st87 _ ?_
    show Steps p.tables e below (T87.setTop (mkF m 4 #[.val (.ref a1)] [(.int r)])) _
    exact retOut X87 hx Bd.returns rfl (Or.inl ⟨rfl, Or.inl rfl, _, rfl⟩) (hb hby d2_4) hr
  · show own_Pure (some (.int r)) h0 n0 _ T87.heap _
    rw [e87]
    exact ⟨rfl, N0, rfl⟩
theorem d1_0 : decode prog_24_method_6_code 0 = .ok (.aload_n 0, 1) := by decide +kernel
theorem d1_1 : decode prog_24_method_6_code 1 = .ok (.getfield 81, 3) := by decide +kernel
theorem pd_6 : parseMethodDescriptor "()I" = some ⟨[], some .int⟩ := by decide +kernel
theorem d1_4 : decode prog_24_method_6_code 4 = .ok (.invokevirtual 90, 3) := by decide +kernel
theorem d1_7 : decode prog_24_method_6_code 7 = .ok (.tableswitch 62 0 3 #[29, 40, 62, 51], 29) := by decide +kernel
theorem d1_36 : decode prog_24_method_6_code 36 = .ok (.iload_n 1, 1) := by decide +kernel
theorem d1_37 : decode prog_24_method_6_code 37 = .ok (.iconst 2, 1) := by decide +kernel
theorem d1_38 : decode prog_24_method_6_code 38 = .ok (.if_icmp .ne 7, 3) := by decide +kernel
theorem d1_41 : decode prog_24_method_6_code 41 = .ok (.iconst 1, 1) := by decide +kernel
theorem d1_42 : decode prog_24_method_6_code 42 = .ok (.goto 4, 3) := by decide +kernel
theorem d1_46 : decode prog_24_method_6_code 46 = .ok (.ireturn, 1) := by decide +kernel
theorem d1_45 : decode prog_24_method_6_code 45 = .ok (.iconst 0, 1) := by decide +kernel
theorem pn_16 : plainName "com/example/parley/parley/message/AttributeType" = true := by first | (simp [plainName, overriddenIn]; done) | decide +kernel
theorem ef_rm_acc_SIXTEEN_BITS (m : MethodId) (x0 : Addr) (x1 : Int32) : entryFrame m #[(.ref x0), (.int x1)] 2 = mkF m 0 #[.val (.ref x0), .val (.int x1)] [] := by first | (simp [entryFrame, mkF, argsToLocals, Value.category]; done) | rfl
set_option maxRecDepth 65536 in
set_option maxHeartbeats 40000000 in
theorem rm_acc_SIXTEEN_BITS (l : Launch) (Z : State) (a0 : Array Value) (hw : ∀ d ∈ tables_1, d.before a0 Z = true) (ws : List Jvm.Cond) (a1 : Addr) (pL : Int32) (h0 : Heap) (n0 : Nat) (Z0 : n0 ≤ h0.size) (sh : Addr) (F1 : Fld Z h0 a1 "com/example/parley/parley/message/AttributeType" "shape" "Lcom/example/parley/parley/message/AttributeType$Shape;" (.ref sh)) (E1 : Exa Z h0 sh "com/example/parley/parley/message/AttributeType$Shape") (F2 : Fld Z h0 sh "java/lang/Enum" "ordinal" "I" (.int (0 : Int32))) (r : Int32) (hres : (if pL = (2 : Int32) then (1 : Int32) else 0) = r) :
    MetFree l (⟨"com/example/parley/parley/message/AttributeType", "accepts", "(I)Z"⟩ : MethodName) (head1 (Jvm.Cond.code (⟨"com/example/parley/parley/message/AttributeType", "accepts", "(I)Z"⟩ : MethodName) prog_24_method_6_code 2 (some .boolean) :: ws) ({ frames := 1, cells := 0, slots := 0, locals := 12 } : Room)) (fun aQ UQ => aQ = #[(.ref a1), (.int pL)] ∧ Z.Warmed39 UQ.vm ∧ UQ.heap = h0) (fun _ _ _ _ _ => True) (fun _ UQ oQ UR => ∃ vQ LQ, oQ = .returned vQ ∧ own_Pure (some (.int r)) h0 n0 vQ UR.heap LQ ∧ FrameEnd UQ oQ UR LQ ({ frames := 1, cells := 0, slots := 0, locals := 12 } : Room).cells ({ frames := 1, cells := 0, slots := 0, locals := 12 } : Room).slots) := by
  refine MetFree.of_bodySF (plainFor_of_name pn_16) hisR ?_
  intro p e s m args below meth c s₁ Bd hml0 hP hK
  obtain ⟨rfl, hZ, hh⟩ := hP
  have hx := Bd.exec
  have hby := Bd.bytes
  have hml : c.maxLocals = 2 := hml0
  have hown : s.vm.findClass "com/example/parley/parley/message/AttributeType" = some m.cls := findClass_of_methodNamed Bd.named
  have hnm := (name_of_methodNamed Bd.named Bd.method).1
  have X0 : Stand p l e ({ frames := 1, cells := 0, slots := 0, locals := 12 } : Room) s m #[(.ref a1), (.int pL)] below meth c s₁ [] 0 0 := Stand.of_body Bd
  have e0 : s₁.heap = h0 := by rw [← hh, Bd.state]; rfl
  have N0 := Fr.nil n0
  have pre0 : ∀ t, Steps p.tables e below (s₁.setTop (mkF m 0 #[.val (.ref a1), .val (.int pL)] [])) t → Steps p.tables e below (s₁.setTop (entryFrame m #[(.ref a1), (.int pL)] 2)) t := fun t kq => castTop (ef_rm_acc_SIXTEEN_BITS m a1 pL) kq
  obtain ⟨T88, X88, e88, st88⟩ := getF X0 hx hZ hown (host := "") (Or.inl (hw _ (List.mem_of_getElem? (i := 46) rfl))) Via.refl e0 F1 (g := (mkF m 1 #[.val (.ref a1), .val (.int pL)] [(.ref a1)])) rfl rfl (hb hby d1_1)
  obtain ⟨cq89, kq89, q89a, q89b, q89c⟩ := isOf hZ e88 (E1)
  obtain ⟨_, _, ⟨T89, L89, k89, n89⟩, -, X89, ⟨Lc89, hQ89, l89, y89, z89⟩, st89⟩ := X88.virtualBackUp hx (owner := "java/lang/Enum") (x := (⟨"com/example/parley/parley/message/AttributeType$Shape", "ordinal", "()I"⟩ : MethodName)) (y := (⟨"java/lang/Enum", "ordinal", "()I"⟩ : MethodName)) hown (mvT hZ (hw _ (List.mem_of_getElem? (i := 50) rfl))) (mvT hZ (hw _ (List.mem_of_getElem? (i := 51) rfl))) (mvT hZ (hw _ (List.mem_of_getElem? (i := 52) rfl))) (by decide) (mvT hZ (hw _ (List.mem_of_getElem? (i := 54) rfl))) (mvT hZ (hw _ (List.mem_of_getElem? (i := 53) rfl))) (backOf (W := 0) (rm_ord l Z a0 hw [] sh h0 n0 Z0 (0 : Int32) F2) hZ (hw _ (List.mem_of_getElem? (i := 56) rfl)) (hw _ (List.mem_of_getElem? (i := 55) rfl)) (by decide) (by decide)) q89a q89c (g := (mkF m 4 #[.val (.ref a1), .val (.int pL)] [(.ref sh)])) rfl (by rw [hml]; rfl) (Steps.refl _) (argsL := []) (rest := []) (lenOf pd_6 rfl) rfl (by show 2 * 0 + _ ≤ _; exact Nat.le_of_eq rfl) (hb hby d1_4) (fun _ _ => ⟨rfl, e88, (by decide : 0 + 0 ≤ _), (by decide : 0 + 0 ≤ _)⟩)
  dsimp only [Pt.U, Pt.locs, Pt.cells, Pt.slots] at X89 l89 y89 z89 st89 hQ89
  subst l89 y89 z89
  obtain ⟨rfl, N89q, e89⟩ := hQ89
  have N89 := Fr.app N0 N89q
  have ck91 : ∀ t, Steps p.tables e below (T89.setTop (mkF m 38 #[.val (.ref a1), .val (.int pL)] [(.int (2 : Int32)), (.int pL)])) t → Steps p.tables e below (s₁.setTop (entryFrame m #[(.ref a1), (.int pL)] 2)) t := by
    intro t kt
    refine pre0 _ ?_
    show Steps p.tables e below (s₁.setTop (mkF m 0 #[.val (.ref a1), .val (.int pL)] [])) _
    refine XS.aloadN X0.here hx rfl (hb hby d1_0) rfl rfl ?_
    show Steps p.tables e below (s₁.setTop (mkF m 1 #[.val (.ref a1), .val (.int pL)] [(.ref a1)])) _
    refine st88 _ ?_
    show Steps p.tables e below (T88.setTop (mkF m 4 #[.val (.ref a1), .val (.int pL)] [(.ref sh)])) _
    refine st89.trans ?_
    show Steps p.tables e below (T89.setTop (mkF m 7 #[.val (.ref a1), .val (.int pL)] [(.int (0 : Int32))])) _
    refine X89.tableswitchIn hx (g := (mkF m 7 #[.val (.ref a1), .val (.int pL)] [(.int (0 : Int32))])) rfl rfl (hb hby d1_7) (by decide) (off := 29) (by first | rfl | decide +kernel) (by show (0 : Int) ≤ ((7 : Nat) : Int) + 29; decide) _ ?_
    show Steps p.tables e below (T89.setTop (mkF m 36 #[.val (.ref a1), .val (.int pL)] [])) _
    refine XS.iloadN X89.here hx rfl (hb hby d1_36) rfl ?_
    show Steps p.tables e below (T89.setTop (mkF m 37 #[.val (.ref a1), .val (.int pL)] [(.int pL)])) _
    refine XS.iconst X89.here hx rfl (hb hby d1_37) ?_
    exact kt
  (try clear N89q); (try clear st89); (try clear Lc89); (try clear n89); (try clear k89); (try clear L89); (try clear q89c); (try clear q89b); (try clear q89a); (try clear kq89); (try clear cq89); (try clear st88); (try clear e88); (try clear X88); (try clear T88)
  by_cases hc38_90 : pL = (2 : Int32)
  · -- pc 38: pL = (2 : Int32)
    obtain ⟨fs, hr, hrun, hended, hW, hsame⟩ := X89.leave (v := some (.int (1 : Int32))) (fun h => by rw [Bd.returns] at h; cases h)
    refine ⟨_, _, ck91 _ ?_, hrun, hended, _, _, rfl, ?_, ⟨_, rfl⟩, hW, hsame.mono (by decide) (by decide)⟩
    · show Steps p.tables e below (T89.setTop (mkF m 38 #[.val (.ref a1), .val (.int pL)] [(.int (2 : Int32)), (.int pL)])) _
      refine XS.icmpNo X89.here hx rfl (hb hby d1_38) rfl (teq hc38_90).2 ?_
      show Steps p.tables e below (T89.setTop (mkF m 41 #[.val (.ref a1), .val (.int pL)] [])) _
      refine XS.iconst X89.here hx rfl (hb hby d1_41) ?_
      show Steps p.tables e below (T89.setTop (mkF m 42 #[.val (.ref a1), .val (.int pL)] [(.int (1 : Int32))])) _
      refine XS.goto X89.here hx rfl (pc0 := 42) (pc' := 46) rfl (hb hby d1_42) (by decide) (by decide) ?_
      show Steps p.tables e below (T89.setTop (mkF m 46 #[.val (.ref a1), .val (.int pL)] [(.int (1 : Int32))])) _
      exact retN X89 hx (t := .boolean) Bd.returns (by simp) (hb hby d1_46) hr
    · show own_Pure (some (.int r)) h0 n0 _ T89.heap _
      rw [e89]
      exact ⟨by rw [← hres]; simp only [if_pos hc38_90], N89, rfl⟩
  · -- pc 38: not pL = (2 : Int32)
    obtain ⟨fs, hr, hrun, hended, hW, hsame⟩ := X89.leave (v := some (.int (0 : Int32))) (fun h => by rw [Bd.returns] at h; cases h)
    refine ⟨_, _, ck91 _ ?_, hrun, hended, _, _, rfl, ?_, ⟨_, rfl⟩, hW, hsame.mono (by decide) (by decide)⟩
    · show Steps p.tables e below (T89.setTop (mkF m 38 #[.val (.ref a1), .val (.int pL)] [(.int (2 : Int32)), (.int pL)])) _
      refine XS.icmpYes X89.here hx rfl (pc0 := 38) (pc' := 45) rfl (hb hby d1_38) rfl (feq hc38_90).2 (by decide) (by decide) ?_
      show Steps p.tables e below (T89.setTop (mkF m 45 #[.val (.ref a1), .val (.int pL)] [])) _
      refine XS.iconst X89.here hx rfl (hb hby d1_45) ?_
      show Steps p.tables e below (T89.setTop (mkF m 46 #[.val (.ref a1), .val (.int pL)] [(.int (0 : Int32))])) _
      exact retN X89 hx (t := .boolean) Bd.returns (by simp) (hb hby d1_46) hr
    · show own_Pure (some (.int r)) h0 n0 _ T89.heap _
      rw [e89]
      exact ⟨by rw [← hres]; simp only [if_neg hc38_90], N89, rfl⟩
theorem d1_47 : decode prog_24_method_6_code 47 = .ok (.iload_n 1, 1) := by decide +kernel
theorem d1_48 : decode prog_24_method_6_code 48 = .ok (.iconst 1, 1) := by decide +kernel
theorem d1_49 : decode prog_24_method_6_code 49 = .ok (.if_icmp .lt 7, 3) := by decide +kernel
theorem d1_56 : decode prog_24_method_6_code 56 = .ok (.iconst 0, 1) := by decide +kernel
theorem d1_57 : decode prog_24_method_6_code 57 = .ok (.ireturn, 1) := by decide +kernel
theorem d1_52 : decode prog_24_method_6_code 52 = .ok (.iconst 1, 1) := by decide +kernel
theorem d1_53 : decode prog_24_method_6_code 53 = .ok (.goto 4, 3) := by decide +kernel
theorem ef_rm_acc_NON_EMPTY (m : MethodId) (x0 : Addr) (x1 : Int32) : entryFrame m #[(.ref x0), (.int x1)] 2 = mkF m 0 #[.val (.ref x0), .val (.int x1)] [] := by first | (simp [entryFrame, mkF, argsToLocals, Value.category]; done) | rfl
set_option maxRecDepth 65536 in
set_option maxHeartbeats 40000000 in
theorem rm_acc_NON_EMPTY (l : Launch) (Z : State) (a0 : Array Value) (hw : ∀ d ∈ tables_1, d.before a0 Z = true) (ws : List Jvm.Cond) (a1 : Addr) (pL : Int32) (h0 : Heap) (n0 : Nat) (Z0 : n0 ≤ h0.size) (sh : Addr) (F1 : Fld Z h0 a1 "com/example/parley/parley/message/AttributeType" "shape" "Lcom/example/parley/parley/message/AttributeType$Shape;" (.ref sh)) (E1 : Exa Z h0 sh "com/example/parley/parley/message/AttributeType$Shape") (F2 : Fld Z h0 sh "java/lang/Enum" "ordinal" "I" (.int (1 : Int32))) (r : Int32) (hres : (if pL < (1 : Int32) then (0 : Int32) else 1) = r) :
    MetFree l (⟨"com/example/parley/parley/message/AttributeType", "accepts", "(I)Z"⟩ : MethodName) (head1 (Jvm.Cond.code (⟨"com/example/parley/parley/message/AttributeType", "accepts", "(I)Z"⟩ : MethodName) prog_24_method_6_code 2 (some .boolean) :: ws) ({ frames := 1, cells := 0, slots := 0, locals := 12 } : Room)) (fun aQ UQ => aQ = #[(.ref a1), (.int pL)] ∧ Z.Warmed39 UQ.vm ∧ UQ.heap = h0) (fun _ _ _ _ _ => True) (fun _ UQ oQ UR => ∃ vQ LQ, oQ = .returned vQ ∧ own_Pure (some (.int r)) h0 n0 vQ UR.heap LQ ∧ FrameEnd UQ oQ UR LQ ({ frames := 1, cells := 0, slots := 0, locals := 12 } : Room).cells ({ frames := 1, cells := 0, slots := 0, locals := 12 } : Room).slots) := by
  refine MetFree.of_bodySF (plainFor_of_name pn_16) hisR ?_
  intro p e s m args below meth c s₁ Bd hml0 hP hK
  obtain ⟨rfl, hZ, hh⟩ := hP
  have hx := Bd.exec
  have hby := Bd.bytes
  have hml : c.maxLocals = 2 := hml0
  have hown : s.vm.findClass "com/example/parley/parley/message/AttributeType" = some m.cls := findClass_of_methodNamed Bd.named
  have hnm := (name_of_methodNamed Bd.named Bd.method).1
  have X0 : Stand p l e ({ frames := 1, cells := 0, slots := 0, locals := 12 } : Room) s m #[(.ref a1), (.int pL)] below meth c s₁ [] 0 0 := Stand.of_body Bd
  have e0 : s₁.heap = h0 := by rw [← hh, Bd.state]; rfl
  have N0 := Fr.nil n0
  have pre0 : ∀ t, Steps p.tables e below (s₁.setTop (mkF m 0 #[.val (.ref a1), .val (.int pL)] [])) t → Steps p.tables e below (s₁.setTop (entryFrame m #[(.ref a1), (.int pL)] 2)) t := fun t kq => castTop (ef_rm_acc_NON_EMPTY m a1 pL) kq
  obtain ⟨T92, X92, e92, st92⟩ := getF X0 hx hZ hown (host := "") (Or.inl (hw _ (List.mem_of_getElem? (i := 46) rfl))) Via.refl e0 F1 (g := (mkF m 1 #[.val (.ref a1), .val (.int pL)] [(.ref a1)])) rfl rfl (hb hby d1_1)
  obtain ⟨cq93, kq93, q93a, q93b, q93c⟩ := isOf hZ e92 (E1)
  obtain ⟨_, _, ⟨T93, L93, k93, n93⟩, -, X93, ⟨Lc93, hQ93, l93, y93, z93⟩, st93⟩ := X92.virtualBackUp hx (owner := "java/lang/Enum") (x := (⟨"com/example/parley/parley/message/AttributeType$Shape", "ordinal", "()I"⟩ : MethodName)) (y := (⟨"java/lang/Enum", "ordinal", "()I"⟩ : MethodName)) hown (mvT hZ (hw _ (List.mem_of_getElem? (i := 50) rfl))) (mvT hZ (hw _ (List.mem_of_getElem? (i := 51) rfl))) (mvT hZ (hw _ (List.mem_of_getElem? (i := 52) rfl))) (by decide) (mvT hZ (hw _ (List.mem_of_getElem? (i := 54) rfl))) (mvT hZ (hw _ (List.mem_of_getElem? (i := 53) rfl))) (backOf (W := 0) (rm_ord l Z a0 hw [] sh h0 n0 Z0 (1 : Int32) F2) hZ (hw _ (List.mem_of_getElem? (i := 56) rfl)) (hw _ (List.mem_of_getElem? (i := 55) rfl)) (by decide) (by decide)) q93a q93c (g := (mkF m 4 #[.val (.ref a1), .val (.int pL)] [(.ref sh)])) rfl (by rw [hml]; rfl) (Steps.refl _) (argsL := []) (rest := []) (lenOf pd_6 rfl) rfl (by show 2 * 0 + _ ≤ _; exact Nat.le_of_eq rfl) (hb hby d1_4) (fun _ _ => ⟨rfl, e92, (by decide : 0 + 0 ≤ _), (by decide : 0 + 0 ≤ _)⟩)
  dsimp only [Pt.U, Pt.locs, Pt.cells, Pt.slots] at X93 l93 y93 z93 st93 hQ93
  subst l93 y93 z93
  obtain ⟨rfl, N93q, e93⟩ := hQ93
  have N93 := Fr.app N0 N93q
  have ck95 : ∀ t, Steps p.tables e below (T93.setTop (mkF m 49 #[.val (.ref a1), .val (.int pL)] [(.int (1 : Int32)), (.int pL)])) t → Steps p.tables e below (s₁.setTop (entryFrame m #[(.ref a1), (.int pL)] 2)) t := by
    intro t kt
    refine pre0 _ ?_
    show Steps p.tables e below (s₁.setTop (mkF m 0 #[.val (.ref a1), .val (.int pL)] [])) _
    refine XS.aloadN X0.here hx rfl (hb hby d1_0) rfl rfl ?_
    show Steps p.tables e below (s₁.setTop (mkF m 1 #[.val (.ref a1), .val (.int pL)] [(.ref a1)])) _
    refine st92 _ ?_
    show Steps p.tables e below (T92.setTop (mkF m 4 #[.val (.ref a1), .val (.int pL)] [(.ref sh)])) _
    refine st93.trans ?_
    show Steps p.tables e below (T93.setTop (mkF m 7 #[.val (.ref a1), .val (.int pL)] [(.int (1 : Int32))])) _
    refine X93.tableswitchIn hx (g := (mkF m 7 #[.val (.ref a1), .val (.int pL)] [(.int (1 : Int32))])) rfl rfl (hb hby d1_7) (by decide) (off := 40) (by first | rfl | decide +kernel) (by show (0 : Int) ≤ ((7 : Nat) : Int) + 40; decide) _ ?_
    show Steps p.tables e below (T93.setTop (mkF m 47 #[.val (.ref a1), .val (.int pL)] [])) _
    refine XS.iloadN X93.here hx rfl (hb hby d1_47) rfl ?_
    show Steps p.tables e below (T93.setTop (mkF m 48 #[.val (.ref a1), .val (.int pL)] [(.int pL)])) _
    refine XS.iconst X93.here hx rfl (hb hby d1_48) ?_
    exact kt
  (try clear N93q); (try clear st93); (try clear Lc93); (try clear n93); (try clear k93); (try clear L93); (try clear q93c); (try clear q93b); (try clear q93a); (try clear kq93); (try clear cq93); (try clear st92); (try clear e92); (try clear X92); (try clear T92)
  by_cases hc49_94 : pL < (1 : Int32)
  · -- pc 49: pL < (1 : Int32)
    obtain ⟨fs, hr, hrun, hended, hW, hsame⟩ := X93.leave (v := some (.int (0 : Int32))) (fun h => by rw [Bd.returns] at h; cases h)
    refine ⟨_, _, ck95 _ ?_, hrun, hended, _, _, rfl, ?_, ⟨_, rfl⟩, hW, hsame.mono (by decide) (by decide)⟩
    · show Steps p.tables e below (T93.setTop (mkF m 49 #[.val (.ref a1), .val (.int pL)] [(.int (1 : Int32)), (.int pL)])) _
      refine XS.icmpYes X93.here hx rfl (pc0 := 49) (pc' := 56) rfl (hb hby d1_49) rfl (tlt hc49_94).1 (by decide) (by decide) ?_
      show Steps p.tables e below (T93.setTop (mkF m 56 #[.val (.ref a1), .val (.int pL)] [])) _
      refine XS.iconst X93.here hx rfl (hb hby d1_56) ?_
      show Steps p.tables e below (T93.setTop (mkF m 57 #[.val (.ref a1), .val (.int pL)] [(.int (0 : Int32))])) _
      exact retN X93 hx (t := .boolean) Bd.returns (by simp) (hb hby d1_57) hr
    · show own_Pure (some (.int r)) h0 n0 _ T93.heap _
      rw [e93]
      exact ⟨by rw [← hres]; simp only [if_pos hc49_94], N93, rfl⟩
  · -- pc 49: not pL < (1 : Int32)
    obtain ⟨fs, hr, hrun, hended, hW, hsame⟩ := X93.leave (v := some (.int (1 : Int32))) (fun h => by rw [Bd.returns] at h; cases h)
    refine ⟨_, _, ck95 _ ?_, hrun, hended, _, _, rfl, ?_, ⟨_, rfl⟩, hW, hsame.mono (by decide) (by decide)⟩
    · show Steps p.tables e below (T93.setTop (mkF m 49 #[.val (.ref a1), .val (.int pL)] [(.int (1 : Int32)), (.int pL)])) _
      refine XS.icmpNo X93.here hx rfl (hb hby d1_49) rfl (flt hc49_94).1 ?_
      show Steps p.tables e below (T93.setTop (mkF m 52 #[.val (.ref a1), .val (.int pL)] [])) _
      refine XS.iconst X93.here hx rfl (hb hby d1_52) ?_
      show Steps p.tables e below (T93.setTop (mkF m 53 #[.val (.ref a1), .val (.int pL)] [(.int (1 : Int32))])) _
      refine XS.goto X93.here hx rfl (pc0 := 53) (pc' := 57) rfl (hb hby d1_53) (by decide) (by decide) ?_
      show Steps p.tables e below (T93.setTop (mkF m 57 #[.val (.ref a1), .val (.int pL)] [(.int (1 : Int32))])) _
      exact retN X93 hx (t := .boolean) Bd.returns (by simp) (hb hby d1_57) hr
    · show own_Pure (some (.int r)) h0 n0 _ T93.heap _
      rw [e93]
      exact ⟨by rw [← hres]; simp only [if_neg hc49_94], N93, rfl⟩
theorem d1_58 : decode prog_24_method_6_code 58 = .ok (.iload_n 1, 1) := by decide +kernel
theorem d1_59 : decode prog_24_method_6_code 59 = .ok (.iconst 2, 1) := by decide +kernel
theorem d1_60 : decode prog_24_method_6_code 60 = .ok (.if_icmp .lt 7, 3) := by decide +kernel
theorem d1_67 : decode prog_24_method_6_code 67 = .ok (.iconst 0, 1) := by decide +kernel
theorem d1_68 : decode prog_24_method_6_code 68 = .ok (.ireturn, 1) := by decide +kernel
theorem d1_63 : decode prog_24_method_6_code 63 = .ok (.iconst 1, 1) := by decide +kernel
theorem d1_64 : decode prog_24_method_6_code 64 = .ok (.goto 4, 3) := by decide +kernel
theorem ef_rm_acc_GROUPED (m : MethodId) (x0 : Addr) (x1 : Int32) : entryFrame m #[(.ref x0), (.int x1)] 2 = mkF m 0 #[.val (.ref x0), .val (.int x1)] [] := by first | (simp [entryFrame, mkF, argsToLocals, Value.category]; done) | rfl
set_option maxRecDepth 65536 in
set_option maxHeartbeats 40000000 in
theorem rm_acc_GROUPED (l : Launch) (Z : State) (a0 : Array Value) (hw : ∀ d ∈ tables_1, d.before a0 Z = true) (ws : List Jvm.Cond) (a1 : Addr) (pL : Int32) (h0 : Heap) (n0 : Nat) (Z0 : n0 ≤ h0.size) (sh : Addr) (F1 : Fld Z h0 a1 "com/example/parley/parley/message/AttributeType" "shape" "Lcom/example/parley/parley/message/AttributeType$Shape;" (.ref sh)) (E1 : Exa Z h0 sh "com/example/parley/parley/message/AttributeType$Shape") (F2 : Fld Z h0 sh "java/lang/Enum" "ordinal" "I" (.int (3 : Int32))) (r : Int32) (hres : (if pL < (2 : Int32) then (0 : Int32) else 1) = r) :
    MetFree l (⟨"com/example/parley/parley/message/AttributeType", "accepts", "(I)Z"⟩ : MethodName) (head1 (Jvm.Cond.code (⟨"com/example/parley/parley/message/AttributeType", "accepts", "(I)Z"⟩ : MethodName) prog_24_method_6_code 2 (some .boolean) :: ws) ({ frames := 1, cells := 0, slots := 0, locals := 12 } : Room)) (fun aQ UQ => aQ = #[(.ref a1), (.int pL)] ∧ Z.Warmed39 UQ.vm ∧ UQ.heap = h0) (fun _ _ _ _ _ => True) (fun _ UQ oQ UR => ∃ vQ LQ, oQ = .returned vQ ∧ own_Pure (some (.int r)) h0 n0 vQ UR.heap LQ ∧ FrameEnd UQ oQ UR LQ ({ frames := 1, cells := 0, slots := 0, locals := 12 } : Room).cells ({ frames := 1, cells := 0, slots := 0, locals := 12 } : Room).slots) := by
  refine MetFree.of_bodySF (plainFor_of_name pn_16) hisR ?_
  intro p e s m args below meth c s₁ Bd hml0 hP hK
  obtain ⟨rfl, hZ, hh⟩ := hP
  have hx := Bd.exec
  have hby := Bd.bytes
  have hml : c.maxLocals = 2 := hml0
  have hown : s.vm.findClass "com/example/parley/parley/message/AttributeType" = some m.cls := findClass_of_methodNamed Bd.named
  have hnm := (name_of_methodNamed Bd.named Bd.method).1
  have X0 : Stand p l e ({ frames := 1, cells := 0, slots := 0, locals := 12 } : Room) s m #[(.ref a1), (.int pL)] below meth c s₁ [] 0 0 := Stand.of_body Bd
  have e0 : s₁.heap = h0 := by rw [← hh, Bd.state]; rfl
  have N0 := Fr.nil n0
  have pre0 : ∀ t, Steps p.tables e below (s₁.setTop (mkF m 0 #[.val (.ref a1), .val (.int pL)] [])) t → Steps p.tables e below (s₁.setTop (entryFrame m #[(.ref a1), (.int pL)] 2)) t := fun t kq => castTop (ef_rm_acc_GROUPED m a1 pL) kq
  obtain ⟨T96, X96, e96, st96⟩ := getF X0 hx hZ hown (host := "") (Or.inl (hw _ (List.mem_of_getElem? (i := 46) rfl))) Via.refl e0 F1 (g := (mkF m 1 #[.val (.ref a1), .val (.int pL)] [(.ref a1)])) rfl rfl (hb hby d1_1)
  obtain ⟨cq97, kq97, q97a, q97b, q97c⟩ := isOf hZ e96 (E1)
  obtain ⟨_, _, ⟨T97, L97, k97, n97⟩, -, X97, ⟨Lc97, hQ97, l97, y97, z97⟩, st97⟩ := X96.virtualBackUp hx (owner := "java/lang/Enum") (x := (⟨"com/example/parley/parley/message/AttributeType$Shape", "ordinal", "()I"⟩ : MethodName)) (y := (⟨"java/lang/Enum", "ordinal", "()I"⟩ : MethodName)) hown (mvT hZ (hw _ (List.mem_of_getElem? (i := 50) rfl))) (mvT hZ (hw _ (List.mem_of_getElem? (i := 51) rfl))) (mvT hZ (hw _ (List.mem_of_getElem? (i := 52) rfl))) (by decide) (mvT hZ (hw _ (List.mem_of_getElem? (i := 54) rfl))) (mvT hZ (hw _ (List.mem_of_getElem? (i := 53) rfl))) (backOf (W := 0) (rm_ord l Z a0 hw [] sh h0 n0 Z0 (3 : Int32) F2) hZ (hw _ (List.mem_of_getElem? (i := 56) rfl)) (hw _ (List.mem_of_getElem? (i := 55) rfl)) (by decide) (by decide)) q97a q97c (g := (mkF m 4 #[.val (.ref a1), .val (.int pL)] [(.ref sh)])) rfl (by rw [hml]; rfl) (Steps.refl _) (argsL := []) (rest := []) (lenOf pd_6 rfl) rfl (by show 2 * 0 + _ ≤ _; exact Nat.le_of_eq rfl) (hb hby d1_4) (fun _ _ => ⟨rfl, e96, (by decide : 0 + 0 ≤ _), (by decide : 0 + 0 ≤ _)⟩)
  dsimp only [Pt.U, Pt.locs, Pt.cells, Pt.slots] at X97 l97 y97 z97 st97 hQ97
  subst l97 y97 z97
  obtain ⟨rfl, N97q, e97⟩ := hQ97
  have N97 := Fr.app N0 N97q
  have ck99 : ∀ t, Steps p.tables e below (T97.setTop (mkF m 60 #[.val (.ref a1), .val (.int pL)] [(.int (2 : Int32)), (.int pL)])) t → Steps p.tables e below (s₁.setTop (entryFrame m #[(.ref a1), (.int pL)] 2)) t := by
    intro t kt
    refine pre0 _ ?_
    show Steps p.tables e below (s₁.setTop (mkF m 0 #[.val (.ref a1), .val (.int pL)] [])) _
    refine XS.aloadN X0.here hx rfl (hb hby d1_0) rfl rfl ?_
    show Steps p.tables e below (s₁.setTop (mkF m 1 #[.val (.ref a1), .val (.int pL)] [(.ref a1)])) _
    refine st96 _ ?_
    show Steps p.tables e below (T96.setTop (mkF m 4 #[.val (.ref a1), .val (.int pL)] [(.ref sh)])) _
    refine st97.trans ?_
    show Steps p.tables e below (T97.setTop (mkF m 7 #[.val (.ref a1), .val (.int pL)] [(.int (3 : Int32))])) _
    refine X97.tableswitchIn hx (g := (mkF m 7 #[.val (.ref a1), .val (.int pL)] [(.int (3 : Int32))])) rfl rfl (hb hby d1_7) (by decide) (off := 51) (by first | rfl | decide +kernel) (by show (0 : Int) ≤ ((7 : Nat) : Int) + 51; decide) _ ?_
    show Steps p.tables e below (T97.setTop (mkF m 58 #[.val (.ref a1), .val (.int pL)] [])) _
    refine XS.iloadN X97.here hx rfl (hb hby d1_58) rfl ?_
    show Steps p.tables e below (T97.setTop (mkF m 59 #[.val (.ref a1), .val (.int pL)] [(.int pL)])) _
    refine XS.iconst X97.here hx rfl (hb hby d1_59) ?_
    exact kt
  (try clear N97q); (try clear st97); (try clear Lc97); (try clear n97); (try clear k97); (try clear L97); (try clear q97c); (try clear q97b); (try clear q97a); (try clear kq97); (try clear cq97); (try clear st96); (try clear e96); (try clear X96); (try clear T96)
  by_cases hc60_98 : pL < (2 : Int32)
  · -- pc 60: pL < (2 : Int32)
    obtain ⟨fs, hr, hrun, hended, hW, hsame⟩ := X97.leave (v := some (.int (0 : Int32))) (fun h => by rw [Bd.returns] at h; cases h)
    refine ⟨_, _, ck99 _ ?_, hrun, hended, _, _, rfl, ?_, ⟨_, rfl⟩, hW, hsame.mono (by decide) (by decide)⟩
    · show Steps p.tables e below (T97.setTop (mkF m 60 #[.val (.ref a1), .val (.int pL)] [(.int (2 : Int32)), (.int pL)])) _
      refine XS.icmpYes X97.here hx rfl (pc0 := 60) (pc' := 67) rfl (hb hby d1_60) rfl (tlt hc60_98).1 (by decide) (by decide) ?_
      show Steps p.tables e below (T97.setTop (mkF m 67 #[.val (.ref a1), .val (.int pL)] [])) _
      refine XS.iconst X97.here hx rfl (hb hby d1_67) ?_
      show Steps p.tables e below (T97.setTop (mkF m 68 #[.val (.ref a1), .val (.int pL)] [(.int (0 : Int32))])) _
      exact retN X97 hx (t := .boolean) Bd.returns (by simp) (hb hby d1_68) hr
    · show own_Pure (some (.int r)) h0 n0 _ T97.heap _
      rw [e97]
      exact ⟨by rw [← hres]; simp only [if_pos hc60_98], N97, rfl⟩
  · -- pc 60: not pL < (2 : Int32)
    obtain ⟨fs, hr, hrun, hended, hW, hsame⟩ := X97.leave (v := some (.int (1 : Int32))) (fun h => by rw [Bd.returns] at h; cases h)
    refine ⟨_, _, ck99 _ ?_, hrun, hended, _, _, rfl, ?_, ⟨_, rfl⟩, hW, hsame.mono (by decide) (by decide)⟩
    · show Steps p.tables e below (T97.setTop (mkF m 60 #[.val (.ref a1), .val (.int pL)] [(.int (2 : Int32)), (.int pL)])) _
      refine XS.icmpNo X97.here hx rfl (hb hby d1_60) rfl (flt hc60_98).1 ?_
      show Steps p.tables e below (T97.setTop (mkF m 63 #[.val (.ref a1), .val (.int pL)] [])) _
      refine XS.iconst X97.here hx rfl (hb hby d1_63) ?_
      show Steps p.tables e below (T97.setTop (mkF m 64 #[.val (.ref a1), .val (.int pL)] [(.int (1 : Int32))])) _
      refine XS.goto X97.here hx rfl (pc0 := 64) (pc' := 68) rfl (hb hby d1_64) (by decide) (by decide) ?_
      show Steps p.tables e below (T97.setTop (mkF m 68 #[.val (.ref a1), .val (.int pL)] [(.int (1 : Int32))])) _
      exact retN X97 hx (t := .boolean) Bd.returns (by simp) (hb hby d1_68) hr
    · show own_Pure (some (.int r)) h0 n0 _ T97.heap _
      rw [e97]
      exact ⟨by rw [← hres]; simp only [if_neg hc60_98], N97, rfl⟩
theorem d1_69 : decode prog_24_method_6_code 69 = .ok (.iconst 1, 1) := by decide +kernel
theorem d1_70 : decode prog_24_method_6_code 70 = .ok (.ireturn, 1) := by decide +kernel
theorem ef_rm_acc_OCTETS (m : MethodId) (x0 : Addr) (x1 : Int32) : entryFrame m #[(.ref x0), (.int x1)] 2 = mkF m 0 #[.val (.ref x0), .val (.int x1)] [] := by first | (simp [entryFrame, mkF, argsToLocals, Value.category]; done) | rfl
set_option maxRecDepth 65536 in
set_option maxHeartbeats 40000000 in
theorem rm_acc_OCTETS (l : Launch) (Z : State) (a0 : Array Value) (hw : ∀ d ∈ tables_1, d.before a0 Z = true) (ws : List Jvm.Cond) (a1 : Addr) (pL : Int32) (h0 : Heap) (n0 : Nat) (Z0 : n0 ≤ h0.size) (sh : Addr) (F1 : Fld Z h0 a1 "com/example/parley/parley/message/AttributeType" "shape" "Lcom/example/parley/parley/message/AttributeType$Shape;" (.ref sh)) (E1 : Exa Z h0 sh "com/example/parley/parley/message/AttributeType$Shape") (F2 : Fld Z h0 sh "java/lang/Enum" "ordinal" "I" (.int (2 : Int32))) :
    MetFree l (⟨"com/example/parley/parley/message/AttributeType", "accepts", "(I)Z"⟩ : MethodName) (head1 (Jvm.Cond.code (⟨"com/example/parley/parley/message/AttributeType", "accepts", "(I)Z"⟩ : MethodName) prog_24_method_6_code 2 (some .boolean) :: ws) ({ frames := 1, cells := 0, slots := 0, locals := 12 } : Room)) (fun aQ UQ => aQ = #[(.ref a1), (.int pL)] ∧ Z.Warmed39 UQ.vm ∧ UQ.heap = h0) (fun _ _ _ _ _ => True) (fun _ UQ oQ UR => ∃ vQ LQ, oQ = .returned vQ ∧ own_Pure (some (.int 1)) h0 n0 vQ UR.heap LQ ∧ FrameEnd UQ oQ UR LQ ({ frames := 1, cells := 0, slots := 0, locals := 12 } : Room).cells ({ frames := 1, cells := 0, slots := 0, locals := 12 } : Room).slots) := by
  refine MetFree.of_bodySF (plainFor_of_name pn_16) hisR ?_
  intro p e s m args below meth c s₁ Bd hml0 hP hK
  obtain ⟨rfl, hZ, hh⟩ := hP
  have hx := Bd.exec
  have hby := Bd.bytes
  have hml : c.maxLocals = 2 := hml0
  have hown : s.vm.findClass "com/example/parley/parley/message/AttributeType" = some m.cls := findClass_of_methodNamed Bd.named
  have hnm := (name_of_methodNamed Bd.named Bd.method).1
  have X0 : Stand p l e ({ frames := 1, cells := 0, slots := 0, locals := 12 } : Room) s m #[(.ref a1), (.int pL)] below meth c s₁ [] 0 0 := Stand.of_body Bd
  have e0 : s₁.heap = h0 := by rw [← hh, Bd.state]; rfl
  have N0 := Fr.nil n0
  have pre0 : ∀ t, Steps p.tables e below (s₁.setTop (mkF m 0 #[.val (.ref a1), .val (.int pL)] [])) t → Steps p.tables e below (s₁.setTop (entryFrame m #[(.ref a1), (.int pL)] 2)) t := fun t kq => castTop (ef_rm_acc_OCTETS m a1 pL) kq
  obtain ⟨T100, X100, e100, st100⟩ := getF X0 hx hZ hown (host := "") (Or.inl (hw _ (List.mem_of_getElem? (i := 46) rfl))) Via.refl e0 F1 (g := (mkF m 1 #[.val (.ref a1), .val (.int pL)] [(.ref a1)])) rfl rfl (hb hby d1_1)
  obtain ⟨cq101, kq101, q101a, q101b, q101c⟩ := isOf hZ e100 (E1)
  obtain ⟨_, _, ⟨T101, L101, k101, n101⟩, -, X101, ⟨Lc101, hQ101, l101, y101, z101⟩, st101⟩ := X100.virtualBackUp hx (owner := "java/lang/Enum") (x := (⟨"com/example/parley/parley/message/AttributeType$Shape", "ordinal", "()I"⟩ : MethodName)) (y := (⟨"java/lang/Enum", "ordinal", "()I"⟩ : MethodName)) hown (mvT hZ (hw _ (List.mem_of_getElem? (i := 50) rfl))) (mvT hZ (hw _ (List.mem_of_getElem? (i := 51) rfl))) (mvT hZ (hw _ (List.mem_of_getElem? (i := 52) rfl))) (by decide) (mvT hZ (hw _ (List.mem_of_getElem? (i := 54) rfl))) (mvT hZ (hw _ (List.mem_of_getElem? (i := 53) rfl))) (backOf (W := 0) (rm_ord l Z a0 hw [] sh h0 n0 Z0 (2 : Int32) F2) hZ (hw _ (List.mem_of_getElem? (i := 56) rfl)) (hw _ (List.mem_of_getElem? (i := 55) rfl)) (by decide) (by decide)) q101a q101c (g := (mkF m 4 #[.val (.ref a1), .val (.int pL)] [(.ref sh)])) rfl (by rw [hml]; rfl) (Steps.refl _) (argsL := []) (rest := []) (lenOf pd_6 rfl) rfl (by show 2 * 0 + _ ≤ _; exact Nat.le_of_eq rfl) (hb hby d1_4) (fun _ _ => ⟨rfl, e100, (by decide : 0 + 0 ≤ _), (by decide : 0 + 0 ≤ _)⟩)
  dsimp only [Pt.U, Pt.locs, Pt.cells, Pt.slots] at X101 l101 y101 z101 st101 hQ101
  subst l101 y101 z101
  obtain ⟨rfl, N101q, e101⟩ := hQ101
  have N101 := Fr.app N0 N101q
  obtain ⟨fs, hr, hrun, hended, hW, hsame⟩ := X101.leave (v := some (.int (1 : Int32))) (fun h => by rw [Bd.returns] at h; cases h)
  refine ⟨_, _, pre0 _ ?_, hrun, hended, _, _, rfl, ?_, ⟨_, rfl⟩, hW, hsame.mono (by decide) (by decide)⟩
  · show Steps p.tables e below (s₁.setTop (mkF m 0 #[.val (.ref a1), .val (.int pL)] [])) _
    refine XS.aloadN X0.here hx rfl (hb hby d1_0) rfl rfl ?_
    show Steps p.tables e below (s₁.setTop (mkF m 1 #[.val (.ref a1), .val (.int pL)] [(.ref a1)])) _
    refine st100 _ ?_
    show Steps p.tables e below (T100.setTop (mkF m 4 #[.val (.ref a1), .val (.int pL)] [(.ref sh)])) _
    refine st101.trans ?_
    show Steps p.tables e below (T101.setTop (mkF m 7 #[.val (.ref a1), .val (.int pL)] [(.int (2 : Int32))])) _
    refine X101.tableswitchIn hx (g := (mkF m 7 #[.val (.ref a1), .val (.int pL)] [(.int (2 : Int32))])) rfl rfl (hb hby d1_7) (by decide) (off := 62) (by first | rfl | decide +kernel) (by show (0 : Int) ≤ ((7 : Nat) : Int) + 62; decide) _ ?_
    show Steps p.tables e below (T101.setTop (mkF m 69 #[.val (.ref a1), .val (.int pL)] [])) _
    refine XS.iconst X101.here hx rfl (hb hby d1_69) ?_
    show Steps p.tables e below (T101.setTop (mkF m 70 #[.val (.ref a1), .val (.int pL)] [(.int (1 : Int32))])) _
    exact retN X101 hx (t := .boolean) Bd.returns (by simp) (hb hby d1_70) hr
  · show own_Pure (some (.int 1)) h0 n0 _ T101.heap _
    rw [e101]
    exact ⟨rfl, N101, rfl⟩
theorem pd_33 : parseMethodDescriptor "(I)Z" = some ⟨[.int], some .boolean⟩ := by decide +kernel
theorem pn_34 : plainName "com/example/parley/parley/message/AttributeTypeAcceptsPinLaw" = true := by first | (simp [plainName, overriddenIn]; done) | decide +kernel
theorem ef_rm_law (m : MethodId) (x0 : Int32) (x1 : Int32) : entryFrame m #[(.int x0), (.int x1)] maxLocals = mkF m 0 #[.val (.int x0), .val (.int x1), .unset, .unset, .unset, .unset, .unset] [] := by first | (simp [entryFrame, mkF, argsToLocals, Value.category, maxLocals]; done) | rfl
set_option maxRecDepth 65536 in
set_option maxHeartbeats 40000000 in
theorem rm_law (l : Launch) (Z : State) (a0 : Array Value) (hw : ∀ d ∈ tables_1, d.before a0 Z = true) (ws : List Jvm.Cond) (p0 : Int32) (p1 : Int32) (h0 : Heap) (n0 : Nat) (Z0 : n0 ≤ h0.size) (w_BENEFICIARY_ID w_FLOOR_ID w_FLOOR_REQUEST_ID w_PRIORITY w_REQUEST_STATUS w_ERROR_CODE w_ERROR_INFO w_PARTICIPANT_PROVIDED_INFO w_STATUS_INFO w_SUPPORTED_ATTRIBUTES w_SUPPORTED_PRIMITIVES w_USER_DISPLAY_NAME w_USER_URI w_BENEFICIARY_INFORMATION w_FLOOR_REQUEST_INFORMATION w_REQUESTED_BY_INFORMATION w_FLOOR_REQUEST_STATUS w_OVERALL_REQUEST_STATUS w_SIXTEEN_BITS w_GROUPED w_OCTETS w_NON_EMPTY : Addr) (hWd : own_W Z h0 w_BENEFICIARY_ID w_FLOOR_ID w_FLOOR_REQUEST_ID w_PRIORITY w_REQUEST_STATUS w_ERROR_CODE w_ERROR_INFO w_PARTICIPANT_PROVIDED_INFO w_STATUS_INFO w_SUPPORTED_ATTRIBUTES w_SUPPORTED_PRIMITIVES w_USER_DISPLAY_NAME w_USER_URI w_BENEFICIARY_INFORMATION w_FLOOR_REQUEST_INFORMATION w_REQUESTED_BY_INFORMATION w_FLOOR_REQUEST_STATUS w_OVERALL_REQUEST_STATUS w_SIXTEEN_BITS w_GROUPED w_OCTETS w_NON_EMPTY) :
    MetFree l x (head1 (Jvm.Cond.code x code maxLocals ret :: ws) room_1) (fun aQ UQ => aQ = #[(.int p0), (.int p1)] ∧ Z.Warmed39 UQ.vm ∧ UQ.heap = h0) (fun _ _ _ _ _ => True) (fun _ UQ oQ UR => ∃ vQ LQ, oQ = .returned vQ ∧ own_Made (some (.int 1)) n0 vQ UR.heap LQ ∧ FrameEnd UQ oQ UR LQ room_1.cells room_1.slots) := by
  refine MetFree.of_bodySF (plainFor_of_name pn_34) hisR ?_
  intro p e s m args below meth c s₁ Bd hml0 hP hK
  obtain ⟨rfl, hZ, hh⟩ := hP
  have hx := Bd.exec
  have hby := Bd.bytes
  have hml : c.maxLocals = 7 := hml0
  have hown : s.vm.findClass "com/example/parley/parley/message/AttributeTypeAcceptsPinLaw" = some m.cls := findClass_of_methodNamed Bd.named
  have hnm := (name_of_methodNamed Bd.named Bd.method).1
  have X0 : Stand p l e room_1 s m #[(.int p0), (.int p1)] below meth c s₁ [] 0 0 := Stand.of_body Bd
  have e0 : s₁.heap = h0 := by rw [← hh, Bd.state]; rfl
  have N0 := Fr.nil n0
  have pre0 : ∀ t, Steps p.tables e below (s₁.setTop (mkF m 0 #[.val (.int p0), .val (.int p1), .unset, .unset, .unset, .unset, .unset] [])) t → Steps p.tables e below (s₁.setTop (entryFrame m #[(.int p0), (.int p1)] maxLocals)) t := fun t kq => castTop (ef_rm_law m p0 p1) kq
  have hWd' := hWd
  obtain ⟨S_BENEFICIARY_ID, E_BENEFICIARY_ID, F_BENEFICIARY_ID_shape, S_FLOOR_ID, E_FLOOR_ID, F_FLOOR_ID_shape, S_FLOOR_REQUEST_ID, E_FLOOR_REQUEST_ID, F_FLOOR_REQUEST_ID_shape, S_PRIORITY, E_PRIORITY, F_PRIORITY_shape, S_REQUEST_STATUS, E_REQUEST_STATUS, F_REQUEST_STATUS_shape, S_ERROR_CODE, E_ERROR_CODE, F_ERROR_CODE_shape, S_ERROR_INFO, E_ERROR_INFO, F_ERROR_INFO_shape, S_PARTICIPANT_PROVIDED_INFO, E_PARTICIPANT_PROVIDED_INFO, F_PARTICIPANT_PROVIDED_INFO_shape, S_STATUS_INFO, E_STATUS_INFO, F_STATUS_INFO_shape, S_SUPPORTED_ATTRIBUTES, E_SUPPORTED_ATTRIBUTES, F_SUPPORTED_ATTRIBUTES_shape, S_SUPPORTED_PRIMITIVES, E_SUPPORTED_PRIMITIVES, F_SUPPORTED_PRIMITIVES_shape, S_USER_DISPLAY_NAME, E_USER_DISPLAY_NAME, F_USER_DISPLAY_NAME_shape, S_USER_URI, E_USER_URI, F_USER_URI_shape, S_BENEFICIARY_INFORMATION, E_BENEFICIARY_INFORMATION, F_BENEFICIARY_INFORMATION_shape, S_FLOOR_REQUEST_INFORMATION, E_FLOOR_REQUEST_INFORMATION, F_FLOOR_REQUEST_INFORMATION_shape, S_REQUESTED_BY_INFORMATION, E_REQUESTED_BY_INFORMATION, F_REQUESTED_BY_INFORMATION_shape, S_FLOOR_REQUEST_STATUS, E_FLOOR_REQUEST_STATUS, F_FLOOR_REQUEST_STATUS_shape, S_OVERALL_REQUEST_STATUS, E_OVERALL_REQUEST_STATUS, F_OVERALL_REQUEST_STATUS_shape, S_SIXTEEN_BITS, E_SIXTEEN_BITS, F_SIXTEEN_BITS_ordinal, S_GROUPED, E_GROUPED, F_GROUPED_ordinal, S_OCTETS, E_OCTETS, F_OCTETS_ordinal, S_NON_EMPTY, E_NON_EMPTY, F_NON_EMPTY_ordinal⟩ := hWd'
  obtain ⟨T102, h102, k102, X102, e102, E102, A102, O102, st102⟩ := newR X0 hx hZ hown (hw _ (List.mem_of_getElem? (i := 0) rfl)) (hw _ (List.mem_of_getElem? (i := 1) rfl)) e0 (g := (mkF m 2 #[.val (.int p0), .val (.int p1), .unset, .unset, .unset, .unset, .unset] [(.int (18 : Int32))])) rfl (hb hby at_2) rfl (by decide) (cap := 18) (by decide) (by decide) (by decide) (by decide)
  obtain ⟨b102, g102⟩ : ∃ z, z = h0.size := ⟨_, rfl⟩
  rw [← g102] at A102 st102
  have sz_b102 : h0.size ≤ b102 := Nat.le_trans (Keep.refl h0 []).1 (Nat.le_of_eq g102.symm)
  have gn_b102 : n0 ≤ b102 := Nat.le_trans Z0 sz_b102
  have EX102 := own_ext_trans (own_ext_refl h0) E102
  have KP102 := Keep.ext (Keep.refl h0 []) E102
  have V102 : Arv Z h102 b102 k102 (.object "com/example/parley/parley/message/AttributeType") (18 : Int32) [.null, .null, .null, .null, .null, .null, .null, .null, .null, .null, .null, .null, .null, .null, .null, .null, .null, .null] .null := (Arv.new A102 (by decide)).pad (pad_rep [] .null 18)
  obtain ⟨T103, X103, e103, st103⟩ := getS2 X102 hx hZ hown (host := "") (Or.inl (hw _ (List.mem_of_getElem? (i := 2) rfl))) Via.refl e102 (S_BENEFICIARY_ID.ext EX102) (g := (mkF m 7 #[.val (.int p0), .val (.int p1), .unset, .unset, .unset, .unset, .unset] [(.int (0 : Int32)), (.ref b102), (.ref b102)])) rfl (hb hby at_7)
  obtain ⟨cl104, Ar104, q104, S104, N104_, H104_, G104⟩ := V102
  have hin104 : ¬ ((0 : Int32) < 0 ∨ cl104.slots.size ≤ ((0 : Int32)).toNatClampNeg) := inb_of S104 ⟨by decide, by decide⟩
  obtain ⟨T105, h105, X105, e105, W105, st105⟩ := stR X103 hx hZ e103 Ar104 (j := (0 : Int32)) hin104 rfl (Sto.ofV Ar104 q104 O102 (Ins.self (E_BENEFICIARY_ID.ext EX102))) (g := (mkF m 10 #[.val (.int p0), .val (.int p1), .unset, .unset, .unset, .unset, .unset] [(.ref w_BENEFICIARY_ID), (.int (0 : Int32)), (.ref b102), (.ref b102)])) rfl rfl (hb hby at_10)
  have EX105 := own_ext_wr EX102 W105 sz_b102
  have KP105 := Keep.wr KP102 W105 (Or.inr sz_b102)
  have V105 : Arv Z h105 b102 k102 (.object "com/example/parley/parley/message/AttributeType") (18 : Int32) [(.ref w_BENEFICIARY_ID), .null, .null, .null, .null, .null, .null, .null, .null, .null, .null, .null, .null, .null, .null, .null, .null, .null] .null := Arv.set Ar104 q104 S104 N104_ H104_ G104 rfl W105 0 rfl (Nat.le_of_ble_eq_true rfl)
  have N105 := Fr.snoc X105 N0 gn_b102
  obtain ⟨T106, X106, e106, st106⟩ := getS2 X105 hx hZ hown (host := "") (Or.inl (hw _ (List.mem_of_getElem? (i := 6) rfl))) Via.refl e105 (S_FLOOR_ID.ext EX105) (g := (mkF m 13 #[.val (.int p0), .val (.int p1), .unset, .unset, .unset, .unset, .unset] [(.int (1 : Int32)), (.ref b102), (.ref b102)])) rfl (hb hby at_13)
  obtain ⟨cl107, Ar107, q107, S107, N107_, H107_, G107⟩ := V105
  have hin107 : ¬ ((1 : Int32) < 0 ∨ cl107.slots.size ≤ ((1 : Int32)).toNatClampNeg) := inb_of S107 ⟨by decide, by decide⟩
  obtain ⟨T108, h108, X108, e108, W108, st108⟩ := stR X106 hx hZ e106 Ar107 (j := (1 : Int32)) hin107 rfl (Sto.ofV Ar107 q107 O102 (Ins.self (E_FLOOR_ID.ext EX105))) (g := (mkF m 16 #[.val (.int p0), .val (.int p1), .unset, .unset, .unset, .unset, .unset] [(.ref w_FLOOR_ID), (.int (1 : Int32)), (.ref b102), (.ref b102)])) rfl rfl (hb hby at_16)
  have EX108 := own_ext_wr EX105 W108 sz_b102
  have KP108 := Keep.wr KP105 W108 (Or.inr sz_b102)
  have V108 : Arv Z h108 b102 k102 (.object "com/example/parley/parley/message/AttributeType") (18 : Int32) [(.ref w_BENEFICIARY_ID), (.ref w_FLOOR_ID), .null, .null, .null, .null, .null, .null, .null, .null, .null, .null, .null, .null, .null, .null, .null, .null] .null := Arv.set Ar107 q107 S107 N107_ H107_ G107 rfl W108 1 rfl (Nat.le_of_ble_eq_true rfl)
  have N108 := Fr.snoc X108 N105 gn_b102
  obtain ⟨T109, X109, e109, st109⟩ := getS2 X108 hx hZ hown (host := "") (Or.inl (hw _ (List.mem_of_getElem? (i := 8) rfl))) Via.refl e108 (S_FLOOR_REQUEST_ID.ext EX108) (g := (mkF m 19 #[.val (.int p0), .val (.int p1), .unset, .unset, .unset, .unset, .unset] [(.int (2 : Int32)), (.ref b102), (.ref b102)])) rfl (hb hby at_19)
  obtain ⟨cl110, Ar110, q110, S110, N110_, H110_, G110⟩ := V108
  have hin110 : ¬ ((2 : Int32) < 0 ∨ cl110.slots.size ≤ ((2 : Int32)).toNatClampNeg) := inb_of S110 ⟨by decide, by decide⟩
  obtain ⟨T111, h111, X111, e111, W111, st111⟩ := stR X109 hx hZ e109 Ar110 (j := (2 : Int32)) hin110 rfl (Sto.ofV Ar110 q110 O102 (Ins.self (E_FLOOR_REQUEST_ID.ext EX108))) (g := (mkF m 22 #[.val (.int p0), .val (.int p1), .unset, .unset, .unset, .unset, .unset] [(.ref w_FLOOR_REQUEST_ID), (.int (2 : Int32)), (.ref b102), (.ref b102)])) rfl rfl (hb hby at_22)
  have EX111 := own_ext_wr EX108 W111 sz_b102
  have KP111 := Keep.wr KP108 W111 (Or.inr sz_b102)
  have V111 : Arv Z h111 b102 k102 (.object "com/example/parley/parley/message/AttributeType") (18 : Int32) [(.ref w_BENEFICIARY_ID), (.ref w_FLOOR_ID), (.ref w_FLOOR_REQUEST_ID), .null, .null, .null, .null, .null, .null, .null, .null, .null, .null, .null, .null, .null, .null, .null] .null := Arv.set Ar110 q110 S110 N110_ H110_ G110 rfl W111 2 rfl (Nat.le_of_ble_eq_true rfl)
  have N111 := Fr.snoc X111 N108 gn_b102
  obtain ⟨T112, X112, e112, st112⟩ := getS2 X111 hx hZ hown (host := "") (Or.inl (hw _ (List.mem_of_getElem? (i := 10) rfl))) Via.refl e111 (S_PRIORITY.ext EX111) (g := (mkF m 25 #[.val (.int p0), .val (.int p1), .unset, .unset, .unset, .unset, .unset] [(.int (3 : Int32)), (.ref b102), (.ref b102)])) rfl (hb hby at_25)
  obtain ⟨cl113, Ar113, q113, S113, N113_, H113_, G113⟩ := V111
  have hin113 : ¬ ((3 : Int32) < 0 ∨ cl113.slots.size ≤ ((3 : Int32)).toNatClampNeg) := inb_of S113 ⟨by decide, by decide⟩
  obtain ⟨T114, h114, X114, e114, W114, st114⟩ := stR X112 hx hZ e112 Ar113 (j := (3 : Int32)) hin113 rfl (Sto.ofV Ar113 q113 O102 (Ins.self (E_PRIORITY.ext EX111))) (g := (mkF m 28 #[.val (.int p0), .val (.int p1), .unset, .unset, .unset, .unset, .unset] [(.ref w_PRIORITY), (.int (3 : Int32)), (.ref b102), (.ref b102)])) rfl rfl (hb hby at_28)
  have EX114 := own_ext_wr EX111 W114 sz_b102
  have KP114 := Keep.wr KP111 W114 (Or.inr sz_b102)
  have V114 : Arv Z h114 b102 k102 (.object "com/example/parley/parley/message/AttributeType") (18 : Int32) [(.ref w_BENEFICIARY_ID), (.ref w_FLOOR_ID), (.ref w_FLOOR_REQUEST_ID), (.ref w_PRIORITY), .null, .null, .null, .null, .null, .null, .null, .null, .null, .null, .null, .null, .null, .null] .null := Arv.set Ar113 q113 S113 N113_ H113_ G113 rfl W114 3 rfl (Nat.le_of_ble_eq_true rfl)
  have N114 := Fr.snoc X114 N111 gn_b102
  obtain ⟨T115, X115, e115, st115⟩ := getS2 X114 hx hZ hown (host := "") (Or.inl (hw _ (List.mem_of_getElem? (i := 12) rfl))) Via.refl e114 (S_REQUEST_STATUS.ext EX114) (g := (mkF m 31 #[.val (.int p0), .val (.int p1), .unset, .unset, .unset, .unset, .unset] [(.int (4 : Int32)), (.ref b102), (.ref b102)])) rfl (hb hby at_31)
  obtain ⟨cl116, Ar116, q116, S116, N116_, H116_, G116⟩ := V114
  have hin116 : ¬ ((4 : Int32) < 0 ∨ cl116.slots.size ≤ ((4 : Int32)).toNatClampNeg) := inb_of S116 ⟨by decide, by decide⟩
  obtain ⟨T117, h117, X117, e117, W117, st117⟩ := stR X115 hx hZ e115 Ar116 (j := (4 : Int32)) hin116 rfl (Sto.ofV Ar116 q116 O102 (Ins.self (E_REQUEST_STATUS.ext EX114))) (g := (mkF m 34 #[.val (.int p0), .val (.int p1), .unset, .unset, .unset, .unset, .unset] [(.ref w_REQUEST_STATUS), (.int (4 : Int32)), (.ref b102), (.ref b102)])) rfl rfl (hb hby at_34)
  have EX117 := own_ext_wr EX114 W117 sz_b102
  have KP117 := Keep.wr KP114 W117 (Or.inr sz_b102)
  have V117 : Arv Z h117 b102 k102 (.object "com/example/parley/parley/message/AttributeType") (18 : Int32) [(.ref w_BENEFICIARY_ID), (.ref w_FLOOR_ID), (.ref w_FLOOR_REQUEST_ID), (.ref w_PRIORITY), (.ref w_REQUEST_STATUS), .null, .null, .null, .null, .null, .null, .null, .null, .null, .null, .null, .null, .null] .null := Arv.set Ar116 q116 S116 N116_ H116_ G116 rfl W117 4 rfl (Nat.le_of_ble_eq_true rfl)
  have N117 := Fr.snoc X117 N114 gn_b102
  obtain ⟨T118, X118, e118, st118⟩ := getS2 X117 hx hZ hown (host := "") (Or.inl (hw _ (List.mem_of_getElem? (i := 14) rfl))) Via.refl e117 (S_ERROR_CODE.ext EX117) (g := (mkF m 37 #[.val (.int p0), .val (.int p1), .unset, .unset, .unset, .unset, .unset] [(.int (5 : Int32)), (.ref b102), (.ref b102)])) rfl (hb hby at_37)
  obtain ⟨cl119, Ar119, q119, S119, N119_, H119_, G119⟩ := V117
  have hin119 : ¬ ((5 : Int32) < 0 ∨ cl119.slots.size ≤ ((5 : Int32)).toNatClampNeg) := inb_of S119 ⟨by decide, by decide⟩
  obtain ⟨T120, h120, X120, e120, W120, st120⟩ := stR X118 hx hZ e118 Ar119 (j := (5 : Int32)) hin119 rfl (Sto.ofV Ar119 q119 O102 (Ins.self (E_ERROR_CODE.ext EX117))) (g := (mkF m 40 #[.val (.int p0), .val (.int p1), .unset, .unset, .unset, .unset, .unset] [(.ref w_ERROR_CODE), (.int (5 : Int32)), (.ref b102), (.ref b102)])) rfl rfl (hb hby at_40)
  have EX120 := own_ext_wr EX117 W120 sz_b102
  have KP120 := Keep.wr KP117 W120 (Or.inr sz_b102)
  have V120 : Arv Z h120 b102 k102 (.object "com/example/parley/parley/message/AttributeType") (18 : Int32) [(.ref w_BENEFICIARY_ID), (.ref w_FLOOR_ID), (.ref w_FLOOR_REQUEST_ID), (.ref w_PRIORITY), (.ref w_REQUEST_STATUS), (.ref w_ERROR_CODE), .null, .null, .null, .null, .null, .null, .null, .null, .null, .null, .null, .null] .null := Arv.set Ar119 q119 S119 N119_ H119_ G119 rfl W120 5 rfl (Nat.le_of_ble_eq_true rfl)
  have N120 := Fr.snoc X120 N117 gn_b102
  obtain ⟨T121, X121, e121, st121⟩ := getS2 X120 hx hZ hown (host := "") (Or.inl (hw _ (List.mem_of_getElem? (i := 16) rfl))) Via.refl e120 (S_ERROR_INFO.ext EX120) (g := (mkF m 44 #[.val (.int p0), .val (.int p1), .unset, .unset, .unset, .unset, .unset] [(.int (6 : Int32)), (.ref b102), (.ref b102)])) rfl (hb hby at_44)
  obtain ⟨cl122, Ar122, q122, S122, N122_, H122_, G122⟩ := V120
  have hin122 : ¬ ((6 : Int32) < 0 ∨ cl122.slots.size ≤ ((6 : Int32)).toNatClampNeg) := inb_of S122 ⟨by decide, by decide⟩
  obtain ⟨T123, h123, X123, e123, W123, st123⟩ := stR X121 hx hZ e121 Ar122 (j := (6 : Int32)) hin122 rfl (Sto.ofV Ar122 q122 O102 (Ins.self (E_ERROR_INFO.ext EX120))) (g := (mkF m 47 #[.val (.int p0), .val (.int p1), .unset, .unset, .unset, .unset, .unset] [(.ref w_ERROR_INFO), (.int (6 : Int32)), (.ref b102), (.ref b102)])) rfl rfl (hb hby at_47)
  have EX123 := own_ext_wr EX120 W123 sz_b102
  have KP123 := Keep.wr KP120 W123 (Or.inr sz_b102)
  have V123 : Arv Z h123 b102 k102 (.object "com/example/parley/parley/message/AttributeType") (18 : Int32) [(.ref w_BENEFICIARY_ID), (.ref w_FLOOR_ID), (.ref w_FLOOR_REQUEST_ID), (.ref w_PRIORITY), (.ref w_REQUEST_STATUS), (.ref w_ERROR_CODE), (.ref w_ERROR_INFO), .null, .null, .null, .null, .null, .null, .null, .null, .null, .null, .null] .null := Arv.set Ar122 q122 S122 N122_ H122_ G122 rfl W123 6 rfl (Nat.le_of_ble_eq_true rfl)
  have N123 := Fr.snoc X123 N120 gn_b102
  obtain ⟨T124, X124, e124, st124⟩ := getS2 X123 hx hZ hown (host := "") (Or.inl (hw _ (List.mem_of_getElem? (i := 18) rfl))) Via.refl e123 (S_PARTICIPANT_PROVIDED_INFO.ext EX123) (g := (mkF m 51 #[.val (.int p0), .val (.int p1), .unset, .unset, .unset, .unset, .unset] [(.int (7 : Int32)), (.ref b102), (.ref b102)])) rfl (hb hby at_51)
  obtain ⟨cl125, Ar125, q125, S125, N125_, H125_, G125⟩ := V123
  have hin125 : ¬ ((7 : Int32) < 0 ∨ cl125.slots.size ≤ ((7 : Int32)).toNatClampNeg) := inb_of S125 ⟨by decide, by decide⟩
  obtain ⟨T126, h126, X126, e126, W126, st126⟩ := stR X124 hx hZ e124 Ar125 (j := (7 : Int32)) hin125 rfl (Sto.ofV Ar125 q125 O102 (Ins.self (E_PARTICIPANT_PROVIDED_INFO.ext EX123))) (g := (mkF m 54 #[.val (.int p0), .val (.int p1), .unset, .unset, .unset, .unset, .unset] [(.ref w_PARTICIPANT_PROVIDED_INFO), (.int (7 : Int32)), (.ref b102), (.ref b102)])) rfl rfl (hb hby at_54)
  have EX126 := own_ext_wr EX123 W126 sz_b102
  have KP126 := Keep.wr KP123 W126 (Or.inr sz_b102)
  have V126 : Arv Z h126 b102 k102 (.object "com/example/parley/parley/message/AttributeType") (18 : Int32) [(.ref w_BENEFICIARY_ID), (.ref w_FLOOR_ID), (.ref w_FLOOR_REQUEST_ID), (.ref w_PRIORITY), (.ref w_REQUEST_STATUS), (.ref w_ERROR_CODE), (.ref w_ERROR_INFO), (.ref w_PARTICIPANT_PROVIDED_INFO), .null, .null, .null, .null, .null, .null, .null, .null, .null, .null] .null := Arv.set Ar125 q125 S125 N125_ H125_ G125 rfl W126 7 rfl (Nat.le_of_ble_eq_true rfl)
  have N126 := Fr.snoc X126 N123 gn_b102
  obtain ⟨T127, X127, e127, st127⟩ := getS2 X126 hx hZ hown (host := "") (Or.inl (hw _ (List.mem_of_getElem? (i := 20) rfl))) Via.refl e126 (S_STATUS_INFO.ext EX126) (g := (mkF m 58 #[.val (.int p0), .val (.int p1), .unset, .unset, .unset, .unset, .unset] [(.int (8 : Int32)), (.ref b102), (.ref b102)])) rfl (hb hby at_58)
  obtain ⟨cl128, Ar128, q128, S128, N128_, H128_, G128⟩ := V126
  have hin128 : ¬ ((8 : Int32) < 0 ∨ cl128.slots.size ≤ ((8 : Int32)).toNatClampNeg) := inb_of S128 ⟨by decide, by decide⟩
  obtain ⟨T129, h129, X129, e129, W129, st129⟩ := stR X127 hx hZ e127 Ar128 (j := (8 : Int32)) hin128 rfl (Sto.ofV Ar128 q128 O102 (Ins.self (E_STATUS_INFO.ext EX126))) (g := (mkF m 61 #[.val (.int p0), .val (.int p1), .unset, .unset, .unset, .unset, .unset] [(.ref w_STATUS_INFO), (.int (8 : Int32)), (.ref b102), (.ref b102)])) rfl rfl (hb hby at_61)
  have EX129 := own_ext_wr EX126 W129 sz_b102
  have KP129 := Keep.wr KP126 W129 (Or.inr sz_b102)
  have V129 : Arv Z h129 b102 k102 (.object "com/example/parley/parley/message/AttributeType") (18 : Int32) [(.ref w_BENEFICIARY_ID), (.ref w_FLOOR_ID), (.ref w_FLOOR_REQUEST_ID), (.ref w_PRIORITY), (.ref w_REQUEST_STATUS), (.ref w_ERROR_CODE), (.ref w_ERROR_INFO), (.ref w_PARTICIPANT_PROVIDED_INFO), (.ref w_STATUS_INFO), .null, .null, .null, .null, .null, .null, .null, .null, .null] .null := Arv.set Ar128 q128 S128 N128_ H128_ G128 rfl W129 8 rfl (Nat.le_of_ble_eq_true rfl)
  have N129 := Fr.snoc X129 N126 gn_b102
  obtain ⟨T130, X130, e130, st130⟩ := getS2 X129 hx hZ hown (host := "") (Or.inl (hw _ (List.mem_of_getElem? (i := 22) rfl))) Via.refl e129 (S_SUPPORTED_ATTRIBUTES.ext EX129) (g := (mkF m 65 #[.val (.int p0), .val (.int p1), .unset, .unset, .unset, .unset, .unset] [(.int (9 : Int32)), (.ref b102), (.ref b102)])) rfl (hb hby at_65)
  obtain ⟨cl131, Ar131, q131, S131, N131_, H131_, G131⟩ := V129
  have hin131 : ¬ ((9 : Int32) < 0 ∨ cl131.slots.size ≤ ((9 : Int32)).toNatClampNeg) := inb_of S131 ⟨by decide, by decide⟩
  obtain ⟨T132, h132, X132, e132, W132, st132⟩ := stR X130 hx hZ e130 Ar131 (j := (9 : Int32)) hin131 rfl (Sto.ofV Ar131 q131 O102 (Ins.self (E_SUPPORTED_ATTRIBUTES.ext EX129))) (g := (mkF m 68 #[.val (.int p0), .val (.int p1), .unset, .unset, .unset, .unset, .unset] [(.ref w_SUPPORTED_ATTRIBUTES), (.int (9 : Int32)), (.ref b102), (.ref b102)])) rfl rfl (hb hby at_68)
  have EX132 := own_ext_wr EX129 W132 sz_b102
  have KP132 := Keep.wr KP129 W132 (Or.inr sz_b102)
  have V132 : Arv Z h132 b102 k102 (.object "com/example/parley/parley/message/AttributeType") (18 : Int32) [(.ref w_BENEFICIARY_ID), (.ref w_FLOOR_ID), (.ref w_FLOOR_REQUEST_ID), (.ref w_PRIORITY), (.ref w_REQUEST_STATUS), (.ref w_ERROR_CODE), (.ref w_ERROR_INFO), (.ref w_PARTICIPANT_PROVIDED_INFO), (.ref w_STATUS_INFO), (.ref w_SUPPORTED_ATTRIBUTES), .null, .null, .null, .null, .null, .null, .null, .null] .null := Arv.set Ar131 q131 S131 N131_ H131_ G131 rfl W132 9 rfl (Nat.le_of_ble_eq_true rfl)
  have N132 := Fr.snoc X132 N129 gn_b102
  obtain ⟨T133, X133, e133, st133⟩ := getS2 X132 hx hZ hown (host := "") (Or.inl (hw _ (List.mem_of_getElem? (i := 24) rfl))) Via.refl e132 (S_SUPPORTED_PRIMITIVES.ext EX132) (g := (mkF m 72 #[.val (.int p0), .val (.int p1), .unset, .unset, .unset, .unset, .unset] [(.int (10 : Int32)), (.ref b102), (.ref b102)])) rfl (hb hby at_72)
  obtain ⟨cl134, Ar134, q134, S134, N134_, H134_, G134⟩ := V132
  have hin134 : ¬ ((10 : Int32) < 0 ∨ cl134.slots.size ≤ ((10 : Int32)).toNatClampNeg) := inb_of S134 ⟨by decide, by decide⟩
  obtain ⟨T135, h135, X135, e135, W135, st135⟩ := stR X133 hx hZ e133 Ar134 (j := (10 : Int32)) hin134 rfl (Sto.ofV Ar134 q134 O102 (Ins.self (E_SUPPORTED_PRIMITIVES.ext EX132))) (g := (mkF m 75 #[.val (.int p0), .val (.int p1), .unset, .unset, .unset, .unset, .unset] [(.ref w_SUPPORTED_PRIMITIVES), (.int (10 : Int32)), (.ref b102), (.ref b102)])) rfl rfl (hb hby at_75)
  have EX135 := own_ext_wr EX132 W135 sz_b102
  have KP135 := Keep.wr KP132 W135 (Or.inr sz_b102)
  have V135 : Arv Z h135 b102 k102 (.object "com/example/parley/parley/message/AttributeType") (18 : Int32) [(.ref w_BENEFICIARY_ID), (.ref w_FLOOR_ID), (.ref w_FLOOR_REQUEST_ID), (.ref w_PRIORITY), (.ref w_REQUEST_STATUS), (.ref w_ERROR_CODE), (.ref w_ERROR_INFO), (.ref w_PARTICIPANT_PROVIDED_INFO), (.ref w_STATUS_INFO), (.ref w_SUPPORTED_ATTRIBUTES), (.ref w_SUPPORTED_PRIMITIVES), .null, .null, .null, .null, .null, .null, .null] .null := Arv.set Ar134 q134 S134 N134_ H134_ G134 rfl W135 10 rfl (Nat.le_of_ble_eq_true rfl)
  have N135 := Fr.snoc X135 N132 gn_b102
  obtain ⟨T136, X136, e136, st136⟩ := getS2 X135 hx hZ hown (host := "") (Or.inl (hw _ (List.mem_of_getElem? (i := 26) rfl))) Via.refl e135 (S_USER_DISPLAY_NAME.ext EX135) (g := (mkF m 79 #[.val (.int p0), .val (.int p1), .unset, .unset, .unset, .unset, .unset] [(.int (11 : Int32)), (.ref b102), (.ref b102)])) rfl (hb hby at_79)
  obtain ⟨cl137, Ar137, q137, S137, N137_, H137_, G137⟩ := V135
  have hin137 : ¬ ((11 : Int32) < 0 ∨ cl137.slots.size ≤ ((11 : Int32)).toNatClampNeg) := inb_of S137 ⟨by decide, by decide⟩
  obtain ⟨T138, h138, X138, e138, W138, st138⟩ := stR X136 hx hZ e136 Ar137 (j := (11 : Int32)) hin137 rfl (Sto.ofV Ar137 q137 O102 (Ins.self (E_USER_DISPLAY_NAME.ext EX135))) (g := (mkF m 82 #[.val (.int p0), .val (.int p1), .unset, .unset, .unset, .unset, .unset] [(.ref w_USER_DISPLAY_NAME), (.int (11 : Int32)), (.ref b102), (.ref b102)])) rfl rfl (hb hby at_82)
  have EX138 := own_ext_wr EX135 W138 sz_b102
  have KP138 := Keep.wr KP135 W138 (Or.inr sz_b102)
  have V138 : Arv Z h138 b102 k102 (.object "com/example/parley/parley/message/AttributeType") (18 : Int32) [(.ref w_BENEFICIARY_ID), (.ref w_FLOOR_ID), (.ref w_FLOOR_REQUEST_ID), (.ref w_PRIORITY), (.ref w_REQUEST_STATUS), (.ref w_ERROR_CODE), (.ref w_ERROR_INFO), (.ref w_PARTICIPANT_PROVIDED_INFO), (.ref w_STATUS_INFO), (.ref w_SUPPORTED_ATTRIBUTES), (.ref w_SUPPORTED_PRIMITIVES), (.ref w_USER_DISPLAY_NAME), .null, .null, .null, .null, .null, .null] .null := Arv.set Ar137 q137 S137 N137_ H137_ G137 rfl W138 11 rfl (Nat.le_of_ble_eq_true rfl)
  have N138 := Fr.snoc X138 N135 gn_b102
  obtain ⟨T139, X139, e139, st139⟩ := getS2 X138 hx hZ hown (host := "") (Or.inl (hw _ (List.mem_of_getElem? (i := 28) rfl))) Via.refl e138 (S_USER_URI.ext EX138) (g := (mkF m 86 #[.val (.int p0), .val (.int p1), .unset, .unset, .unset, .unset, .unset] [(.int (12 : Int32)), (.ref b102), (.ref b102)])) rfl (hb hby at_86)
  obtain ⟨cl140, Ar140, q140, S140, N140_, H140_, G140⟩ := V138
  have hin140 : ¬ ((12 : Int32) < 0 ∨ cl140.slots.size ≤ ((12 : Int32)).toNatClampNeg) := inb_of S140 ⟨by decide, by decide⟩
  obtain ⟨T141, h141, X141, e141, W141, st141⟩ := stR X139 hx hZ e139 Ar140 (j := (12 : Int32)) hin140 rfl (Sto.ofV Ar140 q140 O102 (Ins.self (E_USER_URI.ext EX138))) (g := (mkF m 89 #[.val (.int p0), .val (.int p1), .unset, .unset, .unset, .unset, .unset] [(.ref w_USER_URI), (.int (12 : Int32)), (.ref b102), (.ref b102)])) rfl rfl (hb hby at_89)
  have EX141 := own_ext_wr EX138 W141 sz_b102
  have KP141 := Keep.wr KP138 W141 (Or.inr sz_b102)
  have V141 : Arv Z h141 b102 k102 (.object "com/example/parley/parley/message/AttributeType") (18 : Int32) [(.ref w_BENEFICIARY_ID), (.ref w_FLOOR_ID), (.ref w_FLOOR_REQUEST_ID), (.ref w_PRIORITY), (.ref w_REQUEST_STATUS), (.ref w_ERROR_CODE), (.ref w_ERROR_INFO), (.ref w_PARTICIPANT_PROVIDED_INFO), (.ref w_STATUS_INFO), (.ref w_SUPPORTED_ATTRIBUTES), (.ref w_SUPPORTED_PRIMITIVES), (.ref w_USER_DISPLAY_NAME), (.ref w_USER_URI), .null, .null, .null, .null, .null] .null := Arv.set Ar140 q140 S140 N140_ H140_ G140 rfl W141 12 rfl (Nat.le_of_ble_eq_true rfl)
  have N141 := Fr.snoc X141 N138 gn_b102
  obtain ⟨T142, X142, e142, st142⟩ := getS2 X141 hx hZ hown (host := "") (Or.inl (hw _ (List.mem_of_getElem? (i := 30) rfl))) Via.refl e141 (S_BENEFICIARY_INFORMATION.ext EX141) (g := (mkF m 93 #[.val (.int p0), .val (.int p1), .unset, .unset, .unset, .unset, .unset] [(.int (13 : Int32)), (.ref b102), (.ref b102)])) rfl (hb hby at_93)
  obtain ⟨cl143, Ar143, q143, S143, N143_, H143_, G143⟩ := V141
  have hin143 : ¬ ((13 : Int32) < 0 ∨ cl143.slots.size ≤ ((13 : Int32)).toNatClampNeg) := inb_of S143 ⟨by decide, by decide⟩
  obtain ⟨T144, h144, X144, e144, W144, st144⟩ := stR X142 hx hZ e142 Ar143 (j := (13 : Int32)) hin143 rfl (Sto.ofV Ar143 q143 O102 (Ins.self (E_BENEFICIARY_INFORMATION.ext EX141))) (g := (mkF m 96 #[.val (.int p0), .val (.int p1), .unset, .unset, .unset, .unset, .unset] [(.ref w_BENEFICIARY_INFORMATION), (.int (13 : Int32)), (.ref b102), (.ref b102)])) rfl rfl (hb hby at_96)
  have EX144 := own_ext_wr EX141 W144 sz_b102
  have KP144 := Keep.wr KP141 W144 (Or.inr sz_b102)
  have V144 : Arv Z h144 b102 k102 (.object "com/example/parley/parley/message/AttributeType") (18 : Int32) [(.ref w_BENEFICIARY_ID), (.ref w_FLOOR_ID), (.ref w_FLOOR_REQUEST_ID), (.ref w_PRIORITY), (.ref w_REQUEST_STATUS), (.ref w_ERROR_CODE), (.ref w_ERROR_INFO), (.ref w_PARTICIPANT_PROVIDED_INFO), (.ref w_STATUS_INFO), (.ref w_SUPPORTED_ATTRIBUTES), (.ref w_SUPPORTED_PRIMITIVES), (.ref w_USER_DISPLAY_NAME), (.ref w_USER_URI), (.ref w_BENEFICIARY_INFORMATION), .null, .null, .null, .null] .null := Arv.set Ar143 q143 S143 N143_ H143_ G143 rfl W144 13 rfl (Nat.le_of_ble_eq_true rfl)
  have N144 := Fr.snoc X144 N141 gn_b102
  obtain ⟨T145, X145, e145, st145⟩ := getS2 X144 hx hZ hown (host := "") (Or.inl (hw _ (List.mem_of_getElem? (i := 32) rfl))) Via.refl e144 (S_FLOOR_REQUEST_INFORMATION.ext EX144) (g := (mkF m 100 #[.val (.int p0), .val (.int p1), .unset, .unset, .unset, .unset, .unset] [(.int (14 : Int32)), (.ref b102), (.ref b102)])) rfl (hb hby at_100)
  obtain ⟨cl146, Ar146, q146, S146, N146_, H146_, G146⟩ := V144
  have hin146 : ¬ ((14 : Int32) < 0 ∨ cl146.slots.size ≤ ((14 : Int32)).toNatClampNeg) := inb_of S146 ⟨by decide, by decide⟩
  obtain ⟨T147, h147, X147, e147, W147, st147⟩ := stR X145 hx hZ e145 Ar146 (j := (14 : Int32)) hin146 rfl (Sto.ofV Ar146 q146 O102 (Ins.self (E_FLOOR_REQUEST_INFORMATION.ext EX144))) (g := (mkF m 103 #[.val (.int p0), .val (.int p1), .unset, .unset, .unset, .unset, .unset] [(.ref w_FLOOR_REQUEST_INFORMATION), (.int (14 : Int32)), (.ref b102), (.ref b102)])) rfl rfl (hb hby at_103)
  have EX147 := own_ext_wr EX144 W147 sz_b102
  have KP147 := Keep.wr KP144 W147 (Or.inr sz_b102)
  have V147 : Arv Z h147 b102 k102 (.object "com/example/parley/parley/message/AttributeType") (18 : Int32) [(.ref w_BENEFICIARY_ID), (.ref w_FLOOR_ID), (.ref w_FLOOR_REQUEST_ID), (.ref w_PRIORITY), (.ref w_REQUEST_STATUS), (.ref w_ERROR_CODE), (.ref w_ERROR_INFO), (.ref w_PARTICIPANT_PROVIDED_INFO), (.ref w_STATUS_INFO), (.ref w_SUPPORTED_ATTRIBUTES), (.ref w_SUPPORTED_PRIMITIVES), (.ref w_USER_DISPLAY_NAME), (.ref w_USER_URI), (.ref w_BENEFICIARY_INFORMATION), (.ref w_FLOOR_REQUEST_INFORMATION), .null, .null, .null] .null := Arv.set Ar146 q146 S146 N146_ H146_ G146 rfl W147 14 rfl (Nat.le_of_ble_eq_true rfl)
  have N147 := Fr.snoc X147 N144 gn_b102
  obtain ⟨T148, X148, e148, st148⟩ := getS2 X147 hx hZ hown (host := "") (Or.inl (hw _ (List.mem_of_getElem? (i := 34) rfl))) Via.refl e147 (S_REQUESTED_BY_INFORMATION.ext EX147) (g := (mkF m 107 #[.val (.int p0), .val (.int p1), .unset, .unset, .unset, .unset, .unset] [(.int (15 : Int32)), (.ref b102), (.ref b102)])) rfl (hb hby at_107)
  obtain ⟨cl149, Ar149, q149, S149, N149_, H149_, G149⟩ := V147
  have hin149 : ¬ ((15 : Int32) < 0 ∨ cl149.slots.size ≤ ((15 : Int32)).toNatClampNeg) := inb_of S149 ⟨by decide, by decide⟩
  obtain ⟨T150, h150, X150, e150, W150, st150⟩ := stR X148 hx hZ e148 Ar149 (j := (15 : Int32)) hin149 rfl (Sto.ofV Ar149 q149 O102 (Ins.self (E_REQUESTED_BY_INFORMATION.ext EX147))) (g := (mkF m 110 #[.val (.int p0), .val (.int p1), .unset, .unset, .unset, .unset, .unset] [(.ref w_REQUESTED_BY_INFORMATION), (.int (15 : Int32)), (.ref b102), (.ref b102)])) rfl rfl (hb hby at_110)
  have EX150 := own_ext_wr EX147 W150 sz_b102
  have KP150 := Keep.wr KP147 W150 (Or.inr sz_b102)
  have V150 : Arv Z h150 b102 k102 (.object "com/example/parley/parley/message/AttributeType") (18 : Int32) [(.ref w_BENEFICIARY_ID), (.ref w_FLOOR_ID), (.ref w_FLOOR_REQUEST_ID), (.ref w_PRIORITY), (.ref w_REQUEST_STATUS), (.ref w_ERROR_CODE), (.ref w_ERROR_INFO), (.ref w_PARTICIPANT_PROVIDED_INFO), (.ref w_STATUS_INFO), (.ref w_SUPPORTED_ATTRIBUTES), (.ref w_SUPPORTED_PRIMITIVES), (.ref w_USER_DISPLAY_NAME), (.ref w_USER_URI), (.ref w_BENEFICIARY_INFORMATION), (.ref w_FLOOR_REQUEST_INFORMATION), (.ref w_REQUESTED_BY_INFORMATION), .null, .null] .null := Arv.set Ar149 q149 S149 N149_ H149_ G149 rfl W150 15 rfl (Nat.le_of_ble_eq_true rfl)
  have N150 := Fr.snoc X150 N147 gn_b102
  obtain ⟨T151, X151, e151, st151⟩ := getS2 X150 hx hZ hown (host := "") (Or.inl (hw _ (List.mem_of_getElem? (i := 36) rfl))) Via.refl e150 (S_FLOOR_REQUEST_STATUS.ext EX150) (g := (mkF m 114 #[.val (.int p0), .val (.int p1), .unset, .unset, .unset, .unset, .unset] [(.int (16 : Int32)), (.ref b102), (.ref b102)])) rfl (hb hby at_114)
  obtain ⟨cl152, Ar152, q152, S152, N152_, H152_, G152⟩ := V150
  have hin152 : ¬ ((16 : Int32) < 0 ∨ cl152.slots.size ≤ ((16 : Int32)).toNatClampNeg) := inb_of S152 ⟨by decide, by decide⟩
  obtain ⟨T153, h153, X153, e153, W153, st153⟩ := stR X151 hx hZ e151 Ar152 (j := (16 : Int32)) hin152 rfl (Sto.ofV Ar152 q152 O102 (Ins.self (E_FLOOR_REQUEST_STATUS.ext EX150))) (g := (mkF m 117 #[.val (.int p0), .val (.int p1), .unset, .unset, .unset, .unset, .unset] [(.ref w_FLOOR_REQUEST_STATUS), (.int (16 : Int32)), (.ref b102), (.ref b102)])) rfl rfl (hb hby at_117)
  have EX153 := own_ext_wr EX150 W153 sz_b102
  have KP153 := Keep.wr KP150 W153 (Or.inr sz_b102)
  have V153 : Arv Z h153 b102 k102 (.object "com/example/parley/parley/message/AttributeType") (18 : Int32) [(.ref w_BENEFICIARY_ID), (.ref w_FLOOR_ID), (.ref w_FLOOR_REQUEST_ID), (.ref w_PRIORITY), (.ref w_REQUEST_STATUS), (.ref w_ERROR_CODE), (.ref w_ERROR_INFO), (.ref w_PARTICIPANT_PROVIDED_INFO), (.ref w_STATUS_INFO), (.ref w_SUPPORTED_ATTRIBUTES), (.ref w_SUPPORTED_PRIMITIVES), (.ref w_USER_DISPLAY_NAME), (.ref w_USER_URI), (.ref w_BENEFICIARY_INFORMATION), (.ref w_FLOOR_REQUEST_INFORMATION), (.ref w_REQUESTED_BY_INFORMATION), (.ref w_FLOOR_REQUEST_STATUS), .null] .null := Arv.set Ar152 q152 S152 N152_ H152_ G152 rfl W153 16 rfl (Nat.le_of_ble_eq_true rfl)
  have N153 := Fr.snoc X153 N150 gn_b102
  obtain ⟨T154, X154, e154, st154⟩ := getS2 X153 hx hZ hown (host := "") (Or.inl (hw _ (List.mem_of_getElem? (i := 38) rfl))) Via.refl e153 (S_OVERALL_REQUEST_STATUS.ext EX153) (g := (mkF m 121 #[.val (.int p0), .val (.int p1), .unset, .unset, .unset, .unset, .unset] [(.int (17 : Int32)), (.ref b102), (.ref b102)])) rfl (hb hby at_121)
  obtain ⟨cl155, Ar155, q155, S155, N155_, H155_, G155⟩ := V153
  have hin155 : ¬ ((17 : Int32) < 0 ∨ cl155.slots.size ≤ ((17 : Int32)).toNatClampNeg) := inb_of S155 ⟨by decide, by decide⟩
  obtain ⟨T156, h156, X156, e156, W156, st156⟩ := stR X154 hx hZ e154 Ar155 (j := (17 : Int32)) hin155 rfl (Sto.ofV Ar155 q155 O102 (Ins.self (E_OVERALL_REQUEST_STATUS.ext EX153))) (g := (mkF m 124 #[.val (.int p0), .val (.int p1), .unset, .unset, .unset, .unset, .unset] [(.ref w_OVERALL_REQUEST_STATUS), (.int (17 : Int32)), (.ref b102), (.ref b102)])) rfl rfl (hb hby at_124)
  have EX156 := own_ext_wr EX153 W156 sz_b102
  have KP156 := Keep.wr KP153 W156 (Or.inr sz_b102)
  have V156 : Arv Z h156 b102 k102 (.object "com/example/parley/parley/message/AttributeType") (18 : Int32) [(.ref w_BENEFICIARY_ID), (.ref w_FLOOR_ID), (.ref w_FLOOR_REQUEST_ID), (.ref w_PRIORITY), (.ref w_REQUEST_STATUS), (.ref w_ERROR_CODE), (.ref w_ERROR_INFO), (.ref w_PARTICIPANT_PROVIDED_INFO), (.ref w_STATUS_INFO), (.ref w_SUPPORTED_ATTRIBUTES), (.ref w_SUPPORTED_PRIMITIVES), (.ref w_USER_DISPLAY_NAME), (.ref w_USER_URI), (.ref w_BENEFICIARY_INFORMATION), (.ref w_FLOOR_REQUEST_INFORMATION), (.ref w_REQUESTED_BY_INFORMATION), (.ref w_FLOOR_REQUEST_STATUS), (.ref w_OVERALL_REQUEST_STATUS)] .null := Arv.set Ar155 q155 S155 N155_ H155_ G155 rfl W156 17 rfl (Nat.le_of_ble_eq_true rfl)
  have N156 := Fr.snoc X156 N153 gn_b102
  have ck157 : ∀ t, Steps p.tables e below (T156.setTop (mkF m 133 #[.val (.int p0), .val (.int p1), .val (.ref b102), .unset, .unset, .unset, .unset] [(.int ((p0 &&& (2147483647 : Int32)) % (18 : Int32)))])) t → Steps p.tables e below (s₁.setTop (entryFrame m #[(.int p0), (.int p1)] maxLocals)) t := by
    intro t kt
    refine pre0 _ ?_
    show Steps p.tables e below (s₁.setTop (mkF m 0 #[.val (.int p0), .val (.int p1), .unset, .unset, .unset, .unset, .unset] [])) _
    refine XS.bipush X0.here hx rfl (hb hby at_0) ?_
    show Steps p.tables e below (s₁.setTop (mkF m 2 #[.val (.int p0), .val (.int p1), .unset, .unset, .unset, .unset, .unset] [(.int (18 : Int32))])) _
    refine st102 _ ?_
    show Steps p.tables e below (T102.setTop (mkF m 5 #[.val (.int p0), .val (.int p1), .unset, .unset, .unset, .unset, .unset] [(.ref b102)])) _
    refine XS.dup X102.here hx rfl (hb hby at_5) rfl rfl ?_
    show Steps p.tables e below (T102.setTop (mkF m 6 #[.val (.int p0), .val (.int p1), .unset, .unset, .unset, .unset, .unset] [(.ref b102), (.ref b102)])) _
    refine XS.iconst X102.here hx rfl (hb hby at_6) ?_
    show Steps p.tables e below (T102.setTop (mkF m 7 #[.val (.int p0), .val (.int p1), .unset, .unset, .unset, .unset, .unset] [(.int (0 : Int32)), (.ref b102), (.ref b102)])) _
    refine st103 _ ?_
    show Steps p.tables e below (T103.setTop (mkF m 10 #[.val (.int p0), .val (.int p1), .unset, .unset, .unset, .unset, .unset] [(.ref w_BENEFICIARY_ID), (.int (0 : Int32)), (.ref b102), (.ref b102)])) _
    refine st105 _ ?_
    show Steps p.tables e below (T105.setTop (mkF m 11 #[.val (.int p0), .val (.int p1), .unset, .unset, .unset, .unset, .unset] [(.ref b102)])) _
    refine XS.dup X105.here hx rfl (hb hby at_11) rfl rfl ?_
    show Steps p.tables e below (T105.setTop (mkF m 12 #[.val (.int p0), .val (.int p1), .unset, .unset, .unset, .unset, .unset] [(.ref b102), (.ref b102)])) _
    refine XS.iconst X105.here hx rfl (hb hby at_12) ?_
    show Steps p.tables e below (T105.setTop (mkF m 13 #[.val (.int p0), .val (.int p1), .unset, .unset, .unset, .unset, .unset] [(.int (1 : Int32)), (.ref b102), (.ref b102)])) _
    refine st106 _ ?_
    show Steps p.tables e below (T106.setTop (mkF m 16 #[.val (.int p0), .val (.int p1), .unset, .unset, .unset, .unset, .unset] [(.ref w_FLOOR_ID), (.int (1 : Int32)), (.ref b102), (.ref b102)])) _
    refine st108 _ ?_
    show Steps p.tables e below (T108.setTop (mkF m 17 #[.val (.int p0), .val (.int p1), .unset, .unset, .unset, .unset, .unset] [(.ref b102)])) _
    refine XS.dup X108.here hx rfl (hb hby at_17) rfl rfl ?_
    show Steps p.tables e below (T108.setTop (mkF m 18 #[.val (.int p0), .val (.int p1), .unset, .unset, .unset, .unset, .unset] [(.ref b102), (.ref b102)])) _
    refine XS.iconst X108.here hx rfl (hb hby at_18) ?_
    show Steps p.tables e below (T108.setTop (mkF m 19 #[.val (.int p0), .val (.int p1), .unset, .unset, .unset, .unset, .unset] [(.int (2 : Int32)), (.ref b102), (.ref b102)])) _
    refine st109 _ ?_
    show Steps p.tables e below (T109.setTop (mkF m 22 #[.val (.int p0), .val (.int p1), .unset, .unset, .unset, .unset, .unset] [(.ref w_FLOOR_REQUEST_ID), (.int (2 : Int32)), (.ref b102), (.ref b102)])) _
    refine st111 _ ?_
    show Steps p.tables e below (T111.setTop (mkF m 23 #[.val (.int p0), .val (.int p1), .unset, .unset, .unset, .unset, .unset] [(.ref b102)])) _
    refine XS.dup X111.here hx rfl (hb hby at_23) rfl rfl ?_
    show Steps p.tables e below (T111.setTop (mkF m 24 #[.val (.int p0), .val (.int p1), .unset, .unset, .unset, .unset, .unset] [(.ref b102), (.ref b102)])) _
    refine XS.iconst X111.here hx rfl (hb hby at_24) ?_
    show Steps p.tables e below (T111.setTop (mkF m 25 #[.val (.int p0), .val (.int p1), .unset, .unset, .unset, .unset, .unset] [(.int (3 : Int32)), (.ref b102), (.ref b102)])) _
    refine st112 _ ?_
    show Steps p.tables e below (T112.setTop (mkF m 28 #[.val (.int p0), .val (.int p1), .unset, .unset, .unset, .unset, .unset] [(.ref w_PRIORITY), (.int (3 : Int32)), (.ref b102), (.ref b102)])) _
    refine st114 _ ?_
    show Steps p.tables e below (T114.setTop (mkF m 29 #[.val (.int p0), .val (.int p1), .unset, .unset, .unset, .unset, .unset] [(.ref b102)])) _
    refine XS.dup X114.here hx rfl (hb hby at_29) rfl rfl ?_
    show Steps p.tables e below (T114.setTop (mkF m 30 #[.val (.int p0), .val (.int p1), .unset, .unset, .unset, .unset, .unset] [(.ref b102), (.ref b102)])) _
    refine XS.iconst X114.here hx rfl (hb hby at_30) ?_
    show Steps p.tables e below (T114.setTop (mkF m 31 #[.val (.int p0), .val (.int p1), .unset, .unset, .unset, .unset, .unset] [(.int (4 : Int32)), (.ref b102), (.ref b102)])) _
    refine st115 _ ?_
    show Steps p.tables e below (T115.setTop (mkF m 34 #[.val (.int p0), .val (.int p1), .unset, .unset, .unset, .unset, .unset] [(.ref w_REQUEST_STATUS), (.int (4 : Int32)), (.ref b102), (.ref b102)])) _
    refine st117 _ ?_
    show Steps p.tables e below (T117.setTop (mkF m 35 #[.val (.int p0), .val (.int p1), .unset, .unset, .unset, .unset, .unset] [(.ref b102)])) _
    refine XS.dup X117.here hx rfl (hb hby at_35) rfl rfl ?_
    show Steps p.tables e below (T117.setTop (mkF m 36 #[.val (.int p0), .val (.int p1), .unset, .unset, .unset, .unset, .unset] [(.ref b102), (.ref b102)])) _
    refine XS.iconst X117.here hx rfl (hb hby at_36) ?_
    show Steps p.tables e below (T117.setTop (mkF m 37 #[.val (.int p0), .val (.int p1), .unset, .unset, .unset, .unset, .unset] [(.int (5 : Int32)), (.ref b102), (.ref b102)])) _
    refine st118 _ ?_
    show Steps p.tables e below (T118.setTop (mkF m 40 #[.val (.int p0), .val (.int p1), .unset, .unset, .unset, .unset, .unset] [(.ref w_ERROR_CODE), (.int (5 : Int32)), (.ref b102), (.ref b102)])) _
    refine st120 _ ?_
    show Steps p.tables e below (T120.setTop (mkF m 41 #[.val (.int p0), .val (.int p1), .unset, .unset, .unset, .unset, .unset] [(.ref b102)])) _
    refine XS.dup X120.here hx rfl (hb hby at_41) rfl rfl ?_
    show Steps p.tables e below (T120.setTop (mkF m 42 #[.val (.int p0), .val (.int p1), .unset, .unset, .unset, .unset, .unset] [(.ref b102), (.ref b102)])) _
    refine XS.bipush X120.here hx rfl (hb hby at_42) ?_
    show Steps p.tables e below (T120.setTop (mkF m 44 #[.val (.int p0), .val (.int p1), .unset, .unset, .unset, .unset, .unset] [(.int (6 : Int32)), (.ref b102), (.ref b102)])) _
    refine st121 _ ?_
    show Steps p.tables e below (T121.setTop (mkF m 47 #[.val (.int p0), .val (.int p1), .unset, .unset, .unset, .unset, .unset] [(.ref w_ERROR_INFO), (.int (6 : Int32)), (.ref b102), (.ref b102)])) _
    refine st123 _ ?_
    show Steps p.tables e below (T123.setTop (mkF m 48 #[.val (.int p0), .val (.int p1), .unset, .unset, .unset, .unset, .unset] [(.ref b102)])) _
    refine XS.dup X123.here hx rfl (hb hby at_48) rfl rfl ?_
    show Steps p.tables e below (T123.setTop (mkF m 49 #[.val (.int p0), .val (.int p1), .unset, .unset, .unset, .unset, .unset] [(.ref b102), (.ref b102)])) _
    refine XS.bipush X123.here hx rfl (hb hby at_49) ?_
    show Steps p.tables e below (T123.setTop (mkF m 51 #[.val (.int p0), .val (.int p1), .unset, .unset, .unset, .unset, .unset] [(.int (7 : Int32)), (.ref b102), (.ref b102)])) _
    refine st124 _ ?_
    show Steps p.tables e below (T124.setTop (mkF m 54 #[.val (.int p0), .val (.int p1), .unset, .unset, .unset, .unset, .unset] [(.ref w_PARTICIPANT_PROVIDED_INFO), (.int (7 : Int32)), (.ref b102), (.ref b102)])) _
    refine st126 _ ?_
    show Steps p.tables e below (T126.setTop (mkF m 55 #[.val (.int p0), .val (.int p1), .unset, .unset, .unset, .unset, .unset] [(.ref b102)])) _
    refine XS.dup X126.here hx rfl (hb hby at_55) rfl rfl ?_
    show Steps p.tables e below (T126.setTop (mkF m 56 #[.val (.int p0), .val (.int p1), .unset, .unset, .unset, .unset, .unset] [(.ref b102), (.ref b102)])) _
    refine XS.bipush X126.here hx rfl (hb hby at_56) ?_
    show Steps p.tables e below (T126.setTop (mkF m 58 #[.val (.int p0), .val (.int p1), .unset, .unset, .unset, .unset, .unset] [(.int (8 : Int32)), (.ref b102), (.ref b102)])) _
    refine st127 _ ?_
    show Steps p.tables e below (T127.setTop (mkF m 61 #[.val (.int p0), .val (.int p1), .unset, .unset, .unset, .unset, .unset] [(.ref w_STATUS_INFO), (.int (8 : Int32)), (.ref b102), (.ref b102)])) _
    refine st129 _ ?_
    show Steps p.tables e below (T129.setTop (mkF m 62 #[.val (.int p0), .val (.int p1), .unset, .unset, .unset, .unset, .unset] [(.ref b102)])) _
    refine XS.dup X129.here hx rfl (hb hby at_62) rfl rfl ?_
    show Steps p.tables e below (T129.setTop (mkF m 63 #[.val (.int p0), .val (.int p1), .unset, .unset, .unset, .unset, .unset] [(.ref b102), (.ref b102)])) _
    refine XS.bipush X129.here hx rfl (hb hby at_63) ?_
    show Steps p.tables e below (T129.setTop (mkF m 65 #[.val (.int p0), .val (.int p1), .unset, .unset, .unset, .unset, .unset] [(.int (9 : Int32)), (.ref b102), (.ref b102)])) _
    refine st130 _ ?_
    show Steps p.tables e below (T130.setTop (mkF m 68 #[.val (.int p0), .val (.int p1), .unset, .unset, .unset, .unset, .unset] [(.ref w_SUPPORTED_ATTRIBUTES), (.int (9 : Int32)), (.ref b102), (.ref b102)])) _
    refine st132 _ ?_
    show Steps p.tables e below (T132.setTop (mkF m 69 #[.val (.int p0), .val (.int p1), .unset, .unset, .unset, .unset, .unset] [(.ref b102)])) _
    refine XS.dup X132.here hx rfl (hb hby at_69) rfl rfl ?_
    show Steps p.tables e below (T132.setTop (mkF m 70 #[.val (.int p0), .val (.int p1), .unset, .unset, .unset, .unset, .unset] [(.ref b102), (.ref b102)])) _
    refine XS.bipush X132.here hx rfl (hb hby at_70) ?_
    show Steps p.tables e below (T132.setTop (mkF m 72 #[.val (.int p0), .val (.int p1), .unset, .unset, .unset, .unset, .unset] [(.int (10 : Int32)), (.ref b102), (.ref b102)])) _
    refine st133 _ ?_
    show Steps p.tables e below (T133.setTop (mkF m 75 #[.val (.int p0), .val (.int p1), .unset, .unset, .unset, .unset, .unset] [(.ref w_SUPPORTED_PRIMITIVES), (.int (10 : Int32)), (.ref b102), (.ref b102)])) _
    refine st135 _ ?_
    show Steps p.tables e below (T135.setTop (mkF m 76 #[.val (.int p0), .val (.int p1), .unset, .unset, .unset, .unset, .unset] [(.ref b102)])) _
    refine XS.dup X135.here hx rfl (hb hby at_76) rfl rfl ?_
    show Steps p.tables e below (T135.setTop (mkF m 77 #[.val (.int p0), .val (.int p1), .unset, .unset, .unset, .unset, .unset] [(.ref b102), (.ref b102)])) _
    refine XS.bipush X135.here hx rfl (hb hby at_77) ?_
    show Steps p.tables e below (T135.setTop (mkF m 79 #[.val (.int p0), .val (.int p1), .unset, .unset, .unset, .unset, .unset] [(.int (11 : Int32)), (.ref b102), (.ref b102)])) _
    refine st136 _ ?_
    show Steps p.tables e below (T136.setTop (mkF m 82 #[.val (.int p0), .val (.int p1), .unset, .unset, .unset, .unset, .unset] [(.ref w_USER_DISPLAY_NAME), (.int (11 : Int32)), (.ref b102), (.ref b102)])) _
    refine st138 _ ?_
    show Steps p.tables e below (T138.setTop (mkF m 83 #[.val (.int p0), .val (.int p1), .unset, .unset, .unset, .unset, .unset] [(.ref b102)])) _
    refine XS.dup X138.here hx rfl (hb hby at_83) rfl rfl ?_
    show Steps p.tables e below (T138.setTop (mkF m 84 #[.val (.int p0), .val (.int p1), .unset, .unset, .unset, .unset, .unset] [(.ref b102), (.ref b102)])) _
    refine XS.bipush X138.here hx rfl (hb hby at_84) ?_
    show Steps p.tables e below (T138.setTop (mkF m 86 #[.val (.int p0), .val (.int p1), .unset, .unset, .unset, .unset, .unset] [(.int (12 : Int32)), (.ref b102), (.ref b102)])) _
    refine st139 _ ?_
    show Steps p.tables e below (T139.setTop (mkF m 89 #[.val (.int p0), .val (.int p1), .unset, .unset, .unset, .unset, .unset] [(.ref w_USER_URI), (.int (12 : Int32)), (.ref b102), (.ref b102)])) _
    refine st141 _ ?_
    show Steps p.tables e below (T141.setTop (mkF m 90 #[.val (.int p0), .val (.int p1), .unset, .unset, .unset, .unset, .unset] [(.ref b102)])) _
    refine XS.dup X141.here hx rfl (hb hby at_90) rfl rfl ?_
    show Steps p.tables e below (T141.setTop (mkF m 91 #[.val (.int p0), .val (.int p1), .unset, .unset, .unset, .unset, .unset] [(.ref b102), (.ref b102)])) _
    refine XS.bipush X141.here hx rfl (hb hby at_91) ?_
    show Steps p.tables e below (T141.setTop (mkF m 93 #[.val (.int p0), .val (.int p1), .unset, .unset, .unset, .unset, .unset] [(.int (13 : Int32)), (.ref b102), (.ref b102)])) _
    refine st142 _ ?_
    show Steps p.tables e below (T142.setTop (mkF m 96 #[.val (.int p0), .val (.int p1), .unset, .unset, .unset, .unset, .unset] [(.ref w_BENEFICIARY_INFORMATION), (.int (13 : Int32)), (.ref b102), (.ref b102)])) _
    refine st144 _ ?_
    show Steps p.tables e below (T144.setTop (mkF m 97 #[.val (.int p0), .val (.int p1), .unset, .unset, .unset, .unset, .unset] [(.ref b102)])) _
    refine XS.dup X144.here hx rfl (hb hby at_97) rfl rfl ?_
    show Steps p.tables e below (T144.setTop (mkF m 98 #[.val (.int p0), .val (.int p1), .unset, .unset, .unset, .unset, .unset] [(.ref b102), (.ref b102)])) _
    refine XS.bipush X144.here hx rfl (hb hby at_98) ?_
    show Steps p.tables e below (T144.setTop (mkF m 100 #[.val (.int p0), .val (.int p1), .unset, .unset, .unset, .unset, .unset] [(.int (14 : Int32)), (.ref b102), (.ref b102)])) _
    refine st145 _ ?_
    show Steps p.tables e below (T145.setTop (mkF m 103 #[.val (.int p0), .val (.int p1), .unset, .unset, .unset, .unset, .unset] [(.ref w_FLOOR_REQUEST_INFORMATION), (.int (14 : Int32)), (.ref b102), (.ref b102)])) _
    refine st147 _ ?_
    show Steps p.tables e below (T147.setTop (mkF m 104 #[.val (.int p0), .val (.int p1), .unset, .unset, .unset, .unset, .unset] [(.ref b102)])) _
    refine XS.dup X147.here hx rfl (hb hby at_104) rfl rfl ?_
    show Steps p.tables e below (T147.setTop (mkF m 105 #[.val (.int p0), .val (.int p1), .unset, .unset, .unset, .unset, .unset] [(.ref b102), (.ref b102)])) _
    refine XS.bipush X147.here hx rfl (hb hby at_105) ?_
    show Steps p.tables e below (T147.setTop (mkF m 107 #[.val (.int p0), .val (.int p1), .unset, .unset, .unset, .unset, .unset] [(.int (15 : Int32)), (.ref b102), (.ref b102)])) _
    refine st148 _ ?_
    show Steps p.tables e below (T148.setTop (mkF m 110 #[.val (.int p0), .val (.int p1), .unset, .unset, .unset, .unset, .unset] [(.ref w_REQUESTED_BY_INFORMATION), (.int (15 : Int32)), (.ref b102), (.ref b102)])) _
    refine st150 _ ?_
    show Steps p.tables e below (T150.setTop (mkF m 111 #[.val (.int p0), .val (.int p1), .unset, .unset, .unset, .unset, .unset] [(.ref b102)])) _
    refine XS.dup X150.here hx rfl (hb hby at_111) rfl rfl ?_
    show Steps p.tables e below (T150.setTop (mkF m 112 #[.val (.int p0), .val (.int p1), .unset, .unset, .unset, .unset, .unset] [(.ref b102), (.ref b102)])) _
    refine XS.bipush X150.here hx rfl (hb hby at_112) ?_
    show Steps p.tables e below (T150.setTop (mkF m 114 #[.val (.int p0), .val (.int p1), .unset, .unset, .unset, .unset, .unset] [(.int (16 : Int32)), (.ref b102), (.ref b102)])) _
    refine st151 _ ?_
    show Steps p.tables e below (T151.setTop (mkF m 117 #[.val (.int p0), .val (.int p1), .unset, .unset, .unset, .unset, .unset] [(.ref w_FLOOR_REQUEST_STATUS), (.int (16 : Int32)), (.ref b102), (.ref b102)])) _
    refine st153 _ ?_
    show Steps p.tables e below (T153.setTop (mkF m 118 #[.val (.int p0), .val (.int p1), .unset, .unset, .unset, .unset, .unset] [(.ref b102)])) _
    refine XS.dup X153.here hx rfl (hb hby at_118) rfl rfl ?_
    show Steps p.tables e below (T153.setTop (mkF m 119 #[.val (.int p0), .val (.int p1), .unset, .unset, .unset, .unset, .unset] [(.ref b102), (.ref b102)])) _
    refine XS.bipush X153.here hx rfl (hb hby at_119) ?_
    show Steps p.tables e below (T153.setTop (mkF m 121 #[.val (.int p0), .val (.int p1), .unset, .unset, .unset, .unset, .unset] [(.int (17 : Int32)), (.ref b102), (.ref b102)])) _
    refine st154 _ ?_
    show Steps p.tables e below (T154.setTop (mkF m 124 #[.val (.int p0), .val (.int p1), .unset, .unset, .unset, .unset, .unset] [(.ref w_OVERALL_REQUEST_STATUS), (.int (17 : Int32)), (.ref b102), (.ref b102)])) _
    refine st156 _ ?_
    show Steps p.tables e below (T156.setTop (mkF m 125 #[.val (.int p0), .val (.int p1), .unset, .unset, .unset, .unset, .unset] [(.ref b102)])) _
    refine XS.astoreN X156.here hx rfl (hb hby at_125) rfl rfl (l' := #[.val (.int p0), .val (.int p1), .val (.ref b102), .unset, .unset, .unset, .unset]) rfl ?_
    show Steps p.tables e below (T156.setTop (mkF m 126 #[.val (.int p0), .val (.int p1), .val (.ref b102), .unset, .unset, .unset, .unset] [])) _
    refine XS.iloadN X156.here hx rfl (hb hby at_126) rfl ?_
    show Steps p.tables e below (T156.setTop (mkF m 127 #[.val (.int p0), .val (.int p1), .val (.ref b102), .unset, .unset, .unset, .unset] [(.int p0)])) _
    refine X156.ldcInt hx hown (mvT hZ (hw _ (List.mem_of_getElem? (i := 40) rfl))) (g := (mkF m 127 #[.val (.int p0), .val (.int p1), .val (.ref b102), .unset, .unset, .unset, .unset] [(.int p0)])) rfl (hb hby at_127) _ ?_
    show Steps p.tables e below (T156.setTop (mkF m 129 #[.val (.int p0), .val (.int p1), .val (.ref b102), .unset, .unset, .unset, .unset] [(.int (2147483647 : Int32)), (.int p0)])) _
    refine XS.iand X156.here hx rfl (hb hby at_129) rfl ?_
    show Steps p.tables e below (T156.setTop (mkF m 130 #[.val (.int p0), .val (.int p1), .val (.ref b102), .unset, .unset, .unset, .unset] [(.int (p0 &&& (2147483647 : Int32)))])) _
    refine XS.bipush X156.here hx rfl (hb hby at_130) ?_
    show Steps p.tables e below (T156.setTop (mkF m 132 #[.val (.int p0), .val (.int p1), .val (.ref b102), .unset, .unset, .unset, .unset] [(.int (18 : Int32)), (.int (p0 &&& (2147483647 : Int32)))])) _
    refine Jvm.RoadKit.iremM (g := (mkF m 132 #[.val (.int p0), .val (.int p1), .val (.ref b102), .unset, .unset, .unset, .unset] [(.int (18 : Int32)), (.int (p0 &&& (2147483647 : Int32)))])) X156 hx rfl (hb hby at_132) rfl (by decide) ?_
    exact kt
  (try clear st156); (try clear W156); (try clear hin155); (try clear G155); (try clear H155_); (try clear N155_); (try clear S155); (try clear q155); (try clear Ar155); (try clear cl155); (try clear st154); (try clear e154); (try clear X154); (try clear T154); (try clear N153); (try clear V153); (try clear KP153); (try clear EX153); (try clear st153); (try clear W153); (try clear e153); (try clear X153); (try clear h153); (try clear T153); (try clear hin152); (try clear G152); (try clear H152_); (try clear N152_); (try clear S152); (try clear q152); (try clear Ar152); (try clear cl152); (try clear st151); (try clear e151); (try clear X151); (try clear T151); (try clear N150); (try clear V150); (try clear KP150); (try clear EX150); (try clear st150); (try clear W150); (try clear e150); (try clear X150); (try clear h150); (try clear T150); (try clear hin149); (try clear G149); (try clear H149_); (try clear N149_); (try clear S149); (try clear q149); (try clear Ar149); (try clear cl149); (try clear st148); (try clear e148); (try clear X148); (try clear T148); (try clear N147); (try clear V147); (try clear KP147); (try clear EX147); (try clear st147); (try clear W147); (try clear e147); (try clear X147); (try clear h147); (try clear T147); (try clear hin146); (try clear G146); (try clear H146_); (try clear N146_); (try clear S146); (try clear q146); (try clear Ar146); (try clear cl146); (try clear st145); (try clear e145); (try clear X145); (try clear T145); (try clear N144); (try clear V144); (try clear KP144); (try clear EX144); (try clear st144); (try clear W144); (try clear e144); (try clear X144); (try clear h144); (try clear T144); (try clear hin143); (try clear G143); (try clear H143_); (try clear N143_); (try clear S143); (try clear q143); (try clear Ar143); (try clear cl143); (try clear st142); (try clear e142); (try clear X142); (try clear T142); (try clear N141); (try clear V141); (try clear KP141); (try clear EX141); (try clear st141); (try clear W141); (try clear e141); (try clear X141); (try clear h141); (try clear T141); (try clear hin140); (try clear G140); (try clear H140_); (try clear N140_); (try clear S140); (try clear q140); (try clear Ar140); (try clear cl140); (try clear st139); (try clear e139); (try clear X139); (try clear T139); (try clear N138); (try clear V138); (try clear KP138); (try clear EX138); (try clear st138); (try clear W138); (try clear e138); (try clear X138); (try clear h138); (try clear T138); (try clear hin137); (try clear G137); (try clear H137_); (try clear N137_); (try clear S137); (try clear q137); (try clear Ar137); (try clear cl137); (try clear st136); (try clear e136); (try clear X136); (try clear T136); (try clear N135); (try clear V135); (try clear KP135); (try clear EX135); (try clear st135); (try clear W135); (try clear e135); (try clear X135); (try clear h135); (try clear T135); (try clear hin134); (try clear G134); (try clear H134_); (try clear N134_); (try clear S134); (try clear q134); (try clear Ar134); (try clear cl134); (try clear st133); (try clear e133); (try clear X133); (try clear T133); (try clear N132); (try clear V132); (try clear KP132); (try clear EX132); (try clear st132); (try clear W132); (try clear e132); (try clear X132); (try clear h132); (try clear T132); (try clear hin131); (try clear G131); (try clear H131_); (try clear N131_); (try clear S131); (try clear q131); (try clear Ar131); (try clear cl131); (try clear st130); (try clear e130); (try clear X130); (try clear T130); (try clear N129); (try clear V129); (try clear KP129); (try clear EX129); (try clear st129); (try clear W129); (try clear e129); (try clear X129); (try clear h129); (try clear T129); (try clear hin128); (try clear G128); (try clear H128_); (try clear N128_); (try clear S128); (try clear q128); (try clear Ar128); (try clear cl128); (try clear st127); (try clear e127); (try clear X127); (try clear T127); (try clear N126); (try clear V126); (try clear KP126); (try clear EX126); (try clear st126); (try clear W126); (try clear e126); (try clear X126); (try clear h126); (try clear T126); (try clear hin125); (try clear G125); (try clear H125_); (try clear N125_); (try clear S125); (try clear q125); (try clear Ar125); (try clear cl125); (try clear st124); (try clear e124); (try clear X124); (try clear T124); (try clear N123); (try clear V123); (try clear KP123); (try clear EX123); (try clear st123); (try clear W123); (try clear e123); (try clear X123); (try clear h123); (try clear T123); (try clear hin122); (try clear G122); (try clear H122_); (try clear N122_); (try clear S122); (try clear q122); (try clear Ar122); (try clear cl122); (try clear st121); (try clear e121); (try clear X121); (try clear T121); (try clear N120); (try clear V120); (try clear KP120); (try clear EX120); (try clear st120); (try clear W120); (try clear e120); (try clear X120); (try clear h120); (try clear T120); (try clear hin119); (try clear G119); (try clear H119_); (try clear N119_); (try clear S119); (try clear q119); (try clear Ar119); (try clear cl119); (try clear st118); (try clear e118); (try clear X118); (try clear T118); (try clear N117); (try clear V117); (try clear KP117); (try clear EX117); (try clear st117); (try clear W117); (try clear e117); (try clear X117); (try clear h117); (try clear T117); (try clear hin116); (try clear G116); (try clear H116_); (try clear N116_); (try clear S116); (try clear q116); (try clear Ar116); (try clear cl116); (try clear st115); (try clear e115); (try clear X115); (try clear T115); (try clear N114); (try clear V114); (try clear KP114); (try clear EX114); (try clear st114); (try clear W114); (try clear e114); (try clear X114); (try clear h114); (try clear T114); (try clear hin113); (try clear G113); (try clear H113_); (try clear N113_); (try clear S113); (try clear q113); (try clear Ar113); (try clear cl113); (try clear st112); (try clear e112); (try clear X112); (try clear T112); (try clear N111); (try clear V111); (try clear KP111); (try clear EX111); (try clear st111); (try clear W111); (try clear e111); (try clear X111); (try clear h111); (try clear T111); (try clear hin110); (try clear G110); (try clear H110_); (try clear N110_); (try clear S110); (try clear q110); (try clear Ar110); (try clear cl110); (try clear st109); (try clear e109); (try clear X109); (try clear T109); (try clear N108); (try clear V108); (try clear KP108); (try clear EX108); (try clear st108); (try clear W108); (try clear e108); (try clear X108); (try clear h108); (try clear T108); (try clear hin107); (try clear G107); (try clear H107_); (try clear N107_); (try clear S107); (try clear q107); (try clear Ar107); (try clear cl107); (try clear st106); (try clear e106); (try clear X106); (try clear T106); (try clear N105); (try clear V105); (try clear KP105); (try clear EX105); (try clear st105); (try clear W105); (try clear e105); (try clear X105); (try clear h105); (try clear T105); (try clear hin104); (try clear G104); (try clear H104_); (try clear N104_); (try clear S104); (try clear q104); (try clear Ar104); (try clear cl104); (try clear st103); (try clear e103); (try clear X103); (try clear T103); (try clear V102); (try clear KP102); (try clear EX102); (try clear st102); (try clear A102); (try clear E102); (try clear e102); (try clear X102); (try clear h102); (try clear T102)
  rcases own_rem18 p0 with hv158 | hv159 | hv160 | hv161 | hv162 | hv163 | hv164 | hv165 | hv166 | hv167 | hv168 | hv169 | hv170 | hv171 | hv172 | hv173 | hv174 | hv175
  · -- (0 : Int32)
    obtain ⟨cl176, Ar176, q176, S176, N176_, H176_, G176⟩ := V156
    have hin176 : ¬ ((0 : Int32) < 0 ∨ cl176.slots.size ≤ ((0 : Int32)).toNatClampNeg) := inb_of S176 ⟨by decide, by decide⟩
    have hat176 : cl176.slots[((0 : Int32)).toNatClampNeg]? = some (.ref w_BENEFICIARY_ID) := Has.at H176_ hin176 rfl
    have ck177 : ∀ t, Steps p.tables e below (T156.setTop (mkF m 142 #[.val (.int p0), .val (.int p1), .val (.ref b102), .val (.int (0 : Int32)), .val (.ref w_BENEFICIARY_ID), .unset, .unset] [(.int p1), (.ref w_BENEFICIARY_ID)])) t → Steps p.tables e below (s₁.setTop (entryFrame m #[(.int p0), (.int p1)] maxLocals)) t := by
      intro t kt
      refine ck157 _ ?_
      show Steps p.tables e below (T156.setTop (mkF m 133 #[.val (.int p0), .val (.int p1), .val (.ref b102), .unset, .unset, .unset, .unset] [(.int ((p0 &&& (2147483647 : Int32)) % (18 : Int32)))])) _
      rw [hv158]
      show Steps p.tables e below (T156.setTop (mkF m 133 #[.val (.int p0), .val (.int p1), .val (.ref b102), .unset, .unset, .unset, .unset] [(.int (0 : Int32))])) _
      refine XS.istoreN X156.here hx rfl (hb hby at_133) rfl (l' := #[.val (.int p0), .val (.int p1), .val (.ref b102), .val (.int (0 : Int32)), .unset, .unset, .unset]) rfl ?_
      show Steps p.tables e below (T156.setTop (mkF m 134 #[.val (.int p0), .val (.int p1), .val (.ref b102), .val (.int (0 : Int32)), .unset, .unset, .unset] [])) _
      refine XS.aloadN X156.here hx rfl (hb hby at_134) rfl rfl ?_
      show Steps p.tables e below (T156.setTop (mkF m 135 #[.val (.int p0), .val (.int p1), .val (.ref b102), .val (.int (0 : Int32)), .unset, .unset, .unset] [(.ref b102)])) _
      refine XS.iloadN X156.here hx rfl (hb hby at_135) rfl ?_
      show Steps p.tables e below (T156.setTop (mkF m 136 #[.val (.int p0), .val (.int p1), .val (.ref b102), .val (.int (0 : Int32)), .unset, .unset, .unset] [(.int (0 : Int32)), (.ref b102)])) _
      refine X156.aaload hx (j := (0 : Int32)) (v := (.ref w_BENEFICIARY_ID)) (by rw [e156]; exact Ar176.1) (State.isArrayOf_alike hZ.alike Ar176.2.1) rfl Ar176.2.2 hin176 hat176 (g := (mkF m 136 #[.val (.int p0), .val (.int p1), .val (.ref b102), .val (.int (0 : Int32)), .unset, .unset, .unset] [(.int (0 : Int32)), (.ref b102)])) rfl rfl (hb hby at_136) _ ?_
      show Steps p.tables e below (T156.setTop (mkF m 137 #[.val (.int p0), .val (.int p1), .val (.ref b102), .val (.int (0 : Int32)), .unset, .unset, .unset] [(.ref w_BENEFICIARY_ID)])) _
      refine XS.astore X156.here hx rfl (hb hby at_137) rfl rfl (l' := #[.val (.int p0), .val (.int p1), .val (.ref b102), .val (.int (0 : Int32)), .val (.ref w_BENEFICIARY_ID), .unset, .unset]) rfl ?_
      show Steps p.tables e below (T156.setTop (mkF m 139 #[.val (.int p0), .val (.int p1), .val (.ref b102), .val (.int (0 : Int32)), .val (.ref w_BENEFICIARY_ID), .unset, .unset] [])) _
      refine XS.aload X156.here hx rfl (hb hby at_139) rfl rfl ?_
      show Steps p.tables e below (T156.setTop (mkF m 141 #[.val (.int p0), .val (.int p1), .val (.ref b102), .val (.int (0 : Int32)), .val (.ref w_BENEFICIARY_ID), .unset, .unset] [(.ref w_BENEFICIARY_ID)])) _
      refine XS.iloadN X156.here hx rfl (hb hby at_141) rfl ?_
      exact kt
    (try clear hat176); (try clear hin176); (try clear G176); (try clear H176_); (try clear N176_); (try clear S176); (try clear q176); (try clear Ar176); (try clear cl176)
    by_cases hl178 : p1 = (2 : Int32)
    · skip
      obtain ⟨cq179, kq179, q179a, q179b, q179c⟩ := isOf hZ e156 ((E_BENEFICIARY_ID.ext EX156))
      obtain ⟨_, _, ⟨T179, L179, k179, n179⟩, -, X179, ⟨Lc179, hQ179, l179, y179, z179⟩, st179⟩ := X156.virtualBack hx (y := (⟨"com/example/parley/parley/message/AttributeType", "accepts", "(I)Z"⟩ : MethodName)) (z := (⟨"com/example/parley/parley/message/AttributeType", "accepts", "(I)Z"⟩ : MethodName)) hown (mvT hZ (hw _ (List.mem_of_getElem? (i := 41) rfl))) (mvT hZ (hw _ (List.mem_of_getElem? (i := 42) rfl))) (notFace_of_selects (args := #[]) (mvT hZ (hw _ (List.mem_of_getElem? (i := 44) rfl)))) (mvT hZ (hw _ (List.mem_of_getElem? (i := 44) rfl))) (mvT hZ (hw _ (List.mem_of_getElem? (i := 43) rfl))) (by decide) (backOf (W := 0) (rm_acc_SIXTEEN_BITS l Z a0 hw [] w_BENEFICIARY_ID p1 h156 n0 (Nat.le_trans Z0 EX156.1) w_SIXTEEN_BITS (F_BENEFICIARY_ID_shape.ext EX156) (E_SIXTEEN_BITS.ext EX156) (F_SIXTEEN_BITS_ordinal.ext EX156) (1 : Int32) (if_pos hl178)) hZ (hw _ (List.mem_of_getElem? (i := 45) rfl)) (hw _ (List.mem_of_getElem? (i := 3) rfl)) (by decide) (by decide)) q179a q179c (g := (mkF m 142 #[.val (.int p0), .val (.int p1), .val (.ref b102), .val (.int (0 : Int32)), .val (.ref w_BENEFICIARY_ID), .unset, .unset] [(.int p1), (.ref w_BENEFICIARY_ID)])) rfl (by rw [hml]; rfl) (Steps.refl _) (argsL := [(.int p1)]) (rest := []) (lenOf pd_33 rfl) rfl (by show 2 * 0 + _ ≤ _; exact Nat.le_of_eq rfl) (hb hby at_142) (fun _ _ => ⟨rfl, e156, (by decide : 1 + 0 ≤ _), (by decide : 18 + 0 ≤ _)⟩)
      dsimp only [Pt.U, Pt.locs, Pt.cells, Pt.slots] at X179 l179 y179 z179 st179 hQ179
      subst l179 y179 z179
      obtain ⟨rfl, N179q, e179⟩ := hQ179
      have N179 := Fr.app N156 N179q
      obtain ⟨fs, hr, hrun, hended, hW, hsame⟩ := X179.leave (v := some (.int (1 : Int32))) (fun h => by rw [Bd.returns] at h; cases h)
      refine ⟨_, _, ck177 _ ?_, hrun, hended, _, _, rfl, ?_, ⟨_, rfl⟩, hW, hsame.mono (by decide) (by decide)⟩
      · show Steps p.tables e below (T156.setTop (mkF m 142 #[.val (.int p0), .val (.int p1), .val (.ref b102), .val (.int (0 : Int32)), .val (.ref w_BENEFICIARY_ID), .unset, .unset] [(.int p1), (.ref w_BENEFICIARY_ID)])) _
        refine st179.trans ?_
        show Steps p.tables e below (T179.setTop (mkF m 145 #[.val (.int p0), .val (.int p1), .val (.ref b102), .val (.int (0 : Int32)), .val (.ref w_BENEFICIARY_ID), .unset, .unset] [(.int (1 : Int32))])) _
        refine XS.istore X179.here hx rfl (hb hby at_145) rfl (l' := #[.val (.int p0), .val (.int p1), .val (.ref b102), .val (.int (0 : Int32)), .val (.ref w_BENEFICIARY_ID), .val (.int (1 : Int32)), .unset]) rfl ?_
        show Steps p.tables e below (T179.setTop (mkF m 147 #[.val (.int p0), .val (.int p1), .val (.ref b102), .val (.int (0 : Int32)), .val (.ref w_BENEFICIARY_ID), .val (.int (1 : Int32)), .unset] [])) _
        refine XS.iloadN X179.here hx rfl (hb hby at_147) rfl ?_
        show Steps p.tables e below (T179.setTop (mkF m 148 #[.val (.int p0), .val (.int p1), .val (.ref b102), .val (.int (0 : Int32)), .val (.ref w_BENEFICIARY_ID), .val (.int (1 : Int32)), .unset] [(.int (0 : Int32))])) _
        refine XS.iconst X179.here hx rfl (hb hby at_148) ?_
        show Steps p.tables e below (T179.setTop (mkF m 149 #[.val (.int p0), .val (.int p1), .val (.ref b102), .val (.int (0 : Int32)), .val (.ref w_BENEFICIARY_ID), .val (.int (1 : Int32)), .unset] [(.int (5 : Int32)), (.int (0 : Int32))])) _
        refine XS.icmpNo X179.here hx rfl (hb hby at_149) rfl (tlt (by decide : (0 : Int32) < (5 : Int32))).2.1 ?_
        show Steps p.tables e below (T179.setTop (mkF m 152 #[.val (.int p0), .val (.int p1), .val (.ref b102), .val (.int (0 : Int32)), .val (.ref w_BENEFICIARY_ID), .val (.int (1 : Int32)), .unset] [])) _
        refine XS.iloadN X179.here hx rfl (hb hby at_152) rfl ?_
        show Steps p.tables e below (T179.setTop (mkF m 153 #[.val (.int p0), .val (.int p1), .val (.ref b102), .val (.int (0 : Int32)), .val (.ref w_BENEFICIARY_ID), .val (.int (1 : Int32)), .unset] [(.int p1)])) _
        refine XS.iconst X179.here hx rfl (hb hby at_153) ?_
        show Steps p.tables e below (T179.setTop (mkF m 154 #[.val (.int p0), .val (.int p1), .val (.ref b102), .val (.int (0 : Int32)), .val (.ref w_BENEFICIARY_ID), .val (.int (1 : Int32)), .unset] [(.int (2 : Int32)), (.int p1)])) _
        refine XS.icmpNo X179.here hx rfl (hb hby at_154) rfl (teq hl178).2 ?_
        show Steps p.tables e below (T179.setTop (mkF m 157 #[.val (.int p0), .val (.int p1), .val (.ref b102), .val (.int (0 : Int32)), .val (.ref w_BENEFICIARY_ID), .val (.int (1 : Int32)), .unset] [])) _
        refine XS.iconst X179.here hx rfl (hb hby at_157) ?_
        show Steps p.tables e below (T179.setTop (mkF m 158 #[.val (.int p0), .val (.int p1), .val (.ref b102), .val (.int (0 : Int32)), .val (.ref w_BENEFICIARY_ID), .val (.int (1 : Int32)), .unset] [(.int (1 : Int32))])) _
        refine XS.goto X179.here hx rfl (pc0 := 158) (pc' := 162) rfl (hb hby at_158) (by decide) (by decide) ?_
        show Steps p.tables e below (T179.setTop (mkF m 162 #[.val (.int p0), .val (.int p1), .val (.ref b102), .val (.int (0 : Int32)), .val (.ref w_BENEFICIARY_ID), .val (.int (1 : Int32)), .unset] [(.int (1 : Int32))])) _
        refine XS.istore X179.here hx rfl (hb hby at_162) rfl (l' := #[.val (.int p0), .val (.int p1), .val (.ref b102), .val (.int (0 : Int32)), .val (.ref w_BENEFICIARY_ID), .val (.int (1 : Int32)), .val (.int (1 : Int32))]) rfl ?_
        show Steps p.tables e below (T179.setTop (mkF m 164 #[.val (.int p0), .val (.int p1), .val (.ref b102), .val (.int (0 : Int32)), .val (.ref w_BENEFICIARY_ID), .val (.int (1 : Int32)), .val (.int (1 : Int32))] [])) _
        refine XS.goto X179.here hx rfl (pc0 := 164) (pc' := 217) rfl (hb hby at_164) (by decide) (by decide) ?_
        show Steps p.tables e below (T179.setTop (mkF m 217 #[.val (.int p0), .val (.int p1), .val (.ref b102), .val (.int (0 : Int32)), .val (.ref w_BENEFICIARY_ID), .val (.int (1 : Int32)), .val (.int (1 : Int32))] [])) _
        refine XS.iload X179.here hx rfl (hb hby at_217) rfl ?_
        show Steps p.tables e below (T179.setTop (mkF m 219 #[.val (.int p0), .val (.int p1), .val (.ref b102), .val (.int (0 : Int32)), .val (.ref w_BENEFICIARY_ID), .val (.int (1 : Int32)), .val (.int (1 : Int32))] [(.int (1 : Int32))])) _
        refine XS.iload X179.here hx rfl (hb hby at_219) rfl ?_
        show Steps p.tables e below (T179.setTop (mkF m 221 #[.val (.int p0), .val (.int p1), .val (.ref b102), .val (.int (0 : Int32)), .val (.ref w_BENEFICIARY_ID), .val (.int (1 : Int32)), .val (.int (1 : Int32))] [(.int (1 : Int32)), (.int (1 : Int32))])) _
        refine XS.icmpNo X179.here hx rfl (hb hby at_221) rfl (teq (by decide : (1 : Int32) = (1 : Int32))).2 ?_
        show Steps p.tables e below (T179.setTop (mkF m 224 #[.val (.int p0), .val (.int p1), .val (.ref b102), .val (.int (0 : Int32)), .val (.ref w_BENEFICIARY_ID), .val (.int (1 : Int32)), .val (.int (1 : Int32))] [])) _
        refine XS.iconst X179.here hx rfl (hb hby at_224) ?_
        show Steps p.tables e below (T179.setTop (mkF m 225 #[.val (.int p0), .val (.int p1), .val (.ref b102), .val (.int (0 : Int32)), .val (.ref w_BENEFICIARY_ID), .val (.int (1 : Int32)), .val (.int (1 : Int32))] [(.int (1 : Int32))])) _
        refine XS.goto X179.here hx rfl (pc0 := 225) (pc' := 229) rfl (hb hby at_225) (by decide) (by decide) ?_
        show Steps p.tables e below (T179.setTop (mkF m 229 #[.val (.int p0), .val (.int p1), .val (.ref b102), .val (.int (0 : Int32)), .val (.ref w_BENEFICIARY_ID), .val (.int (1 : Int32)), .val (.int (1 : Int32))] [(.int (1 : Int32))])) _
        exact retN X179 hx (t := .boolean) Bd.returns (by simp) (hb hby at_229) hr
      · show own_Made (some (.int 1)) n0 _ T179.heap _
        rw [e179]
        exact ⟨rfl, N179, trivial⟩
    · skip
      obtain ⟨cq180, kq180, q180a, q180b, q180c⟩ := isOf hZ e156 ((E_BENEFICIARY_ID.ext EX156))
      obtain ⟨_, _, ⟨T180, L180, k180, n180⟩, -, X180, ⟨Lc180, hQ180, l180, y180, z180⟩, st180⟩ := X156.virtualBack hx (y := (⟨"com/example/parley/parley/message/AttributeType", "accepts", "(I)Z"⟩ : MethodName)) (z := (⟨"com/example/parley/parley/message/AttributeType", "accepts", "(I)Z"⟩ : MethodName)) hown (mvT hZ (hw _ (List.mem_of_getElem? (i := 41) rfl))) (mvT hZ (hw _ (List.mem_of_getElem? (i := 42) rfl))) (notFace_of_selects (args := #[]) (mvT hZ (hw _ (List.mem_of_getElem? (i := 44) rfl)))) (mvT hZ (hw _ (List.mem_of_getElem? (i := 44) rfl))) (mvT hZ (hw _ (List.mem_of_getElem? (i := 43) rfl))) (by decide) (backOf (W := 0) (rm_acc_SIXTEEN_BITS l Z a0 hw [] w_BENEFICIARY_ID p1 h156 n0 (Nat.le_trans Z0 EX156.1) w_SIXTEEN_BITS (F_BENEFICIARY_ID_shape.ext EX156) (E_SIXTEEN_BITS.ext EX156) (F_SIXTEEN_BITS_ordinal.ext EX156) (0 : Int32) (if_neg hl178)) hZ (hw _ (List.mem_of_getElem? (i := 45) rfl)) (hw _ (List.mem_of_getElem? (i := 3) rfl)) (by decide) (by decide)) q180a q180c (g := (mkF m 142 #[.val (.int p0), .val (.int p1), .val (.ref b102), .val (.int (0 : Int32)), .val (.ref w_BENEFICIARY_ID), .unset, .unset] [(.int p1), (.ref w_BENEFICIARY_ID)])) rfl (by rw [hml]; rfl) (Steps.refl _) (argsL := [(.int p1)]) (rest := []) (lenOf pd_33 rfl) rfl (by show 2 * 0 + _ ≤ _; exact Nat.le_of_eq rfl) (hb hby at_142) (fun _ _ => ⟨rfl, e156, (by decide : 1 + 0 ≤ _), (by decide : 18 + 0 ≤ _)⟩)
      dsimp only [Pt.U, Pt.locs, Pt.cells, Pt.slots] at X180 l180 y180 z180 st180 hQ180
      subst l180 y180 z180
      obtain ⟨rfl, N180q, e180⟩ := hQ180
      have N180 := Fr.app N156 N180q
      obtain ⟨fs, hr, hrun, hended, hW, hsame⟩ := X180.leave (v := some (.int (1 : Int32))) (fun h => by rw [Bd.returns] at h; cases h)
      refine ⟨_, _, ck177 _ ?_, hrun, hended, _, _, rfl, ?_, ⟨_, rfl⟩, hW, hsame.mono (by decide) (by decide)⟩
      · show Steps p.tables e below (T156.setTop (mkF m 142 #[.val (.int p0), .val (.int p1), .val (.ref b102), .val (.int (0 : Int32)), .val (.ref w_BENEFICIARY_ID), .unset, .unset] [(.int p1), (.ref w_BENEFICIARY_ID)])) _
        refine st180.trans ?_
        show Steps p.tables e below (T180.setTop (mkF m 145 #[.val (.int p0), .val (.int p1), .val (.ref b102), .val (.int (0 : Int32)), .val (.ref w_BENEFICIARY_ID), .unset, .unset] [(.int (0 : Int32))])) _
        refine XS.istore X180.here hx rfl (hb hby at_145) rfl (l' := #[.val (.int p0), .val (.int p1), .val (.ref b102), .val (.int (0 : Int32)), .val (.ref w_BENEFICIARY_ID), .val (.int (0 : Int32)), .unset]) rfl ?_
        show Steps p.tables e below (T180.setTop (mkF m 147 #[.val (.int p0), .val (.int p1), .val (.ref b102), .val (.int (0 : Int32)), .val (.ref w_BENEFICIARY_ID), .val (.int (0 : Int32)), .unset] [])) _
        refine XS.iloadN X180.here hx rfl (hb hby at_147) rfl ?_
        show Steps p.tables e below (T180.setTop (mkF m 148 #[.val (.int p0), .val (.int p1), .val (.ref b102), .val (.int (0 : Int32)), .val (.ref w_BENEFICIARY_ID), .val (.int (0 : Int32)), .unset] [(.int (0 : Int32))])) _
        refine XS.iconst X180.here hx rfl (hb hby at_148) ?_
        show Steps p.tables e below (T180.setTop (mkF m 149 #[.val (.int p0), .val (.int p1), .val (.ref b102), .val (.int (0 : Int32)), .val (.ref w_BENEFICIARY_ID), .val (.int (0 : Int32)), .unset] [(.int (5 : Int32)), (.int (0 : Int32))])) _
        refine XS.icmpNo X180.here hx rfl (hb hby at_149) rfl (tlt (by decide : (0 : Int32) < (5 : Int32))).2.1 ?_
        show Steps p.tables e below (T180.setTop (mkF m 152 #[.val (.int p0), .val (.int p1), .val (.ref b102), .val (.int (0 : Int32)), .val (.ref w_BENEFICIARY_ID), .val (.int (0 : Int32)), .unset] [])) _
        refine XS.iloadN X180.here hx rfl (hb hby at_152) rfl ?_
        show Steps p.tables e below (T180.setTop (mkF m 153 #[.val (.int p0), .val (.int p1), .val (.ref b102), .val (.int (0 : Int32)), .val (.ref w_BENEFICIARY_ID), .val (.int (0 : Int32)), .unset] [(.int p1)])) _
        refine XS.iconst X180.here hx rfl (hb hby at_153) ?_
        show Steps p.tables e below (T180.setTop (mkF m 154 #[.val (.int p0), .val (.int p1), .val (.ref b102), .val (.int (0 : Int32)), .val (.ref w_BENEFICIARY_ID), .val (.int (0 : Int32)), .unset] [(.int (2 : Int32)), (.int p1)])) _
        refine XS.icmpYes X180.here hx rfl (pc0 := 154) (pc' := 161) rfl (hb hby at_154) rfl (feq hl178).2 (by decide) (by decide) ?_
        show Steps p.tables e below (T180.setTop (mkF m 161 #[.val (.int p0), .val (.int p1), .val (.ref b102), .val (.int (0 : Int32)), .val (.ref w_BENEFICIARY_ID), .val (.int (0 : Int32)), .unset] [])) _
        refine XS.iconst X180.here hx rfl (hb hby at_161) ?_
        show Steps p.tables e below (T180.setTop (mkF m 162 #[.val (.int p0), .val (.int p1), .val (.ref b102), .val (.int (0 : Int32)), .val (.ref w_BENEFICIARY_ID), .val (.int (0 : Int32)), .unset] [(.int (0 : Int32))])) _
        refine XS.istore X180.here hx rfl (hb hby at_162) rfl (l' := #[.val (.int p0), .val (.int p1), .val (.ref b102), .val (.int (0 : Int32)), .val (.ref w_BENEFICIARY_ID), .val (.int (0 : Int32)), .val (.int (0 : Int32))]) rfl ?_
        show Steps p.tables e below (T180.setTop (mkF m 164 #[.val (.int p0), .val (.int p1), .val (.ref b102), .val (.int (0 : Int32)), .val (.ref w_BENEFICIARY_ID), .val (.int (0 : Int32)), .val (.int (0 : Int32))] [])) _
        refine XS.goto X180.here hx rfl (pc0 := 164) (pc' := 217) rfl (hb hby at_164) (by decide) (by decide) ?_
        show Steps p.tables e below (T180.setTop (mkF m 217 #[.val (.int p0), .val (.int p1), .val (.ref b102), .val (.int (0 : Int32)), .val (.ref w_BENEFICIARY_ID), .val (.int (0 : Int32)), .val (.int (0 : Int32))] [])) _
        refine XS.iload X180.here hx rfl (hb hby at_217) rfl ?_
        show Steps p.tables e below (T180.setTop (mkF m 219 #[.val (.int p0), .val (.int p1), .val (.ref b102), .val (.int (0 : Int32)), .val (.ref w_BENEFICIARY_ID), .val (.int (0 : Int32)), .val (.int (0 : Int32))] [(.int (0 : Int32))])) _
        refine XS.iload X180.here hx rfl (hb hby at_219) rfl ?_
        show Steps p.tables e below (T180.setTop (mkF m 221 #[.val (.int p0), .val (.int p1), .val (.ref b102), .val (.int (0 : Int32)), .val (.ref w_BENEFICIARY_ID), .val (.int (0 : Int32)), .val (.int (0 : Int32))] [(.int (0 : Int32)), (.int (0 : Int32))])) _
        refine XS.icmpNo X180.here hx rfl (hb hby at_221) rfl (teq (by decide : (0 : Int32) = (0 : Int32))).2 ?_
        show Steps p.tables e below (T180.setTop (mkF m 224 #[.val (.int p0), .val (.int p1), .val (.ref b102), .val (.int (0 : Int32)), .val (.ref w_BENEFICIARY_ID), .val (.int (0 : Int32)), .val (.int (0 : Int32))] [])) _
        refine XS.iconst X180.here hx rfl (hb hby at_224) ?_
        show Steps p.tables e below (T180.setTop (mkF m 225 #[.val (.int p0), .val (.int p1), .val (.ref b102), .val (.int (0 : Int32)), .val (.ref w_BENEFICIARY_ID), .val (.int (0 : Int32)), .val (.int (0 : Int32))] [(.int (1 : Int32))])) _
        refine XS.goto X180.here hx rfl (pc0 := 225) (pc' := 229) rfl (hb hby at_225) (by decide) (by decide) ?_
        show Steps p.tables e below (T180.setTop (mkF m 229 #[.val (.int p0), .val (.int p1), .val (.ref b102), .val (.int (0 : Int32)), .val (.ref w_BENEFICIARY_ID), .val (.int (0 : Int32)), .val (.int (0 : Int32))] [(.int (1 : Int32))])) _
        exact retN X180 hx (t := .boolean) Bd.returns (by simp) (hb hby at_229) hr
      · show own_Made (some (.int 1)) n0 _ T180.heap _
        rw [e180]
        exact ⟨rfl, N180, trivial⟩
  · -- (1 : Int32)
    obtain ⟨cl181, Ar181, q181, S181, N181_, H181_, G181⟩ := V156
    have hin181 : ¬ ((1 : Int32) < 0 ∨ cl181.slots.size ≤ ((1 : Int32)).toNatClampNeg) := inb_of S181 ⟨by decide, by decide⟩
    have hat181 : cl181.slots[((1 : Int32)).toNatClampNeg]? = some (.ref w_FLOOR_ID) := Has.at H181_ hin181 rfl
    have ck182 : ∀ t, Steps p.tables e below (T156.setTop (mkF m 142 #[.val (.int p0), .val (.int p1), .val (.ref b102), .val (.int (1 : Int32)), .val (.ref w_FLOOR_ID), .unset, .unset] [(.int p1), (.ref w_FLOOR_ID)])) t → Steps p.tables e below (s₁.setTop (entryFrame m #[(.int p0), (.int p1)] maxLocals)) t := by
      intro t kt
      refine ck157 _ ?_
      show Steps p.tables e below (T156.setTop (mkF m 133 #[.val (.int p0), .val (.int p1), .val (.ref b102), .unset, .unset, .unset, .unset] [(.int ((p0 &&& (2147483647 : Int32)) % (18 : Int32)))])) _
      rw [hv159]
      show Steps p.tables e below (T156.setTop (mkF m 133 #[.val (.int p0), .val (.int p1), .val (.ref b102), .unset, .unset, .unset, .unset] [(.int (1 : Int32))])) _
      refine XS.istoreN X156.here hx rfl (hb hby at_133) rfl (l' := #[.val (.int p0), .val (.int p1), .val (.ref b102), .val (.int (1 : Int32)), .unset, .unset, .unset]) rfl ?_
      show Steps p.tables e below (T156.setTop (mkF m 134 #[.val (.int p0), .val (.int p1), .val (.ref b102), .val (.int (1 : Int32)), .unset, .unset, .unset] [])) _
      refine XS.aloadN X156.here hx rfl (hb hby at_134) rfl rfl ?_
      show Steps p.tables e below (T156.setTop (mkF m 135 #[.val (.int p0), .val (.int p1), .val (.ref b102), .val (.int (1 : Int32)), .unset, .unset, .unset] [(.ref b102)])) _
      refine XS.iloadN X156.here hx rfl (hb hby at_135) rfl ?_
      show Steps p.tables e below (T156.setTop (mkF m 136 #[.val (.int p0), .val (.int p1), .val (.ref b102), .val (.int (1 : Int32)), .unset, .unset, .unset] [(.int (1 : Int32)), (.ref b102)])) _
      refine X156.aaload hx (j := (1 : Int32)) (v := (.ref w_FLOOR_ID)) (by rw [e156]; exact Ar181.1) (State.isArrayOf_alike hZ.alike Ar181.2.1) rfl Ar181.2.2 hin181 hat181 (g := (mkF m 136 #[.val (.int p0), .val (.int p1), .val (.ref b102), .val (.int (1 : Int32)), .unset, .unset, .unset] [(.int (1 : Int32)), (.ref b102)])) rfl rfl (hb hby at_136) _ ?_
      show Steps p.tables e below (T156.setTop (mkF m 137 #[.val (.int p0), .val (.int p1), .val (.ref b102), .val (.int (1 : Int32)), .unset, .unset, .unset] [(.ref w_FLOOR_ID)])) _
      refine XS.astore X156.here hx rfl (hb hby at_137) rfl rfl (l' := #[.val (.int p0), .val (.int p1), .val (.ref b102), .val (.int (1 : Int32)), .val (.ref w_FLOOR_ID), .unset, .unset]) rfl ?_
      show Steps p.tables e below (T156.setTop (mkF m 139 #[.val (.int p0), .val (.int p1), .val (.ref b102), .val (.int (1 : Int32)), .val (.ref w_FLOOR_ID), .unset, .unset] [])) _
      refine XS.aload X156.here hx rfl (hb hby at_139) rfl rfl ?_
      show Steps p.tables e below (T156.setTop (mkF m 141 #[.val (.int p0), .val (.int p1), .val (.ref b102), .val (.int (1 : Int32)), .val (.ref w_FLOOR_ID), .unset, .unset] [(.ref w_FLOOR_ID)])) _
      refine XS.iloadN X156.here hx rfl (hb hby at_141) rfl ?_
      exact kt
    (try clear hat181); (try clear hin181); (try clear G181); (try clear H181_); (try clear N181_); (try clear S181); (try clear q181); (try clear Ar181); (try clear cl181)
    by_cases hl183 : p1 = (2 : Int32)
    · skip
      obtain ⟨cq184, kq184, q184a, q184b, q184c⟩ := isOf hZ e156 ((E_FLOOR_ID.ext EX156))
      obtain ⟨_, _, ⟨T184, L184, k184, n184⟩, -, X184, ⟨Lc184, hQ184, l184, y184, z184⟩, st184⟩ := X156.virtualBack hx (y := (⟨"com/example/parley/parley/message/AttributeType", "accepts", "(I)Z"⟩ : MethodName)) (z := (⟨"com/example/parley/parley/message/AttributeType", "accepts", "(I)Z"⟩ : MethodName)) hown (mvT hZ (hw _ (List.mem_of_getElem? (i := 41) rfl))) (mvT hZ (hw _ (List.mem_of_getElem? (i := 42) rfl))) (notFace_of_selects (args := #[]) (mvT hZ (hw _ (List.mem_of_getElem? (i := 44) rfl)))) (mvT hZ (hw _ (List.mem_of_getElem? (i := 44) rfl))) (mvT hZ (hw _ (List.mem_of_getElem? (i := 43) rfl))) (by decide) (backOf (W := 0) (rm_acc_SIXTEEN_BITS l Z a0 hw [] w_FLOOR_ID p1 h156 n0 (Nat.le_trans Z0 EX156.1) w_SIXTEEN_BITS (F_FLOOR_ID_shape.ext EX156) (E_SIXTEEN_BITS.ext EX156) (F_SIXTEEN_BITS_ordinal.ext EX156) (1 : Int32) (if_pos hl183)) hZ (hw _ (List.mem_of_getElem? (i := 45) rfl)) (hw _ (List.mem_of_getElem? (i := 3) rfl)) (by decide) (by decide)) q184a q184c (g := (mkF m 142 #[.val (.int p0), .val (.int p1), .val (.ref b102), .val (.int (1 : Int32)), .val (.ref w_FLOOR_ID), .unset, .unset] [(.int p1), (.ref w_FLOOR_ID)])) rfl (by rw [hml]; rfl) (Steps.refl _) (argsL := [(.int p1)]) (rest := []) (lenOf pd_33 rfl) rfl (by show 2 * 0 + _ ≤ _; exact Nat.le_of_eq rfl) (hb hby at_142) (fun _ _ => ⟨rfl, e156, (by decide : 1 + 0 ≤ _), (by decide : 18 + 0 ≤ _)⟩)
      dsimp only [Pt.U, Pt.locs, Pt.cells, Pt.slots] at X184 l184 y184 z184 st184 hQ184
      subst l184 y184 z184
      obtain ⟨rfl, N184q, e184⟩ := hQ184
      have N184 := Fr.app N156 N184q
      obtain ⟨fs, hr, hrun, hended, hW, hsame⟩ := X184.leave (v := some (.int (1 : Int32))) (fun h => by rw [Bd.returns] at h; cases h)
      refine ⟨_, _, ck182 _ ?_, hrun, hended, _, _, rfl, ?_, ⟨_, rfl⟩, hW, hsame.mono (by decide) (by decide)⟩
      · show Steps p.tables e below (T156.setTop (mkF m 142 #[.val (.int p0), .val (.int p1), .val (.ref b102), .val (.int (1 : Int32)), .val (.ref w_FLOOR_ID), .unset, .unset] [(.int p1), (.ref w_FLOOR_ID)])) _
        refine st184.trans ?_
        show Steps p.tables e below (T184.setTop (mkF m 145 #[.val (.int p0), .val (.int p1), .val (.ref b102), .val (.int (1 : Int32)), .val (.ref w_FLOOR_ID), .unset, .unset] [(.int (1 : Int32))])) _
        refine XS.istore X184.here hx rfl (hb hby at_145) rfl (l' := #[.val (.int p0), .val (.int p1), .val (.ref b102), .val (.int (1 : Int32)), .val (.ref w_FLOOR_ID), .val (.int (1 : Int32)), .unset]) rfl ?_
        show Steps p.tables e below (T184.setTop (mkF m 147 #[.val (.int p0), .val (.int p1), .val (.ref b102), .val (.int (1 : Int32)), .val (.ref w_FLOOR_ID), .val (.int (1 : Int32)), .unset] [])) _
        refine XS.iloadN X184.here hx rfl (hb hby at_147) rfl ?_
        show Steps p.tables e below (T184.setTop (mkF m 148 #[.val (.int p0), .val (.int p1), .val (.ref b102), .val (.int (1 : Int32)), .val (.ref w_FLOOR_ID), .val (.int (1 : Int32)), .unset] [(.int (1 : Int32))])) _
        refine XS.iconst X184.here hx rfl (hb hby at_148) ?_
        show Steps p.tables e below (T184.setTop (mkF m 149 #[.val (.int p0), .val (.int p1), .val (.ref b102), .val (.int (1 : Int32)), .val (.ref w_FLOOR_ID), .val (.int (1 : Int32)), .unset] [(.int (5 : Int32)), (.int (1 : Int32))])) _
        refine XS.icmpNo X184.here hx rfl (hb hby at_149) rfl (tlt (by decide : (1 : Int32) < (5 : Int32))).2.1 ?_
        show Steps p.tables e below (T184.setTop (mkF m 152 #[.val (.int p0), .val (.int p1), .val (.ref b102), .val (.int (1 : Int32)), .val (.ref w_FLOOR_ID), .val (.int (1 : Int32)), .unset] [])) _
        refine XS.iloadN X184.here hx rfl (hb hby at_152) rfl ?_
        show Steps p.tables e below (T184.setTop (mkF m 153 #[.val (.int p0), .val (.int p1), .val (.ref b102), .val (.int (1 : Int32)), .val (.ref w_FLOOR_ID), .val (.int (1 : Int32)), .unset] [(.int p1)])) _
        refine XS.iconst X184.here hx rfl (hb hby at_153) ?_
        show Steps p.tables e below (T184.setTop (mkF m 154 #[.val (.int p0), .val (.int p1), .val (.ref b102), .val (.int (1 : Int32)), .val (.ref w_FLOOR_ID), .val (.int (1 : Int32)), .unset] [(.int (2 : Int32)), (.int p1)])) _
        refine XS.icmpNo X184.here hx rfl (hb hby at_154) rfl (teq hl183).2 ?_
        show Steps p.tables e below (T184.setTop (mkF m 157 #[.val (.int p0), .val (.int p1), .val (.ref b102), .val (.int (1 : Int32)), .val (.ref w_FLOOR_ID), .val (.int (1 : Int32)), .unset] [])) _
        refine XS.iconst X184.here hx rfl (hb hby at_157) ?_
        show Steps p.tables e below (T184.setTop (mkF m 158 #[.val (.int p0), .val (.int p1), .val (.ref b102), .val (.int (1 : Int32)), .val (.ref w_FLOOR_ID), .val (.int (1 : Int32)), .unset] [(.int (1 : Int32))])) _
        refine XS.goto X184.here hx rfl (pc0 := 158) (pc' := 162) rfl (hb hby at_158) (by decide) (by decide) ?_
        show Steps p.tables e below (T184.setTop (mkF m 162 #[.val (.int p0), .val (.int p1), .val (.ref b102), .val (.int (1 : Int32)), .val (.ref w_FLOOR_ID), .val (.int (1 : Int32)), .unset] [(.int (1 : Int32))])) _
        refine XS.istore X184.here hx rfl (hb hby at_162) rfl (l' := #[.val (.int p0), .val (.int p1), .val (.ref b102), .val (.int (1 : Int32)), .val (.ref w_FLOOR_ID), .val (.int (1 : Int32)), .val (.int (1 : Int32))]) rfl ?_
        show Steps p.tables e below (T184.setTop (mkF m 164 #[.val (.int p0), .val (.int p1), .val (.ref b102), .val (.int (1 : Int32)), .val (.ref w_FLOOR_ID), .val (.int (1 : Int32)), .val (.int (1 : Int32))] [])) _
        refine XS.goto X184.here hx rfl (pc0 := 164) (pc' := 217) rfl (hb hby at_164) (by decide) (by decide) ?_
        show Steps p.tables e below (T184.setTop (mkF m 217 #[.val (.int p0), .val (.int p1), .val (.ref b102), .val (.int (1 : Int32)), .val (.ref w_FLOOR_ID), .val (.int (1 : Int32)), .val (.int (1 : Int32))] [])) _
        refine XS.iload X184.here hx rfl (hb hby at_217) rfl ?_
        show Steps p.tables e below (T184.setTop (mkF m 219 #[.val (.int p0), .val (.int p1), .val (.ref b102), .val (.int (1 : Int32)), .val (.ref w_FLOOR_ID), .val (.int (1 : Int32)), .val (.int (1 : Int32))] [(.int (1 : Int32))])) _
        refine XS.iload X184.here hx rfl (hb hby at_219) rfl ?_
        show Steps p.tables e below (T184.setTop (mkF m 221 #[.val (.int p0), .val (.int p1), .val (.ref b102), .val (.int (1 : Int32)), .val (.ref w_FLOOR_ID), .val (.int (1 : Int32)), .val (.int (1 : Int32))] [(.int (1 : Int32)), (.int (1 : Int32))])) _
        refine XS.icmpNo X184.here hx rfl (hb hby at_221) rfl (teq (by decide : (1 : Int32) = (1 : Int32))).2 ?_
        show Steps p.tables e below (T184.setTop (mkF m 224 #[.val (.int p0), .val (.int p1), .val (.ref b102), .val (.int (1 : Int32)), .val (.ref w_FLOOR_ID), .val (.int (1 : Int32)), .val (.int (1 : Int32))] [])) _
        refine XS.iconst X184.here hx rfl (hb hby at_224) ?_
        show Steps p.tables e below (T184.setTop (mkF m 225 #[.val (.int p0), .val (.int p1), .val (.ref b102), .val (.int (1 : Int32)), .val (.ref w_FLOOR_ID), .val (.int (1 : Int32)), .val (.int (1 : Int32))] [(.int (1 : Int32))])) _
        refine XS.goto X184.here hx rfl (pc0 := 225) (pc' := 229) rfl (hb hby at_225) (by decide) (by decide) ?_
        show Steps p.tables e below (T184.setTop (mkF m 229 #[.val (.int p0), .val (.int p1), .val (.ref b102), .val (.int (1 : Int32)), .val (.ref w_FLOOR_ID), .val (.int (1 : Int32)), .val (.int (1 : Int32))] [(.int (1 : Int32))])) _
        exact retN X184 hx (t := .boolean) Bd.returns (by simp) (hb hby at_229) hr
      · show own_Made (some (.int 1)) n0 _ T184.heap _
        rw [e184]
        exact ⟨rfl, N184, trivial⟩
    · skip
      obtain ⟨cq185, kq185, q185a, q185b, q185c⟩ := isOf hZ e156 ((E_FLOOR_ID.ext EX156))
      obtain ⟨_, _, ⟨T185, L185, k185, n185⟩, -, X185, ⟨Lc185, hQ185, l185, y185, z185⟩, st185⟩ := X156.virtualBack hx (y := (⟨"com/example/parley/parley/message/AttributeType", "accepts", "(I)Z"⟩ : MethodName)) (z := (⟨"com/example/parley/parley/message/AttributeType", "accepts", "(I)Z"⟩ : MethodName)) hown (mvT hZ (hw _ (List.mem_of_getElem? (i := 41) rfl))) (mvT hZ (hw _ (List.mem_of_getElem? (i := 42) rfl))) (notFace_of_selects (args := #[]) (mvT hZ (hw _ (List.mem_of_getElem? (i := 44) rfl)))) (mvT hZ (hw _ (List.mem_of_getElem? (i := 44) rfl))) (mvT hZ (hw _ (List.mem_of_getElem? (i := 43) rfl))) (by decide) (backOf (W := 0) (rm_acc_SIXTEEN_BITS l Z a0 hw [] w_FLOOR_ID p1 h156 n0 (Nat.le_trans Z0 EX156.1) w_SIXTEEN_BITS (F_FLOOR_ID_shape.ext EX156) (E_SIXTEEN_BITS.ext EX156) (F_SIXTEEN_BITS_ordinal.ext EX156) (0 : Int32) (if_neg hl183)) hZ (hw _ (List.mem_of_getElem? (i := 45) rfl)) (hw _ (List.mem_of_getElem? (i := 3) rfl)) (by decide) (by decide)) q185a q185c (g := (mkF m 142 #[.val (.int p0), .val (.int p1), .val (.ref b102), .val (.int (1 : Int32)), .val (.ref w_FLOOR_ID), .unset, .unset] [(.int p1), (.ref w_FLOOR_ID)])) rfl (by rw [hml]; rfl) (Steps.refl _) (argsL := [(.int p1)]) (rest := []) (lenOf pd_33 rfl) rfl (by show 2 * 0 + _ ≤ _; exact Nat.le_of_eq rfl) (hb hby at_142) (fun _ _ => ⟨rfl, e156, (by decide : 1 + 0 ≤ _), (by decide : 18 + 0 ≤ _)⟩)
      dsimp only [Pt.U, Pt.locs, Pt.cells, Pt.slots] at X185 l185 y185 z185 st185 hQ185
      subst l185 y185 z185
      obtain ⟨rfl, N185q, e185⟩ := hQ185
      have N185 := Fr.app N156 N185q
      obtain ⟨fs, hr, hrun, hended, hW, hsame⟩ := X185.leave (v := some (.int (1 : Int32))) (fun h => by rw [Bd.returns] at h; cases h)
      refine ⟨_, _, ck182 _ ?_, hrun, hended, _, _, rfl, ?_, ⟨_, rfl⟩, hW, hsame.mono (by decide) (by decide)⟩
      · show Steps p.tables e below (T156.setTop (mkF m 142 #[.val (.int p0), .val (.int p1), .val (.ref b102), .val (.int (1 : Int32)), .val (.ref w_FLOOR_ID), .unset, .unset] [(.int p1), (.ref w_FLOOR_ID)])) _
        refine st185.trans ?_
        show Steps p.tables e below (T185.setTop (mkF m 145 #[.val (.int p0), .val (.int p1), .val (.ref b102), .val (.int (1 : Int32)), .val (.ref w_FLOOR_ID), .unset, .unset] [(.int (0 : Int32))])) _
        refine XS.istore X185.here hx rfl (hb hby at_145) rfl (l' := #[.val (.int p0), .val (.int p1), .val (.ref b102), .val (.int (1 : Int32)), .val (.ref w_FLOOR_ID), .val (.int (0 : Int32)), .unset]) rfl ?_
        show Steps p.tables e below (T185.setTop (mkF m 147 #[.val (.int p0), .val (.int p1), .val (.ref b102), .val (.int (1 : Int32)), .val (.ref w_FLOOR_ID), .val (.int (0 : Int32)), .unset] [])) _
        refine XS.iloadN X185.here hx rfl (hb hby at_147) rfl ?_
        show Steps p.tables e below (T185.setTop (mkF m 148 #[.val (.int p0), .val (.int p1), .val (.ref b102), .val (.int (1 : Int32)), .val (.ref w_FLOOR_ID), .val (.int (0 : Int32)), .unset] [(.int (1 : Int32))])) _
        refine XS.iconst X185.here hx rfl (hb hby at_148) ?_
        show Steps p.tables e below (T185.setTop (mkF m 149 #[.val (.int p0), .val (.int p1), .val (.ref b102), .val (.int (1 : Int32)), .val (.ref w_FLOOR_ID), .val (.int (0 : Int32)), .unset] [(.int (5 : Int32)), (.int (1 : Int32))])) _
        refine XS.icmpNo X185.here hx rfl (hb hby at_149) rfl (tlt (by decide : (1 : Int32) < (5 : Int32))).2.1 ?_
        show Steps p.tables e below (T185.setTop (mkF m 152 #[.val (.int p0), .val (.int p1), .val (.ref b102), .val (.int (1 : Int32)), .val (.ref w_FLOOR_ID), .val (.int (0 : Int32)), .unset] [])) _
        refine XS.iloadN X185.here hx rfl (hb hby at_152) rfl ?_
        show Steps p.tables e below (T185.setTop (mkF m 153 #[.val (.int p0), .val (.int p1), .val (.ref b102), .val (.int (1 : Int32)), .val (.ref w_FLOOR_ID), .val (.int (0 : Int32)), .unset] [(.int p1)])) _
        refine XS.iconst X185.here hx rfl (hb hby at_153) ?_
        show Steps p.tables e below (T185.setTop (mkF m 154 #[.val (.int p0), .val (.int p1), .val (.ref b102), .val (.int (1 : Int32)), .val (.ref w_FLOOR_ID), .val (.int (0 : Int32)), .unset] [(.int (2 : Int32)), (.int p1)])) _
        refine XS.icmpYes X185.here hx rfl (pc0 := 154) (pc' := 161) rfl (hb hby at_154) rfl (feq hl183).2 (by decide) (by decide) ?_
        show Steps p.tables e below (T185.setTop (mkF m 161 #[.val (.int p0), .val (.int p1), .val (.ref b102), .val (.int (1 : Int32)), .val (.ref w_FLOOR_ID), .val (.int (0 : Int32)), .unset] [])) _
        refine XS.iconst X185.here hx rfl (hb hby at_161) ?_
        show Steps p.tables e below (T185.setTop (mkF m 162 #[.val (.int p0), .val (.int p1), .val (.ref b102), .val (.int (1 : Int32)), .val (.ref w_FLOOR_ID), .val (.int (0 : Int32)), .unset] [(.int (0 : Int32))])) _
        refine XS.istore X185.here hx rfl (hb hby at_162) rfl (l' := #[.val (.int p0), .val (.int p1), .val (.ref b102), .val (.int (1 : Int32)), .val (.ref w_FLOOR_ID), .val (.int (0 : Int32)), .val (.int (0 : Int32))]) rfl ?_
        show Steps p.tables e below (T185.setTop (mkF m 164 #[.val (.int p0), .val (.int p1), .val (.ref b102), .val (.int (1 : Int32)), .val (.ref w_FLOOR_ID), .val (.int (0 : Int32)), .val (.int (0 : Int32))] [])) _
        refine XS.goto X185.here hx rfl (pc0 := 164) (pc' := 217) rfl (hb hby at_164) (by decide) (by decide) ?_
        show Steps p.tables e below (T185.setTop (mkF m 217 #[.val (.int p0), .val (.int p1), .val (.ref b102), .val (.int (1 : Int32)), .val (.ref w_FLOOR_ID), .val (.int (0 : Int32)), .val (.int (0 : Int32))] [])) _
        refine XS.iload X185.here hx rfl (hb hby at_217) rfl ?_
        show Steps p.tables e below (T185.setTop (mkF m 219 #[.val (.int p0), .val (.int p1), .val (.ref b102), .val (.int (1 : Int32)), .val (.ref w_FLOOR_ID), .val (.int (0 : Int32)), .val (.int (0 : Int32))] [(.int (0 : Int32))])) _
        refine XS.iload X185.here hx rfl (hb hby at_219) rfl ?_
        show Steps p.tables e below (T185.setTop (mkF m 221 #[.val (.int p0), .val (.int p1), .val (.ref b102), .val (.int (1 : Int32)), .val (.ref w_FLOOR_ID), .val (.int (0 : Int32)), .val (.int (0 : Int32))] [(.int (0 : Int32)), (.int (0 : Int32))])) _
        refine XS.icmpNo X185.here hx rfl (hb hby at_221) rfl (teq (by decide : (0 : Int32) = (0 : Int32))).2 ?_
        show Steps p.tables e below (T185.setTop (mkF m 224 #[.val (.int p0), .val (.int p1), .val (.ref b102), .val (.int (1 : Int32)), .val (.ref w_FLOOR_ID), .val (.int (0 : Int32)), .val (.int (0 : Int32))] [])) _
        refine XS.iconst X185.here hx rfl (hb hby at_224) ?_
        show Steps p.tables e below (T185.setTop (mkF m 225 #[.val (.int p0), .val (.int p1), .val (.ref b102), .val (.int (1 : Int32)), .val (.ref w_FLOOR_ID), .val (.int (0 : Int32)), .val (.int (0 : Int32))] [(.int (1 : Int32))])) _
        refine XS.goto X185.here hx rfl (pc0 := 225) (pc' := 229) rfl (hb hby at_225) (by decide) (by decide) ?_
        show Steps p.tables e below (T185.setTop (mkF m 229 #[.val (.int p0), .val (.int p1), .val (.ref b102), .val (.int (1 : Int32)), .val (.ref w_FLOOR_ID), .val (.int (0 : Int32)), .val (.int (0 : Int32))] [(.int (1 : Int32))])) _
        exact retN X185 hx (t := .boolean) Bd.returns (by simp) (hb hby at_229) hr
      · show own_Made (some (.int 1)) n0 _ T185.heap _
        rw [e185]
        exact ⟨rfl, N185, trivial⟩
  · -- (2 : Int32)
    obtain ⟨cl186, Ar186, q186, S186, N186_, H186_, G186⟩ := V156
    have hin186 : ¬ ((2 : Int32) < 0 ∨ cl186.slots.size ≤ ((2 : Int32)).toNatClampNeg) := inb_of S186 ⟨by decide, by decide⟩
    have hat186 : cl186.slots[((2 : Int32)).toNatClampNeg]? = some (.ref w_FLOOR_REQUEST_ID) := Has.at H186_ hin186 rfl
    have ck187 : ∀ t, Steps p.tables e below (T156.setTop (mkF m 142 #[.val (.int p0), .val (.int p1), .val (.ref b102), .val (.int (2 : Int32)), .val (.ref w_FLOOR_REQUEST_ID), .unset, .unset] [(.int p1), (.ref w_FLOOR_REQUEST_ID)])) t → Steps p.tables e below (s₁.setTop (entryFrame m #[(.int p0), (.int p1)] maxLocals)) t := by
      intro t kt
      refine ck157 _ ?_
      show Steps p.tables e below (T156.setTop (mkF m 133 #[.val (.int p0), .val (.int p1), .val (.ref b102), .unset, .unset, .unset, .unset] [(.int ((p0 &&& (2147483647 : Int32)) % (18 : Int32)))])) _
      rw [hv160]
      show Steps p.tables e below (T156.setTop (mkF m 133 #[.val (.int p0), .val (.int p1), .val (.ref b102), .unset, .unset, .unset, .unset] [(.int (2 : Int32))])) _
      refine XS.istoreN X156.here hx rfl (hb hby at_133) rfl (l' := #[.val (.int p0), .val (.int p1), .val (.ref b102), .val (.int (2 : Int32)), .unset, .unset, .unset]) rfl ?_
      show Steps p.tables e below (T156.setTop (mkF m 134 #[.val (.int p0), .val (.int p1), .val (.ref b102), .val (.int (2 : Int32)), .unset, .unset, .unset] [])) _
      refine XS.aloadN X156.here hx rfl (hb hby at_134) rfl rfl ?_
      show Steps p.tables e below (T156.setTop (mkF m 135 #[.val (.int p0), .val (.int p1), .val (.ref b102), .val (.int (2 : Int32)), .unset, .unset, .unset] [(.ref b102)])) _
      refine XS.iloadN X156.here hx rfl (hb hby at_135) rfl ?_
      show Steps p.tables e below (T156.setTop (mkF m 136 #[.val (.int p0), .val (.int p1), .val (.ref b102), .val (.int (2 : Int32)), .unset, .unset, .unset] [(.int (2 : Int32)), (.ref b102)])) _
      refine X156.aaload hx (j := (2 : Int32)) (v := (.ref w_FLOOR_REQUEST_ID)) (by rw [e156]; exact Ar186.1) (State.isArrayOf_alike hZ.alike Ar186.2.1) rfl Ar186.2.2 hin186 hat186 (g := (mkF m 136 #[.val (.int p0), .val (.int p1), .val (.ref b102), .val (.int (2 : Int32)), .unset, .unset, .unset] [(.int (2 : Int32)), (.ref b102)])) rfl rfl (hb hby at_136) _ ?_
      show Steps p.tables e below (T156.setTop (mkF m 137 #[.val (.int p0), .val (.int p1), .val (.ref b102), .val (.int (2 : Int32)), .unset, .unset, .unset] [(.ref w_FLOOR_REQUEST_ID)])) _
      refine XS.astore X156.here hx rfl (hb hby at_137) rfl rfl (l' := #[.val (.int p0), .val (.int p1), .val (.ref b102), .val (.int (2 : Int32)), .val (.ref w_FLOOR_REQUEST_ID), .unset, .unset]) rfl ?_
      show Steps p.tables e below (T156.setTop (mkF m 139 #[.val (.int p0), .val (.int p1), .val (.ref b102), .val (.int (2 : Int32)), .val (.ref w_FLOOR_REQUEST_ID), .unset, .unset] [])) _
      refine XS.aload X156.here hx rfl (hb hby at_139) rfl rfl ?_
      show Steps p.tables e below (T156.setTop (mkF m 141 #[.val (.int p0), .val (.int p1), .val (.ref b102), .val (.int (2 : Int32)), .val (.ref w_FLOOR_REQUEST_ID), .unset, .unset] [(.ref w_FLOOR_REQUEST_ID)])) _
      refine XS.iloadN X156.here hx rfl (hb hby at_141) rfl ?_
      exact kt
    (try clear hat186); (try clear hin186); (try clear G186); (try clear H186_); (try clear N186_); (try clear S186); (try clear q186); (try clear Ar186); (try clear cl186)
    by_cases hl188 : p1 = (2 : Int32)
    · skip
      obtain ⟨cq189, kq189, q189a, q189b, q189c⟩ := isOf hZ e156 ((E_FLOOR_REQUEST_ID.ext EX156))
      obtain ⟨_, _, ⟨T189, L189, k189, n189⟩, -, X189, ⟨Lc189, hQ189, l189, y189, z189⟩, st189⟩ := X156.virtualBack hx (y := (⟨"com/example/parley/parley/message/AttributeType", "accepts", "(I)Z"⟩ : MethodName)) (z := (⟨"com/example/parley/parley/message/AttributeType", "accepts", "(I)Z"⟩ : MethodName)) hown (mvT hZ (hw _ (List.mem_of_getElem? (i := 41) rfl))) (mvT hZ (hw _ (List.mem_of_getElem? (i := 42) rfl))) (notFace_of_selects (args := #[]) (mvT hZ (hw _ (List.mem_of_getElem? (i := 44) rfl)))) (mvT hZ (hw _ (List.mem_of_getElem? (i := 44) rfl))) (mvT hZ (hw _ (List.mem_of_getElem? (i := 43) rfl))) (by decide) (backOf (W := 0) (rm_acc_SIXTEEN_BITS l Z a0 hw [] w_FLOOR_REQUEST_ID p1 h156 n0 (Nat.le_trans Z0 EX156.1) w_SIXTEEN_BITS (F_FLOOR_REQUEST_ID_shape.ext EX156) (E_SIXTEEN_BITS.ext EX156) (F_SIXTEEN_BITS_ordinal.ext EX156) (1 : Int32) (if_pos hl188)) hZ (hw _ (List.mem_of_getElem? (i := 45) rfl)) (hw _ (List.mem_of_getElem? (i := 3) rfl)) (by decide) (by decide)) q189a q189c (g := (mkF m 142 #[.val (.int p0), .val (.int p1), .val (.ref b102), .val (.int (2 : Int32)), .val (.ref w_FLOOR_REQUEST_ID), .unset, .unset] [(.int p1), (.ref w_FLOOR_REQUEST_ID)])) rfl (by rw [hml]; rfl) (Steps.refl _) (argsL := [(.int p1)]) (rest := []) (lenOf pd_33 rfl) rfl (by show 2 * 0 + _ ≤ _; exact Nat.le_of_eq rfl) (hb hby at_142) (fun _ _ => ⟨rfl, e156, (by decide : 1 + 0 ≤ _), (by decide : 18 + 0 ≤ _)⟩)
      dsimp only [Pt.U, Pt.locs, Pt.cells, Pt.slots] at X189 l189 y189 z189 st189 hQ189
      subst l189 y189 z189
      obtain ⟨rfl, N189q, e189⟩ := hQ189
      have N189 := Fr.app N156 N189q
      obtain ⟨fs, hr, hrun, hended, hW, hsame⟩ := X189.leave (v := some (.int (1 : Int32))) (fun h => by rw [Bd.returns] at h; cases h)
      refine ⟨_, _, ck187 _ ?_, hrun, hended, _, _, rfl, ?_, ⟨_, rfl⟩, hW, hsame.mono (by decide) (by decide)⟩
      · show Steps p.tables e below (T156.setTop (mkF m 142 #[.val (.int p0), .val (.int p1), .val (.ref b102), .val (.int (2 : Int32)), .val (.ref w_FLOOR_REQUEST_ID), .unset, .unset] [(.int p1), (.ref w_FLOOR_REQUEST_ID)])) _
        refine st189.trans ?_
        show Steps p.tables e below (T189.setTop (mkF m 145 #[.val (.int p0), .val (.int p1), .val (.ref b102), .val (.int (2 : Int32)), .val (.ref w_FLOOR_REQUEST_ID), .unset, .unset] [(.int (1 : Int32))])) _
        refine XS.istore X189.here hx rfl (hb hby at_145) rfl (l' := #[.val (.int p0), .val (.int p1), .val (.ref b102), .val (.int (2 : Int32)), .val (.ref w_FLOOR_REQUEST_ID), .val (.int (1 : Int32)), .unset]) rfl ?_
        show Steps p.tables e below (T189.setTop (mkF m 147 #[.val (.int p0), .val (.int p1), .val (.ref b102), .val (.int (2 : Int32)), .val (.ref w_FLOOR_REQUEST_ID), .val (.int (1 : Int32)), .unset] [])) _
        refine XS.iloadN X189.here hx rfl (hb hby at_147) rfl ?_
        show Steps p.tables e below (T189.setTop (mkF m 148 #[.val (.int p0), .val (.int p1), .val (.ref b102), .val (.int (2 : Int32)), .val (.ref w_FLOOR_REQUEST_ID), .val (.int (1 : Int32)), .unset] [(.int (2 : Int32))])) _
        refine XS.iconst X189.here hx rfl (hb hby at_148) ?_
        show Steps p.tables e below (T189.setTop (mkF m 149 #[.val (.int p0), .val (.int p1), .val (.ref b102), .val (.int (2 : Int32)), .val (.ref w_FLOOR_REQUEST_ID), .val (.int (1 : Int32)), .unset] [(.int (5 : Int32)), (.int (2 : Int32))])) _
        refine XS.icmpNo X189.here hx rfl (hb hby at_149) rfl (tlt (by decide : (2 : Int32) < (5 : Int32))).2.1 ?_
        show Steps p.tables e below (T189.setTop (mkF m 152 #[.val (.int p0), .val (.int p1), .val (.ref b102), .val (.int (2 : Int32)), .val (.ref w_FLOOR_REQUEST_ID), .val (.int (1 : Int32)), .unset] [])) _
        refine XS.iloadN X189.here hx rfl (hb hby at_152) rfl ?_
        show Steps p.tables e below (T189.setTop (mkF m 153 #[.val (.int p0), .val (.int p1), .val (.ref b102), .val (.int (2 : Int32)), .val (.ref w_FLOOR_REQUEST_ID), .val (.int (1 : Int32)), .unset] [(.int p1)])) _
        refine XS.iconst X189.here hx rfl (hb hby at_153) ?_
        show Steps p.tables e below (T189.setTop (mkF m 154 #[.val (.int p0), .val (.int p1), .val (.ref b102), .val (.int (2 : Int32)), .val (.ref w_FLOOR_REQUEST_ID), .val (.int (1 : Int32)), .unset] [(.int (2 : Int32)), (.int p1)])) _
        refine XS.icmpNo X189.here hx rfl (hb hby at_154) rfl (teq hl188).2 ?_
        show Steps p.tables e below (T189.setTop (mkF m 157 #[.val (.int p0), .val (.int p1), .val (.ref b102), .val (.int (2 : Int32)), .val (.ref w_FLOOR_REQUEST_ID), .val (.int (1 : Int32)), .unset] [])) _
        refine XS.iconst X189.here hx rfl (hb hby at_157) ?_
        show Steps p.tables e below (T189.setTop (mkF m 158 #[.val (.int p0), .val (.int p1), .val (.ref b102), .val (.int (2 : Int32)), .val (.ref w_FLOOR_REQUEST_ID), .val (.int (1 : Int32)), .unset] [(.int (1 : Int32))])) _
        refine XS.goto X189.here hx rfl (pc0 := 158) (pc' := 162) rfl (hb hby at_158) (by decide) (by decide) ?_
        show Steps p.tables e below (T189.setTop (mkF m 162 #[.val (.int p0), .val (.int p1), .val (.ref b102), .val (.int (2 : Int32)), .val (.ref w_FLOOR_REQUEST_ID), .val (.int (1 : Int32)), .unset] [(.int (1 : Int32))])) _
        refine XS.istore X189.here hx rfl (hb hby at_162) rfl (l' := #[.val (.int p0), .val (.int p1), .val (.ref b102), .val (.int (2 : Int32)), .val (.ref w_FLOOR_REQUEST_ID), .val (.int (1 : Int32)), .val (.int (1 : Int32))]) rfl ?_
        show Steps p.tables e below (T189.setTop (mkF m 164 #[.val (.int p0), .val (.int p1), .val (.ref b102), .val (.int (2 : Int32)), .val (.ref w_FLOOR_REQUEST_ID), .val (.int (1 : Int32)), .val (.int (1 : Int32))] [])) _
        refine XS.goto X189.here hx rfl (pc0 := 164) (pc' := 217) rfl (hb hby at_164) (by decide) (by decide) ?_
        show Steps p.tables e below (T189.setTop (mkF m 217 #[.val (.int p0), .val (.int p1), .val (.ref b102), .val (.int (2 : Int32)), .val (.ref w_FLOOR_REQUEST_ID), .val (.int (1 : Int32)), .val (.int (1 : Int32))] [])) _
        refine XS.iload X189.here hx rfl (hb hby at_217) rfl ?_
        show Steps p.tables e below (T189.setTop (mkF m 219 #[.val (.int p0), .val (.int p1), .val (.ref b102), .val (.int (2 : Int32)), .val (.ref w_FLOOR_REQUEST_ID), .val (.int (1 : Int32)), .val (.int (1 : Int32))] [(.int (1 : Int32))])) _
        refine XS.iload X189.here hx rfl (hb hby at_219) rfl ?_
        show Steps p.tables e below (T189.setTop (mkF m 221 #[.val (.int p0), .val (.int p1), .val (.ref b102), .val (.int (2 : Int32)), .val (.ref w_FLOOR_REQUEST_ID), .val (.int (1 : Int32)), .val (.int (1 : Int32))] [(.int (1 : Int32)), (.int (1 : Int32))])) _
        refine XS.icmpNo X189.here hx rfl (hb hby at_221) rfl (teq (by decide : (1 : Int32) = (1 : Int32))).2 ?_
        show Steps p.tables e below (T189.setTop (mkF m 224 #[.val (.int p0), .val (.int p1), .val (.ref b102), .val (.int (2 : Int32)), .val (.ref w_FLOOR_REQUEST_ID), .val (.int (1 : Int32)), .val (.int (1 : Int32))] [])) _
        refine XS.iconst X189.here hx rfl (hb hby at_224) ?_
        show Steps p.tables e below (T189.setTop (mkF m 225 #[.val (.int p0), .val (.int p1), .val (.ref b102), .val (.int (2 : Int32)), .val (.ref w_FLOOR_REQUEST_ID), .val (.int (1 : Int32)), .val (.int (1 : Int32))] [(.int (1 : Int32))])) _
        refine XS.goto X189.here hx rfl (pc0 := 225) (pc' := 229) rfl (hb hby at_225) (by decide) (by decide) ?_
        show Steps p.tables e below (T189.setTop (mkF m 229 #[.val (.int p0), .val (.int p1), .val (.ref b102), .val (.int (2 : Int32)), .val (.ref w_FLOOR_REQUEST_ID), .val (.int (1 : Int32)), .val (.int (1 : Int32))] [(.int (1 : Int32))])) _
        exact retN X189 hx (t := .boolean) Bd.returns (by simp) (hb hby at_229) hr
      · show own_Made (some (.int 1)) n0 _ T189.heap _
        rw [e189]
        exact ⟨rfl, N189, trivial⟩
    · skip
      obtain ⟨cq190, kq190, q190a, q190b, q190c⟩ := isOf hZ e156 ((E_FLOOR_REQUEST_ID.ext EX156))
      obtain ⟨_, _, ⟨T190, L190, k190, n190⟩, -, X190, ⟨Lc190, hQ190, l190, y190, z190⟩, st190⟩ := X156.virtualBack hx (y := (⟨"com/example/parley/parley/message/AttributeType", "accepts", "(I)Z"⟩ : MethodName)) (z := (⟨"com/example/parley/parley/message/AttributeType", "accepts", "(I)Z"⟩ : MethodName)) hown (mvT hZ (hw _ (List.mem_of_getElem? (i := 41) rfl))) (mvT hZ (hw _ (List.mem_of_getElem? (i := 42) rfl))) (notFace_of_selects (args := #[]) (mvT hZ (hw _ (List.mem_of_getElem? (i := 44) rfl)))) (mvT hZ (hw _ (List.mem_of_getElem? (i := 44) rfl))) (mvT hZ (hw _ (List.mem_of_getElem? (i := 43) rfl))) (by decide) (backOf (W := 0) (rm_acc_SIXTEEN_BITS l Z a0 hw [] w_FLOOR_REQUEST_ID p1 h156 n0 (Nat.le_trans Z0 EX156.1) w_SIXTEEN_BITS (F_FLOOR_REQUEST_ID_shape.ext EX156) (E_SIXTEEN_BITS.ext EX156) (F_SIXTEEN_BITS_ordinal.ext EX156) (0 : Int32) (if_neg hl188)) hZ (hw _ (List.mem_of_getElem? (i := 45) rfl)) (hw _ (List.mem_of_getElem? (i := 3) rfl)) (by decide) (by decide)) q190a q190c (g := (mkF m 142 #[.val (.int p0), .val (.int p1), .val (.ref b102), .val (.int (2 : Int32)), .val (.ref w_FLOOR_REQUEST_ID), .unset, .unset] [(.int p1), (.ref w_FLOOR_REQUEST_ID)])) rfl (by rw [hml]; rfl) (Steps.refl _) (argsL := [(.int p1)]) (rest := []) (lenOf pd_33 rfl) rfl (by show 2 * 0 + _ ≤ _; exact Nat.le_of_eq rfl) (hb hby at_142) (fun _ _ => ⟨rfl, e156, (by decide : 1 + 0 ≤ _), (by decide : 18 + 0 ≤ _)⟩)
      dsimp only [Pt.U, Pt.locs, Pt.cells, Pt.slots] at X190 l190 y190 z190 st190 hQ190
      subst l190 y190 z190
      obtain ⟨rfl, N190q, e190⟩ := hQ190
      have N190 := Fr.app N156 N190q
      obtain ⟨fs, hr, hrun, hended, hW, hsame⟩ := X190.leave (v := some (.int (1 : Int32))) (fun h => by rw [Bd.returns] at h; cases h)
      refine ⟨_, _, ck187 _ ?_, hrun, hended, _, _, rfl, ?_, ⟨_, rfl⟩, hW, hsame.mono (by decide) (by decide)⟩
      · show Steps p.tables e below (T156.setTop (mkF m 142 #[.val (.int p0), .val (.int p1), .val (.ref b102), .val (.int (2 : Int32)), .val (.ref w_FLOOR_REQUEST_ID), .unset, .unset] [(.int p1), (.ref w_FLOOR_REQUEST_ID)])) _
        refine st190.trans ?_
        show Steps p.tables e below (T190.setTop (mkF m 145 #[.val (.int p0), .val (.int p1), .val (.ref b102), .val (.int (2 : Int32)), .val (.ref w_FLOOR_REQUEST_ID), .unset, .unset] [(.int (0 : Int32))])) _
        refine XS.istore X190.here hx rfl (hb hby at_145) rfl (l' := #[.val (.int p0), .val (.int p1), .val (.ref b102), .val (.int (2 : Int32)), .val (.ref w_FLOOR_REQUEST_ID), .val (.int (0 : Int32)), .unset]) rfl ?_
        show Steps p.tables e below (T190.setTop (mkF m 147 #[.val (.int p0), .val (.int p1), .val (.ref b102), .val (.int (2 : Int32)), .val (.ref w_FLOOR_REQUEST_ID), .val (.int (0 : Int32)), .unset] [])) _
        refine XS.iloadN X190.here hx rfl (hb hby at_147) rfl ?_
        show Steps p.tables e below (T190.setTop (mkF m 148 #[.val (.int p0), .val (.int p1), .val (.ref b102), .val (.int (2 : Int32)), .val (.ref w_FLOOR_REQUEST_ID), .val (.int (0 : Int32)), .unset] [(.int (2 : Int32))])) _
        refine XS.iconst X190.here hx rfl (hb hby at_148) ?_
        show Steps p.tables e below (T190.setTop (mkF m 149 #[.val (.int p0), .val (.int p1), .val (.ref b102), .val (.int (2 : Int32)), .val (.ref w_FLOOR_REQUEST_ID), .val (.int (0 : Int32)), .unset] [(.int (5 : Int32)), (.int (2 : Int32))])) _
        refine XS.icmpNo X190.here hx rfl (hb hby at_149) rfl (tlt (by decide : (2 : Int32) < (5 : Int32))).2.1 ?_
        show Steps p.tables e below (T190.setTop (mkF m 152 #[.val (.int p0), .val (.int p1), .val (.ref b102), .val (.int (2 : Int32)), .val (.ref w_FLOOR_REQUEST_ID), .val (.int (0 : Int32)), .unset] [])) _
        refine XS.iloadN X190.here hx rfl (hb hby at_152) rfl ?_
        show Steps p.tables e below (T190.setTop (mkF m 153 #[.val (.int p0), .val (.int p1), .val (.ref b102), .val (.int (2 : Int32)), .val (.ref w_FLOOR_REQUEST_ID), .val (.int (0 : Int32)), .unset] [(.int p1)])) _
        refine XS.iconst X190.here hx rfl (hb hby at_153) ?_
        show Steps p.tables e below (T190.setTop (mkF m 154 #[.val (.int p0), .val (.int p1), .val (.ref b102), .val (.int (2 : Int32)), .val (.ref w_FLOOR_REQUEST_ID), .val (.int (0 : Int32)), .unset] [(.int (2 : Int32)), (.int p1)])) _
        refine XS.icmpYes X190.here hx rfl (pc0 := 154) (pc' := 161) rfl (hb hby at_154) rfl (feq hl188).2 (by decide) (by decide) ?_
        show Steps p.tables e below (T190.setTop (mkF m 161 #[.val (.int p0), .val (.int p1), .val (.ref b102), .val (.int (2 : Int32)), .val (.ref w_FLOOR_REQUEST_ID), .val (.int (0 : Int32)), .unset] [])) _
        refine XS.iconst X190.here hx rfl (hb hby at_161) ?_
        show Steps p.tables e below (T190.setTop (mkF m 162 #[.val (.int p0), .val (.int p1), .val (.ref b102), .val (.int (2 : Int32)), .val (.ref w_FLOOR_REQUEST_ID), .val (.int (0 : Int32)), .unset] [(.int (0 : Int32))])) _
        refine XS.istore X190.here hx rfl (hb hby at_162) rfl (l' := #[.val (.int p0), .val (.int p1), .val (.ref b102), .val (.int (2 : Int32)), .val (.ref w_FLOOR_REQUEST_ID), .val (.int (0 : Int32)), .val (.int (0 : Int32))]) rfl ?_
        show Steps p.tables e below (T190.setTop (mkF m 164 #[.val (.int p0), .val (.int p1), .val (.ref b102), .val (.int (2 : Int32)), .val (.ref w_FLOOR_REQUEST_ID), .val (.int (0 : Int32)), .val (.int (0 : Int32))] [])) _
        refine XS.goto X190.here hx rfl (pc0 := 164) (pc' := 217) rfl (hb hby at_164) (by decide) (by decide) ?_
        show Steps p.tables e below (T190.setTop (mkF m 217 #[.val (.int p0), .val (.int p1), .val (.ref b102), .val (.int (2 : Int32)), .val (.ref w_FLOOR_REQUEST_ID), .val (.int (0 : Int32)), .val (.int (0 : Int32))] [])) _
        refine XS.iload X190.here hx rfl (hb hby at_217) rfl ?_
        show Steps p.tables e below (T190.setTop (mkF m 219 #[.val (.int p0), .val (.int p1), .val (.ref b102), .val (.int (2 : Int32)), .val (.ref w_FLOOR_REQUEST_ID), .val (.int (0 : Int32)), .val (.int (0 : Int32))] [(.int (0 : Int32))])) _
        refine XS.iload X190.here hx rfl (hb hby at_219) rfl ?_
        show Steps p.tables e below (T190.setTop (mkF m 221 #[.val (.int p0), .val (.int p1), .val (.ref b102), .val (.int (2 : Int32)), .val (.ref w_FLOOR_REQUEST_ID), .val (.int (0 : Int32)), .val (.int (0 : Int32))] [(.int (0 : Int32)), (.int (0 : Int32))])) _
        refine XS.icmpNo X190.here hx rfl (hb hby at_221) rfl (teq (by decide : (0 : Int32) = (0 : Int32))).2 ?_
        show Steps p.tables e below (T190.setTop (mkF m 224 #[.val (.int p0), .val (.int p1), .val (.ref b102), .val (.int (2 : Int32)), .val (.ref w_FLOOR_REQUEST_ID), .val (.int (0 : Int32)), .val (.int (0 : Int32))] [])) _
        refine XS.iconst X190.here hx rfl (hb hby at_224) ?_
        show Steps p.tables e below (T190.setTop (mkF m 225 #[.val (.int p0), .val (.int p1), .val (.ref b102), .val (.int (2 : Int32)), .val (.ref w_FLOOR_REQUEST_ID), .val (.int (0 : Int32)), .val (.int (0 : Int32))] [(.int (1 : Int32))])) _
        refine XS.goto X190.here hx rfl (pc0 := 225) (pc' := 229) rfl (hb hby at_225) (by decide) (by decide) ?_
        show Steps p.tables e below (T190.setTop (mkF m 229 #[.val (.int p0), .val (.int p1), .val (.ref b102), .val (.int (2 : Int32)), .val (.ref w_FLOOR_REQUEST_ID), .val (.int (0 : Int32)), .val (.int (0 : Int32))] [(.int (1 : Int32))])) _
        exact retN X190 hx (t := .boolean) Bd.returns (by simp) (hb hby at_229) hr
      · show own_Made (some (.int 1)) n0 _ T190.heap _
        rw [e190]
        exact ⟨rfl, N190, trivial⟩
  · -- (3 : Int32)
    obtain ⟨cl191, Ar191, q191, S191, N191_, H191_, G191⟩ := V156
    have hin191 : ¬ ((3 : Int32) < 0 ∨ cl191.slots.size ≤ ((3 : Int32)).toNatClampNeg) := inb_of S191 ⟨by decide, by decide⟩
    have hat191 : cl191.slots[((3 : Int32)).toNatClampNeg]? = some (.ref w_PRIORITY) := Has.at H191_ hin191 rfl
    have ck192 : ∀ t, Steps p.tables e below (T156.setTop (mkF m 142 #[.val (.int p0), .val (.int p1), .val (.ref b102), .val (.int (3 : Int32)), .val (.ref w_PRIORITY), .unset, .unset] [(.int p1), (.ref w_PRIORITY)])) t → Steps p.tables e below (s₁.setTop (entryFrame m #[(.int p0), (.int p1)] maxLocals)) t := by
      intro t kt
      refine ck157 _ ?_
      show Steps p.tables e below (T156.setTop (mkF m 133 #[.val (.int p0), .val (.int p1), .val (.ref b102), .unset, .unset, .unset, .unset] [(.int ((p0 &&& (2147483647 : Int32)) % (18 : Int32)))])) _
      rw [hv161]
      show Steps p.tables e below (T156.setTop (mkF m 133 #[.val (.int p0), .val (.int p1), .val (.ref b102), .unset, .unset, .unset, .unset] [(.int (3 : Int32))])) _
      refine XS.istoreN X156.here hx rfl (hb hby at_133) rfl (l' := #[.val (.int p0), .val (.int p1), .val (.ref b102), .val (.int (3 : Int32)), .unset, .unset, .unset]) rfl ?_
      show Steps p.tables e below (T156.setTop (mkF m 134 #[.val (.int p0), .val (.int p1), .val (.ref b102), .val (.int (3 : Int32)), .unset, .unset, .unset] [])) _
      refine XS.aloadN X156.here hx rfl (hb hby at_134) rfl rfl ?_
      show Steps p.tables e below (T156.setTop (mkF m 135 #[.val (.int p0), .val (.int p1), .val (.ref b102), .val (.int (3 : Int32)), .unset, .unset, .unset] [(.ref b102)])) _
      refine XS.iloadN X156.here hx rfl (hb hby at_135) rfl ?_
      show Steps p.tables e below (T156.setTop (mkF m 136 #[.val (.int p0), .val (.int p1), .val (.ref b102), .val (.int (3 : Int32)), .unset, .unset, .unset] [(.int (3 : Int32)), (.ref b102)])) _
      refine X156.aaload hx (j := (3 : Int32)) (v := (.ref w_PRIORITY)) (by rw [e156]; exact Ar191.1) (State.isArrayOf_alike hZ.alike Ar191.2.1) rfl Ar191.2.2 hin191 hat191 (g := (mkF m 136 #[.val (.int p0), .val (.int p1), .val (.ref b102), .val (.int (3 : Int32)), .unset, .unset, .unset] [(.int (3 : Int32)), (.ref b102)])) rfl rfl (hb hby at_136) _ ?_
      show Steps p.tables e below (T156.setTop (mkF m 137 #[.val (.int p0), .val (.int p1), .val (.ref b102), .val (.int (3 : Int32)), .unset, .unset, .unset] [(.ref w_PRIORITY)])) _
      refine XS.astore X156.here hx rfl (hb hby at_137) rfl rfl (l' := #[.val (.int p0), .val (.int p1), .val (.ref b102), .val (.int (3 : Int32)), .val (.ref w_PRIORITY), .unset, .unset]) rfl ?_
      show Steps p.tables e below (T156.setTop (mkF m 139 #[.val (.int p0), .val (.int p1), .val (.ref b102), .val (.int (3 : Int32)), .val (.ref w_PRIORITY), .unset, .unset] [])) _
      refine XS.aload X156.here hx rfl (hb hby at_139) rfl rfl ?_
      show Steps p.tables e below (T156.setTop (mkF m 141 #[.val (.int p0), .val (.int p1), .val (.ref b102), .val (.int (3 : Int32)), .val (.ref w_PRIORITY), .unset, .unset] [(.ref w_PRIORITY)])) _
      refine XS.iloadN X156.here hx rfl (hb hby at_141) rfl ?_
      exact kt
    (try clear hat191); (try clear hin191); (try clear G191); (try clear H191_); (try clear N191_); (try clear S191); (try clear q191); (try clear Ar191); (try clear cl191)
    by_cases hl193 : p1 = (2 : Int32)
    · skip
      obtain ⟨cq194, kq194, q194a, q194b, q194c⟩ := isOf hZ e156 ((E_PRIORITY.ext EX156))
      obtain ⟨_, _, ⟨T194, L194, k194, n194⟩, -, X194, ⟨Lc194, hQ194, l194, y194, z194⟩, st194⟩ := X156.virtualBack hx (y := (⟨"com/example/parley/parley/message/AttributeType", "accepts", "(I)Z"⟩ : MethodName)) (z := (⟨"com/example/parley/parley/message/AttributeType", "accepts", "(I)Z"⟩ : MethodName)) hown (mvT hZ (hw _ (List.mem_of_getElem? (i := 41) rfl))) (mvT hZ (hw _ (List.mem_of_getElem? (i := 42) rfl))) (notFace_of_selects (args := #[]) (mvT hZ (hw _ (List.mem_of_getElem? (i := 44) rfl)))) (mvT hZ (hw _ (List.mem_of_getElem? (i := 44) rfl))) (mvT hZ (hw _ (List.mem_of_getElem? (i := 43) rfl))) (by decide) (backOf (W := 0) (rm_acc_SIXTEEN_BITS l Z a0 hw [] w_PRIORITY p1 h156 n0 (Nat.le_trans Z0 EX156.1) w_SIXTEEN_BITS (F_PRIORITY_shape.ext EX156) (E_SIXTEEN_BITS.ext EX156) (F_SIXTEEN_BITS_ordinal.ext EX156) (1 : Int32) (if_pos hl193)) hZ (hw _ (List.mem_of_getElem? (i := 45) rfl)) (hw _ (List.mem_of_getElem? (i := 3) rfl)) (by decide) (by decide)) q194a q194c (g := (mkF m 142 #[.val (.int p0), .val (.int p1), .val (.ref b102), .val (.int (3 : Int32)), .val (.ref w_PRIORITY), .unset, .unset] [(.int p1), (.ref w_PRIORITY)])) rfl (by rw [hml]; rfl) (Steps.refl _) (argsL := [(.int p1)]) (rest := []) (lenOf pd_33 rfl) rfl (by show 2 * 0 + _ ≤ _; exact Nat.le_of_eq rfl) (hb hby at_142) (fun _ _ => ⟨rfl, e156, (by decide : 1 + 0 ≤ _), (by decide : 18 + 0 ≤ _)⟩)
      dsimp only [Pt.U, Pt.locs, Pt.cells, Pt.slots] at X194 l194 y194 z194 st194 hQ194
      subst l194 y194 z194
      obtain ⟨rfl, N194q, e194⟩ := hQ194
      have N194 := Fr.app N156 N194q
      obtain ⟨fs, hr, hrun, hended, hW, hsame⟩ := X194.leave (v := some (.int (1 : Int32))) (fun h => by rw [Bd.returns] at h; cases h)
      refine ⟨_, _, ck192 _ ?_, hrun, hended, _, _, rfl, ?_, ⟨_, rfl⟩, hW, hsame.mono (by decide) (by decide)⟩
      · show Steps p.tables e below (T156.setTop (mkF m 142 #[.val (.int p0), .val (.int p1), .val (.ref b102), .val (.int (3 : Int32)), .val (.ref w_PRIORITY), .unset, .unset] [(.int p1), (.ref w_PRIORITY)])) _
        refine st194.trans ?_
        show Steps p.tables e below (T194.setTop (mkF m 145 #[.val (.int p0), .val (.int p1), .val (.ref b102), .val (.int (3 : Int32)), .val (.ref w_PRIORITY), .unset, .unset] [(.int (1 : Int32))])) _
        refine XS.istore X194.here hx rfl (hb hby at_145) rfl (l' := #[.val (.int p0), .val (.int p1), .val (.ref b102), .val (.int (3 : Int32)), .val (.ref w_PRIORITY), .val (.int (1 : Int32)), .unset]) rfl ?_
        show Steps p.tables e below (T194.setTop (mkF m 147 #[.val (.int p0), .val (.int p1), .val (.ref b102), .val (.int (3 : Int32)), .val (.ref w_PRIORITY), .val (.int (1 : Int32)), .unset] [])) _
        refine XS.iloadN X194.here hx rfl (hb hby at_147) rfl ?_
        show Steps p.tables e below (T194.setTop (mkF m 148 #[.val (.int p0), .val (.int p1), .val (.ref b102), .val (.int (3 : Int32)), .val (.ref w_PRIORITY), .val (.int (1 : Int32)), .unset] [(.int (3 : Int32))])) _
        refine XS.iconst X194.here hx rfl (hb hby at_148) ?_
        show Steps p.tables e below (T194.setTop (mkF m 149 #[.val (.int p0), .val (.int p1), .val (.ref b102), .val (.int (3 : Int32)), .val (.ref w_PRIORITY), .val (.int (1 : Int32)), .unset] [(.int (5 : Int32)), (.int (3 : Int32))])) _
        refine XS.icmpNo X194.here hx rfl (hb hby at_149) rfl (tlt (by decide : (3 : Int32) < (5 : Int32))).2.1 ?_
        show Steps p.tables e below (T194.setTop (mkF m 152 #[.val (.int p0), .val (.int p1), .val (.ref b102), .val (.int (3 : Int32)), .val (.ref w_PRIORITY), .val (.int (1 : Int32)), .unset] [])) _
        refine XS.iloadN X194.here hx rfl (hb hby at_152) rfl ?_
        show Steps p.tables e below (T194.setTop (mkF m 153 #[.val (.int p0), .val (.int p1), .val (.ref b102), .val (.int (3 : Int32)), .val (.ref w_PRIORITY), .val (.int (1 : Int32)), .unset] [(.int p1)])) _
        refine XS.iconst X194.here hx rfl (hb hby at_153) ?_
        show Steps p.tables e below (T194.setTop (mkF m 154 #[.val (.int p0), .val (.int p1), .val (.ref b102), .val (.int (3 : Int32)), .val (.ref w_PRIORITY), .val (.int (1 : Int32)), .unset] [(.int (2 : Int32)), (.int p1)])) _
        refine XS.icmpNo X194.here hx rfl (hb hby at_154) rfl (teq hl193).2 ?_
        show Steps p.tables e below (T194.setTop (mkF m 157 #[.val (.int p0), .val (.int p1), .val (.ref b102), .val (.int (3 : Int32)), .val (.ref w_PRIORITY), .val (.int (1 : Int32)), .unset] [])) _
        refine XS.iconst X194.here hx rfl (hb hby at_157) ?_
        show Steps p.tables e below (T194.setTop (mkF m 158 #[.val (.int p0), .val (.int p1), .val (.ref b102), .val (.int (3 : Int32)), .val (.ref w_PRIORITY), .val (.int (1 : Int32)), .unset] [(.int (1 : Int32))])) _
        refine XS.goto X194.here hx rfl (pc0 := 158) (pc' := 162) rfl (hb hby at_158) (by decide) (by decide) ?_
        show Steps p.tables e below (T194.setTop (mkF m 162 #[.val (.int p0), .val (.int p1), .val (.ref b102), .val (.int (3 : Int32)), .val (.ref w_PRIORITY), .val (.int (1 : Int32)), .unset] [(.int (1 : Int32))])) _
        refine XS.istore X194.here hx rfl (hb hby at_162) rfl (l' := #[.val (.int p0), .val (.int p1), .val (.ref b102), .val (.int (3 : Int32)), .val (.ref w_PRIORITY), .val (.int (1 : Int32)), .val (.int (1 : Int32))]) rfl ?_
        show Steps p.tables e below (T194.setTop (mkF m 164 #[.val (.int p0), .val (.int p1), .val (.ref b102), .val (.int (3 : Int32)), .val (.ref w_PRIORITY), .val (.int (1 : Int32)), .val (.int (1 : Int32))] [])) _
        refine XS.goto X194.here hx rfl (pc0 := 164) (pc' := 217) rfl (hb hby at_164) (by decide) (by decide) ?_
        show Steps p.tables e below (T194.setTop (mkF m 217 #[.val (.int p0), .val (.int p1), .val (.ref b102), .val (.int (3 : Int32)), .val (.ref w_PRIORITY), .val (.int (1 : Int32)), .val (.int (1 : Int32))] [])) _
        refine XS.iload X194.here hx rfl (hb hby at_217) rfl ?_
        show Steps p.tables e below (T194.setTop (mkF m 219 #[.val (.int p0), .val (.int p1), .val (.ref b102), .val (.int (3 : Int32)), .val (.ref w_PRIORITY), .val (.int (1 : Int32)), .val (.int (1 : Int32))] [(.int (1 : Int32))])) _
        refine XS.iload X194.here hx rfl (hb hby at_219) rfl ?_
        show Steps p.tables e below (T194.setTop (mkF m 221 #[.val (.int p0), .val (.int p1), .val (.ref b102), .val (.int (3 : Int32)), .val (.ref w_PRIORITY), .val (.int (1 : Int32)), .val (.int (1 : Int32))] [(.int (1 : Int32)), (.int (1 : Int32))])) _
        refine XS.icmpNo X194.here hx rfl (hb hby at_221) rfl (teq (by decide : (1 : Int32) = (1 : Int32))).2 ?_
        show Steps p.tables e below (T194.setTop (mkF m 224 #[.val (.int p0), .val (.int p1), .val (.ref b102), .val (.int (3 : Int32)), .val (.ref w_PRIORITY), .val (.int (1 : Int32)), .val (.int (1 : Int32))] [])) _
        refine XS.iconst X194.here hx rfl (hb hby at_224) ?_
        show Steps p.tables e below (T194.setTop (mkF m 225 #[.val (.int p0), .val (.int p1), .val (.ref b102), .val (.int (3 : Int32)), .val (.ref w_PRIORITY), .val (.int (1 : Int32)), .val (.int (1 : Int32))] [(.int (1 : Int32))])) _
        refine XS.goto X194.here hx rfl (pc0 := 225) (pc' := 229) rfl (hb hby at_225) (by decide) (by decide) ?_
        show Steps p.tables e below (T194.setTop (mkF m 229 #[.val (.int p0), .val (.int p1), .val (.ref b102), .val (.int (3 : Int32)), .val (.ref w_PRIORITY), .val (.int (1 : Int32)), .val (.int (1 : Int32))] [(.int (1 : Int32))])) _
        exact retN X194 hx (t := .boolean) Bd.returns (by simp) (hb hby at_229) hr
      · show own_Made (some (.int 1)) n0 _ T194.heap _
        rw [e194]
        exact ⟨rfl, N194, trivial⟩
    · skip
      obtain ⟨cq195, kq195, q195a, q195b, q195c⟩ := isOf hZ e156 ((E_PRIORITY.ext EX156))
      obtain ⟨_, _, ⟨T195, L195, k195, n195⟩, -, X195, ⟨Lc195, hQ195, l195, y195, z195⟩, st195⟩ := X156.virtualBack hx (y := (⟨"com/example/parley/parley/message/AttributeType", "accepts", "(I)Z"⟩ : MethodName)) (z := (⟨"com/example/parley/parley/message/AttributeType", "accepts", "(I)Z"⟩ : MethodName)) hown (mvT hZ (hw _ (List.mem_of_getElem? (i := 41) rfl))) (mvT hZ (hw _ (List.mem_of_getElem? (i := 42) rfl))) (notFace_of_selects (args := #[]) (mvT hZ (hw _ (List.mem_of_getElem? (i := 44) rfl)))) (mvT hZ (hw _ (List.mem_of_getElem? (i := 44) rfl))) (mvT hZ (hw _ (List.mem_of_getElem? (i := 43) rfl))) (by decide) (backOf (W := 0) (rm_acc_SIXTEEN_BITS l Z a0 hw [] w_PRIORITY p1 h156 n0 (Nat.le_trans Z0 EX156.1) w_SIXTEEN_BITS (F_PRIORITY_shape.ext EX156) (E_SIXTEEN_BITS.ext EX156) (F_SIXTEEN_BITS_ordinal.ext EX156) (0 : Int32) (if_neg hl193)) hZ (hw _ (List.mem_of_getElem? (i := 45) rfl)) (hw _ (List.mem_of_getElem? (i := 3) rfl)) (by decide) (by decide)) q195a q195c (g := (mkF m 142 #[.val (.int p0), .val (.int p1), .val (.ref b102), .val (.int (3 : Int32)), .val (.ref w_PRIORITY), .unset, .unset] [(.int p1), (.ref w_PRIORITY)])) rfl (by rw [hml]; rfl) (Steps.refl _) (argsL := [(.int p1)]) (rest := []) (lenOf pd_33 rfl) rfl (by show 2 * 0 + _ ≤ _; exact Nat.le_of_eq rfl) (hb hby at_142) (fun _ _ => ⟨rfl, e156, (by decide : 1 + 0 ≤ _), (by decide : 18 + 0 ≤ _)⟩)
      dsimp only [Pt.U, Pt.locs, Pt.cells, Pt.slots] at X195 l195 y195 z195 st195 hQ195
      subst l195 y195 z195
      obtain ⟨rfl, N195q, e195⟩ := hQ195
      have N195 := Fr.app N156 N195q
      obtain ⟨fs, hr, hrun, hended, hW, hsame⟩ := X195.leave (v := some (.int (1 : Int32))) (fun h => by rw [Bd.returns] at h; cases h)
      refine ⟨_, _, ck192 _ ?_, hrun, hended, _, _, rfl, ?_, ⟨_, rfl⟩, hW, hsame.mono (by decide) (by decide)⟩
      · show Steps p.tables e below (T156.setTop (mkF m 142 #[.val (.int p0), .val (.int p1), .val (.ref b102), .val (.int (3 : Int32)), .val (.ref w_PRIORITY), .unset, .unset] [(.int p1), (.ref w_PRIORITY)])) _
        refine st195.trans ?_
        show Steps p.tables e below (T195.setTop (mkF m 145 #[.val (.int p0), .val (.int p1), .val (.ref b102), .val (.int (3 : Int32)), .val (.ref w_PRIORITY), .unset, .unset] [(.int (0 : Int32))])) _
        refine XS.istore X195.here hx rfl (hb hby at_145) rfl (l' := #[.val (.int p0), .val (.int p1), .val (.ref b102), .val (.int (3 : Int32)), .val (.ref w_PRIORITY), .val (.int (0 : Int32)), .unset]) rfl ?_
        show Steps p.tables e below (T195.setTop (mkF m 147 #[.val (.int p0), .val (.int p1), .val (.ref b102), .val (.int (3 : Int32)), .val (.ref w_PRIORITY), .val (.int (0 : Int32)), .unset] [])) _
        refine XS.iloadN X195.here hx rfl (hb hby at_147) rfl ?_
        show Steps p.tables e below (T195.setTop (mkF m 148 #[.val (.int p0), .val (.int p1), .val (.ref b102), .val (.int (3 : Int32)), .val (.ref w_PRIORITY), .val (.int (0 : Int32)), .unset] [(.int (3 : Int32))])) _
        refine XS.iconst X195.here hx rfl (hb hby at_148) ?_
        show Steps p.tables e below (T195.setTop (mkF m 149 #[.val (.int p0), .val (.int p1), .val (.ref b102), .val (.int (3 : Int32)), .val (.ref w_PRIORITY), .val (.int (0 : Int32)), .unset] [(.int (5 : Int32)), (.int (3 : Int32))])) _
        refine XS.icmpNo X195.here hx rfl (hb hby at_149) rfl (tlt (by decide : (3 : Int32) < (5 : Int32))).2.1 ?_
        show Steps p.tables e below (T195.setTop (mkF m 152 #[.val (.int p0), .val (.int p1), .val (.ref b102), .val (.int (3 : Int32)), .val (.ref w_PRIORITY), .val (.int (0 : Int32)), .unset] [])) _
        refine XS.iloadN X195.here hx rfl (hb hby at_152) rfl ?_
        show Steps p.tables e below (T195.setTop (mkF m 153 #[.val (.int p0), .val (.int p1), .val (.ref b102), .val (.int (3 : Int32)), .val (.ref w_PRIORITY), .val (.int (0 : Int32)), .unset] [(.int p1)])) _
        refine XS.iconst X195.here hx rfl (hb hby at_153) ?_
        show Steps p.tables e below (T195.setTop (mkF m 154 #[.val (.int p0), .val (.int p1), .val (.ref b102), .val (.int (3 : Int32)), .val (.ref w_PRIORITY), .val (.int (0 : Int32)), .unset] [(.int (2 : Int32)), (.int p1)])) _
        refine XS.icmpYes X195.here hx rfl (pc0 := 154) (pc' := 161) rfl (hb hby at_154) rfl (feq hl193).2 (by decide) (by decide) ?_
        show Steps p.tables e below (T195.setTop (mkF m 161 #[.val (.int p0), .val (.int p1), .val (.ref b102), .val (.int (3 : Int32)), .val (.ref w_PRIORITY), .val (.int (0 : Int32)), .unset] [])) _
        refine XS.iconst X195.here hx rfl (hb hby at_161) ?_
        show Steps p.tables e below (T195.setTop (mkF m 162 #[.val (.int p0), .val (.int p1), .val (.ref b102), .val (.int (3 : Int32)), .val (.ref w_PRIORITY), .val (.int (0 : Int32)), .unset] [(.int (0 : Int32))])) _
        refine XS.istore X195.here hx rfl (hb hby at_162) rfl (l' := #[.val (.int p0), .val (.int p1), .val (.ref b102), .val (.int (3 : Int32)), .val (.ref w_PRIORITY), .val (.int (0 : Int32)), .val (.int (0 : Int32))]) rfl ?_
        show Steps p.tables e below (T195.setTop (mkF m 164 #[.val (.int p0), .val (.int p1), .val (.ref b102), .val (.int (3 : Int32)), .val (.ref w_PRIORITY), .val (.int (0 : Int32)), .val (.int (0 : Int32))] [])) _
        refine XS.goto X195.here hx rfl (pc0 := 164) (pc' := 217) rfl (hb hby at_164) (by decide) (by decide) ?_
        show Steps p.tables e below (T195.setTop (mkF m 217 #[.val (.int p0), .val (.int p1), .val (.ref b102), .val (.int (3 : Int32)), .val (.ref w_PRIORITY), .val (.int (0 : Int32)), .val (.int (0 : Int32))] [])) _
        refine XS.iload X195.here hx rfl (hb hby at_217) rfl ?_
        show Steps p.tables e below (T195.setTop (mkF m 219 #[.val (.int p0), .val (.int p1), .val (.ref b102), .val (.int (3 : Int32)), .val (.ref w_PRIORITY), .val (.int (0 : Int32)), .val (.int (0 : Int32))] [(.int (0 : Int32))])) _
        refine XS.iload X195.here hx rfl (hb hby at_219) rfl ?_
        show Steps p.tables e below (T195.setTop (mkF m 221 #[.val (.int p0), .val (.int p1), .val (.ref b102), .val (.int (3 : Int32)), .val (.ref w_PRIORITY), .val (.int (0 : Int32)), .val (.int (0 : Int32))] [(.int (0 : Int32)), (.int (0 : Int32))])) _
        refine XS.icmpNo X195.here hx rfl (hb hby at_221) rfl (teq (by decide : (0 : Int32) = (0 : Int32))).2 ?_
        show Steps p.tables e below (T195.setTop (mkF m 224 #[.val (.int p0), .val (.int p1), .val (.ref b102), .val (.int (3 : Int32)), .val (.ref w_PRIORITY), .val (.int (0 : Int32)), .val (.int (0 : Int32))] [])) _
        refine XS.iconst X195.here hx rfl (hb hby at_224) ?_
        show Steps p.tables e below (T195.setTop (mkF m 225 #[.val (.int p0), .val (.int p1), .val (.ref b102), .val (.int (3 : Int32)), .val (.ref w_PRIORITY), .val (.int (0 : Int32)), .val (.int (0 : Int32))] [(.int (1 : Int32))])) _
        refine XS.goto X195.here hx rfl (pc0 := 225) (pc' := 229) rfl (hb hby at_225) (by decide) (by decide) ?_
        show Steps p.tables e below (T195.setTop (mkF m 229 #[.val (.int p0), .val (.int p1), .val (.ref b102), .val (.int (3 : Int32)), .val (.ref w_PRIORITY), .val (.int (0 : Int32)), .val (.int (0 : Int32))] [(.int (1 : Int32))])) _
        exact retN X195 hx (t := .boolean) Bd.returns (by simp) (hb hby at_229) hr
      · show own_Made (some (.int 1)) n0 _ T195.heap _
        rw [e195]
        exact ⟨rfl, N195, trivial⟩
  · -- (4 : Int32)
    obtain ⟨cl196, Ar196, q196, S196, N196_, H196_, G196⟩ := V156
    have hin196 : ¬ ((4 : Int32) < 0 ∨ cl196.slots.size ≤ ((4 : Int32)).toNatClampNeg) := inb_of S196 ⟨by decide, by decide⟩
    have hat196 : cl196.slots[((4 : Int32)).toNatClampNeg]? = some (.ref w_REQUEST_STATUS) := Has.at H196_ hin196 rfl
    have ck197 : ∀ t, Steps p.tables e below (T156.setTop (mkF m 142 #[.val (.int p0), .val (.int p1), .val (.ref b102), .val (.int (4 : Int32)), .val (.ref w_REQUEST_STATUS), .unset, .unset] [(.int p1), (.ref w_REQUEST_STATUS)])) t → Steps p.tables e below (s₁.setTop (entryFrame m #[(.int p0), (.int p1)] maxLocals)) t := by
      intro t kt
      refine ck157 _ ?_
      show Steps p.tables e below (T156.setTop (mkF m 133 #[.val (.int p0), .val (.int p1), .val (.ref b102), .unset, .unset, .unset, .unset] [(.int ((p0 &&& (2147483647 : Int32)) % (18 : Int32)))])) _
      rw [hv162]
      show Steps p.tables e below (T156.setTop (mkF m 133 #[.val (.int p0), .val (.int p1), .val (.ref b102), .unset, .unset, .unset, .unset] [(.int (4 : Int32))])) _
      refine XS.istoreN X156.here hx rfl (hb hby at_133) rfl (l' := #[.val (.int p0), .val (.int p1), .val (.ref b102), .val (.int (4 : Int32)), .unset, .unset, .unset]) rfl ?_
      show Steps p.tables e below (T156.setTop (mkF m 134 #[.val (.int p0), .val (.int p1), .val (.ref b102), .val (.int (4 : Int32)), .unset, .unset, .unset] [])) _
      refine XS.aloadN X156.here hx rfl (hb hby at_134) rfl rfl ?_
      show Steps p.tables e below (T156.setTop (mkF m 135 #[.val (.int p0), .val (.int p1), .val (.ref b102), .val (.int (4 : Int32)), .unset, .unset, .unset] [(.ref b102)])) _
      refine XS.iloadN X156.here hx rfl (hb hby at_135) rfl ?_
      show Steps p.tables e below (T156.setTop (mkF m 136 #[.val (.int p0), .val (.int p1), .val (.ref b102), .val (.int (4 : Int32)), .unset, .unset, .unset] [(.int (4 : Int32)), (.ref b102)])) _
      refine X156.aaload hx (j := (4 : Int32)) (v := (.ref w_REQUEST_STATUS)) (by rw [e156]; exact Ar196.1) (State.isArrayOf_alike hZ.alike Ar196.2.1) rfl Ar196.2.2 hin196 hat196 (g := (mkF m 136 #[.val (.int p0), .val (.int p1), .val (.ref b102), .val (.int (4 : Int32)), .unset, .unset, .unset] [(.int (4 : Int32)), (.ref b102)])) rfl rfl (hb hby at_136) _ ?_
      show Steps p.tables e below (T156.setTop (mkF m 137 #[.val (.int p0), .val (.int p1), .val (.ref b102), .val (.int (4 : Int32)), .unset, .unset, .unset] [(.ref w_REQUEST_STATUS)])) _
      refine XS.astore X156.here hx rfl (hb hby at_137) rfl rfl (l' := #[.val (.int p0), .val (.int p1), .val (.ref b102), .val (.int (4 : Int32)), .val (.ref w_REQUEST_STATUS), .unset, .unset]) rfl ?_
      show Steps p.tables e below (T156.setTop (mkF m 139 #[.val (.int p0), .val (.int p1), .val (.ref b102), .val (.int (4 : Int32)), .val (.ref w_REQUEST_STATUS), .unset, .unset] [])) _
      refine XS.aload X156.here hx rfl (hb hby at_139) rfl rfl ?_
      show Steps p.tables e below (T156.setTop (mkF m 141 #[.val (.int p0), .val (.int p1), .val (.ref b102), .val (.int (4 : Int32)), .val (.ref w_REQUEST_STATUS), .unset, .unset] [(.ref w_REQUEST_STATUS)])) _
      refine XS.iloadN X156.here hx rfl (hb hby at_141) rfl ?_
      exact kt
    (try clear hat196); (try clear hin196); (try clear G196); (try clear H196_); (try clear N196_); (try clear S196); (try clear q196); (try clear Ar196); (try clear cl196)
    by_cases hl198 : p1 = (2 : Int32)
    · skip
      obtain ⟨cq199, kq199, q199a, q199b, q199c⟩ := isOf hZ e156 ((E_REQUEST_STATUS.ext EX156))
      obtain ⟨_, _, ⟨T199, L199, k199, n199⟩, -, X199, ⟨Lc199, hQ199, l199, y199, z199⟩, st199⟩ := X156.virtualBack hx (y := (⟨"com/example/parley/parley/message/AttributeType", "accepts", "(I)Z"⟩ : MethodName)) (z := (⟨"com/example/parley/parley/message/AttributeType", "accepts", "(I)Z"⟩ : MethodName)) hown (mvT hZ (hw _ (List.mem_of_getElem? (i := 41) rfl))) (mvT hZ (hw _ (List.mem_of_getElem? (i := 42) rfl))) (notFace_of_selects (args := #[]) (mvT hZ (hw _ (List.mem_of_getElem? (i := 44) rfl)))) (mvT hZ (hw _ (List.mem_of_getElem? (i := 44) rfl))) (mvT hZ (hw _ (List.mem_of_getElem? (i := 43) rfl))) (by decide) (backOf (W := 0) (rm_acc_SIXTEEN_BITS l Z a0 hw [] w_REQUEST_STATUS p1 h156 n0 (Nat.le_trans Z0 EX156.1) w_SIXTEEN_BITS (F_REQUEST_STATUS_shape.ext EX156) (E_SIXTEEN_BITS.ext EX156) (F_SIXTEEN_BITS_ordinal.ext EX156) (1 : Int32) (if_pos hl198)) hZ (hw _ (List.mem_of_getElem? (i := 45) rfl)) (hw _ (List.mem_of_getElem? (i := 3) rfl)) (by decide) (by decide)) q199a q199c (g := (mkF m 142 #[.val (.int p0), .val (.int p1), .val (.ref b102), .val (.int (4 : Int32)), .val (.ref w_REQUEST_STATUS), .unset, .unset] [(.int p1), (.ref w_REQUEST_STATUS)])) rfl (by rw [hml]; rfl) (Steps.refl _) (argsL := [(.int p1)]) (rest := []) (lenOf pd_33 rfl) rfl (by show 2 * 0 + _ ≤ _; exact Nat.le_of_eq rfl) (hb hby at_142) (fun _ _ => ⟨rfl, e156, (by decide : 1 + 0 ≤ _), (by decide : 18 + 0 ≤ _)⟩)
      dsimp only [Pt.U, Pt.locs, Pt.cells, Pt.slots] at X199 l199 y199 z199 st199 hQ199
      subst l199 y199 z199
      obtain ⟨rfl, N199q, e199⟩ := hQ199
      have N199 := Fr.app N156 N199q
      obtain ⟨fs, hr, hrun, hended, hW, hsame⟩ := X199.leave (v := some (.int (1 : Int32))) (fun h => by rw [Bd.returns] at h; cases h)
      refine ⟨_, _, ck197 _ ?_, hrun, hended, _, _, rfl, ?_, ⟨_, rfl⟩, hW, hsame.mono (by decide) (by decide)⟩
      · show Steps p.tables e below (T156.setTop (mkF m 142 #[.val (.int p0), .val (.int p1), .val (.ref b102), .val (.int (4 : Int32)), .val (.ref w_REQUEST_STATUS), .unset, .unset] [(.int p1), (.ref w_REQUEST_STATUS)])) _
        refine st199.trans ?_
        show Steps p.tables e below (T199.setTop (mkF m 145 #[.val (.int p0), .val (.int p1), .val (.ref b102), .val (.int (4 : Int32)), .val (.ref w_REQUEST_STATUS), .unset, .unset] [(.int (1 : Int32))])) _
        refine XS.istore X199.here hx rfl (hb hby at_145) rfl (l' := #[.val (.int p0), .val (.int p1), .val (.ref b102), .val (.int (4 : Int32)), .val (.ref w_REQUEST_STATUS), .val (.int (1 : Int32)), .unset]) rfl ?_
        show Steps p.tables e below (T199.setTop (mkF m 147 #[.val (.int p0), .val (.int p1), .val (.ref b102), .val (.int (4 : Int32)), .val (.ref w_REQUEST_STATUS), .val (.int (1 : Int32)), .unset] [])) _
        refine XS.iloadN X199.here hx rfl (hb hby at_147) rfl ?_
        show Steps p.tables e below (T199.setTop (mkF m 148 #[.val (.int p0), .val (.int p1), .val (.ref b102), .val (.int (4 : Int32)), .val (.ref w_REQUEST_STATUS), .val (.int (1 : Int32)), .unset] [(.int (4 : Int32))])) _
        refine XS.iconst X199.here hx rfl (hb hby at_148) ?_
        show Steps p.tables e below (T199.setTop (mkF m 149 #[.val (.int p0), .val (.int p1), .val (.ref b102), .val (.int (4 : Int32)), .val (.ref w_REQUEST_STATUS), .val (.int (1 : Int32)), .unset] [(.int (5 : Int32)), (.int (4 : Int32))])) _
        refine XS.icmpNo X199.here hx rfl (hb hby at_149) rfl (tlt (by decide : (4 : Int32) < (5 : Int32))).2.1 ?_
        show Steps p.tables e below (T199.setTop (mkF m 152 #[.val (.int p0), .val (.int p1), .val (.ref b102), .val (.int (4 : Int32)), .val (.ref w_REQUEST_STATUS), .val (.int (1 : Int32)), .unset] [])) _
        refine XS.iloadN X199.here hx rfl (hb hby at_152) rfl ?_
        show Steps p.tables e below (T199.setTop (mkF m 153 #[.val (.int p0), .val (.int p1), .val (.ref b102), .val (.int (4 : Int32)), .val (.ref w_REQUEST_STATUS), .val (.int (1 : Int32)), .unset] [(.int p1)])) _
        refine XS.iconst X199.here hx rfl (hb hby at_153) ?_
        show Steps p.tables e below (T199.setTop (mkF m 154 #[.val (.int p0), .val (.int p1), .val (.ref b102), .val (.int (4 : Int32)), .val (.ref w_REQUEST_STATUS), .val (.int (1 : Int32)), .unset] [(.int (2 : Int32)), (.int p1)])) _
        refine XS.icmpNo X199.here hx rfl (hb hby at_154) rfl (teq hl198).2 ?_
        show Steps p.tables e below (T199.setTop (mkF m 157 #[.val (.int p0), .val (.int p1), .val (.ref b102), .val (.int (4 : Int32)), .val (.ref w_REQUEST_STATUS), .val (.int (1 : Int32)), .unset] [])) _
        refine XS.iconst X199.here hx rfl (hb hby at_157) ?_
        show Steps p.tables e below (T199.setTop (mkF m 158 #[.val (.int p0), .val (.int p1), .val (.ref b102), .val (.int (4 : Int32)), .val (.ref w_REQUEST_STATUS), .val (.int (1 : Int32)), .unset] [(.int (1 : Int32))])) _
        refine XS.goto X199.here hx rfl (pc0 := 158) (pc' := 162) rfl (hb hby at_158) (by decide) (by decide) ?_
        show Steps p.tables e below (T199.setTop (mkF m 162 #[.val (.int p0), .val (.int p1), .val (.ref b102), .val (.int (4 : Int32)), .val (.ref w_REQUEST_STATUS), .val (.int (1 : Int32)), .unset] [(.int (1 : Int32))])) _
        refine XS.istore X199.here hx rfl (hb hby at_162) rfl (l' := #[.val (.int p0), .val (.int p1), .val (.ref b102), .val (.int (4 : Int32)), .val (.ref w_REQUEST_STATUS), .val (.int (1 : Int32)), .val (.int (1 : Int32))]) rfl ?_
        show Steps p.tables e below (T199.setTop (mkF m 164 #[.val (.int p0), .val (.int p1), .val (.ref b102), .val (.int (4 : Int32)), .val (.ref w_REQUEST_STATUS), .val (.int (1 : Int32)), .val (.int (1 : Int32))] [])) _
        refine XS.goto X199.here hx rfl (pc0 := 164) (pc' := 217) rfl (hb hby at_164) (by decide) (by decide) ?_
        show Steps p.tables e below (T199.setTop (mkF m 217 #[.val (.int p0), .val (.int p1), .val (.ref b102), .val (.int (4 : Int32)), .val (.ref w_REQUEST_STATUS), .val (.int (1 : Int32)), .val (.int (1 : Int32))] [])) _
        refine XS.iload X199.here hx rfl (hb hby at_217) rfl ?_
        show Steps p.tables e below (T199.setTop (mkF m 219 #[.val (.int p0), .val (.int p1), .val (.ref b102), .val (.int (4 : Int32)), .val (.ref w_REQUEST_STATUS), .val (.int (1 : Int32)), .val (.int (1 : Int32))] [(.int (1 : Int32))])) _
        refine XS.iload X199.here hx rfl (hb hby at_219) rfl ?_
        show Steps p.tables e below (T199.setTop (mkF m 221 #[.val (.int p0), .val (.int p1), .val (.ref b102), .val (.int (4 : Int32)), .val (.ref w_REQUEST_STATUS), .val (.int (1 : Int32)), .val (.int (1 : Int32))] [(.int (1 : Int32)), (.int (1 : Int32))])) _
        refine XS.icmpNo X199.here hx rfl (hb hby at_221) rfl (teq (by decide : (1 : Int32) = (1 : Int32))).2 ?_
        show Steps p.tables e below (T199.setTop (mkF m 224 #[.val (.int p0), .val (.int p1), .val (.ref b102), .val (.int (4 : Int32)), .val (.ref w_REQUEST_STATUS), .val (.int (1 : Int32)), .val (.int (1 : Int32))] [])) _
        refine XS.iconst X199.here hx rfl (hb hby at_224) ?_
        show Steps p.tables e below (T199.setTop (mkF m 225 #[.val (.int p0), .val (.int p1), .val (.ref b102), .val (.int (4 : Int32)), .val (.ref w_REQUEST_STATUS), .val (.int (1 : Int32)), .val (.int (1 : Int32))] [(.int (1 : Int32))])) _
        refine XS.goto X199.here hx rfl (pc0 := 225) (pc' := 229) rfl (hb hby at_225) (by decide) (by decide) ?_
        show Steps p.tables e below (T199.setTop (mkF m 229 #[.val (.int p0), .val (.int p1), .val (.ref b102), .val (.int (4 : Int32)), .val (.ref w_REQUEST_STATUS), .val (.int (1 : Int32)), .val (.int (1 : Int32))] [(.int (1 : Int32))])) _
        exact retN X199 hx (t := .boolean) Bd.returns (by simp) (hb hby at_229) hr
      · show own_Made (some (.int 1)) n0 _ T199.heap _
        rw [e199]
        exact ⟨rfl, N199, trivial⟩
    · skip
      obtain ⟨cq200, kq200, q200a, q200b, q200c⟩ := isOf hZ e156 ((E_REQUEST_STATUS.ext EX156))
      obtain ⟨_, _, ⟨T200, L200, k200, n200⟩, -, X200, ⟨Lc200, hQ200, l200, y200, z200⟩, st200⟩ := X156.virtualBack hx (y := (⟨"com/example/parley/parley/message/AttributeType", "accepts", "(I)Z"⟩ : MethodName)) (z := (⟨"com/example/parley/parley/message/AttributeType", "accepts", "(I)Z"⟩ : MethodName)) hown (mvT hZ (hw _ (List.mem_of_getElem? (i := 41) rfl))) (mvT hZ (hw _ (List.mem_of_getElem? (i := 42) rfl))) (notFace_of_selects (args := #[]) (mvT hZ (hw _ (List.mem_of_getElem? (i := 44) rfl)))) (mvT hZ (hw _ (List.mem_of_getElem? (i := 44) rfl))) (mvT hZ (hw _ (List.mem_of_getElem? (i := 43) rfl))) (by decide) (backOf (W := 0) (rm_acc_SIXTEEN_BITS l Z a0 hw [] w_REQUEST_STATUS p1 h156 n0 (Nat.le_trans Z0 EX156.1) w_SIXTEEN_BITS (F_REQUEST_STATUS_shape.ext EX156) (E_SIXTEEN_BITS.ext EX156) (F_SIXTEEN_BITS_ordinal.ext EX156) (0 : Int32) (if_neg hl198)) hZ (hw _ (List.mem_of_getElem? (i := 45) rfl)) (hw _ (List.mem_of_getElem? (i := 3) rfl)) (by decide) (by decide)) q200a q200c (g := (mkF m 142 #[.val (.int p0), .val (.int p1), .val (.ref b102), .val (.int (4 : Int32)), .val (.ref w_REQUEST_STATUS), .unset, .unset] [(.int p1), (.ref w_REQUEST_STATUS)])) rfl (by rw [hml]; rfl) (Steps.refl _) (argsL := [(.int p1)]) (rest := []) (lenOf pd_33 rfl) rfl (by show 2 * 0 + _ ≤ _; exact Nat.le_of_eq rfl) (hb hby at_142) (fun _ _ => ⟨rfl, e156, (by decide : 1 + 0 ≤ _), (by decide : 18 + 0 ≤ _)⟩)
      dsimp only [Pt.U, Pt.locs, Pt.cells, Pt.slots] at X200 l200 y200 z200 st200 hQ200
      subst l200 y200 z200
      obtain ⟨rfl, N200q, e200⟩ := hQ200
      have N200 := Fr.app N156 N200q
      obtain ⟨fs, hr, hrun, hended, hW, hsame⟩ := X200.leave (v := some (.int (1 : Int32))) (fun h => by rw [Bd.returns] at h; cases h)
      refine ⟨_, _, ck197 _ ?_, hrun, hended, _, _, rfl, ?_, ⟨_, rfl⟩, hW, hsame.mono (by decide) (by decide)⟩
      · show Steps p.tables e below (T156.setTop (mkF m 142 #[.val (.int p0), .val (.int p1), .val (.ref b102), .val (.int (4 : Int32)), .val (.ref w_REQUEST_STATUS), .unset, .unset] [(.int p1), (.ref w_REQUEST_STATUS)])) _
        refine st200.trans ?_
        show Steps p.tables e below (T200.setTop (mkF m 145 #[.val (.int p0), .val (.int p1), .val (.ref b102), .val (.int (4 : Int32)), .val (.ref w_REQUEST_STATUS), .unset, .unset] [(.int (0 : Int32))])) _
        refine XS.istore X200.here hx rfl (hb hby at_145) rfl (l' := #[.val (.int p0), .val (.int p1), .val (.ref b102), .val (.int (4 : Int32)), .val (.ref w_REQUEST_STATUS), .val (.int (0 : Int32)), .unset]) rfl ?_
        show Steps p.tables e below (T200.setTop (mkF m 147 #[.val (.int p0), .val (.int p1), .val (.ref b102), .val (.int (4 : Int32)), .val (.ref w_REQUEST_STATUS), .val (.int (0 : Int32)), .unset] [])) _
        refine XS.iloadN X200.here hx rfl (hb hby at_147) rfl ?_
        show Steps p.tables e below (T200.setTop (mkF m 148 #[.val (.int p0), .val (.int p1), .val (.ref b102), .val (.int (4 : Int32)), .val (.ref w_REQUEST_STATUS), .val (.int (0 : Int32)), .unset] [(.int (4 : Int32))])) _
        refine XS.iconst X200.here hx rfl (hb hby at_148) ?_
        show Steps p.tables e below (T200.setTop (mkF m 149 #[.val (.int p0), .val (.int p1), .val (.ref b102), .val (.int (4 : Int32)), .val (.ref w_REQUEST_STATUS), .val (.int (0 : Int32)), .unset] [(.int (5 : Int32)), (.int (4 : Int32))])) _
        refine XS.icmpNo X200.here hx rfl (hb hby at_149) rfl (tlt (by decide : (4 : Int32) < (5 : Int32))).2.1 ?_
        show Steps p.tables e below (T200.setTop (mkF m 152 #[.val (.int p0), .val (.int p1), .val (.ref b102), .val (.int (4 : Int32)), .val (.ref w_REQUEST_STATUS), .val (.int (0 : Int32)), .unset] [])) _
        refine XS.iloadN X200.here hx rfl (hb hby at_152) rfl ?_
        show Steps p.tables e below (T200.setTop (mkF m 153 #[.val (.int p0), .val (.int p1), .val (.ref b102), .val (.int (4 : Int32)), .val (.ref w_REQUEST_STATUS), .val (.int (0 : Int32)), .unset] [(.int p1)])) _
        refine XS.iconst X200.here hx rfl (hb hby at_153) ?_
        show Steps p.tables e below (T200.setTop (mkF m 154 #[.val (.int p0), .val (.int p1), .val (.ref b102), .val (.int (4 : Int32)), .val (.ref w_REQUEST_STATUS), .val (.int (0 : Int32)), .unset] [(.int (2 : Int32)), (.int p1)])) _
        refine XS.icmpYes X200.here hx rfl (pc0 := 154) (pc' := 161) rfl (hb hby at_154) rfl (feq hl198).2 (by decide) (by decide) ?_
        show Steps p.tables e below (T200.setTop (mkF m 161 #[.val (.int p0), .val (.int p1), .val (.ref b102), .val (.int (4 : Int32)), .val (.ref w_REQUEST_STATUS), .val (.int (0 : Int32)), .unset] [])) _
        refine XS.iconst X200.here hx rfl (hb hby at_161) ?_
        show Steps p.tables e below (T200.setTop (mkF m 162 #[.val (.int p0), .val (.int p1), .val (.ref b102), .val (.int (4 : Int32)), .val (.ref w_REQUEST_STATUS), .val (.int (0 : Int32)), .unset] [(.int (0 : Int32))])) _
        refine XS.istore X200.here hx rfl (hb hby at_162) rfl (l' := #[.val (.int p0), .val (.int p1), .val (.ref b102), .val (.int (4 : Int32)), .val (.ref w_REQUEST_STATUS), .val (.int (0 : Int32)), .val (.int (0 : Int32))]) rfl ?_
        show Steps p.tables e below (T200.setTop (mkF m 164 #[.val (.int p0), .val (.int p1), .val (.ref b102), .val (.int (4 : Int32)), .val (.ref w_REQUEST_STATUS), .val (.int (0 : Int32)), .val (.int (0 : Int32))] [])) _
        refine XS.goto X200.here hx rfl (pc0 := 164) (pc' := 217) rfl (hb hby at_164) (by decide) (by decide) ?_
        show Steps p.tables e below (T200.setTop (mkF m 217 #[.val (.int p0), .val (.int p1), .val (.ref b102), .val (.int (4 : Int32)), .val (.ref w_REQUEST_STATUS), .val (.int (0 : Int32)), .val (.int (0 : Int32))] [])) _
        refine XS.iload X200.here hx rfl (hb hby at_217) rfl ?_
        show Steps p.tables e below (T200.setTop (mkF m 219 #[.val (.int p0), .val (.int p1), .val (.ref b102), .val (.int (4 : Int32)), .val (.ref w_REQUEST_STATUS), .val (.int (0 : Int32)), .val (.int (0 : Int32))] [(.int (0 : Int32))])) _
        refine XS.iload X200.here hx rfl (hb hby at_219) rfl ?_
        show Steps p.tables e below (T200.setTop (mkF m 221 #[.val (.int p0), .val (.int p1), .val (.ref b102), .val (.int (4 : Int32)), .val (.ref w_REQUEST_STATUS), .val (.int (0 : Int32)), .val (.int (0 : Int32))] [(.int (0 : Int32)), (.int (0 : Int32))])) _
        refine XS.icmpNo X200.here hx rfl (hb hby at_221) rfl (teq (by decide : (0 : Int32) = (0 : Int32))).2 ?_
        show Steps p.tables e below (T200.setTop (mkF m 224 #[.val (.int p0), .val (.int p1), .val (.ref b102), .val (.int (4 : Int32)), .val (.ref w_REQUEST_STATUS), .val (.int (0 : Int32)), .val (.int (0 : Int32))] [])) _
        refine XS.iconst X200.here hx rfl (hb hby at_224) ?_
        show Steps p.tables e below (T200.setTop (mkF m 225 #[.val (.int p0), .val (.int p1), .val (.ref b102), .val (.int (4 : Int32)), .val (.ref w_REQUEST_STATUS), .val (.int (0 : Int32)), .val (.int (0 : Int32))] [(.int (1 : Int32))])) _
        refine XS.goto X200.here hx rfl (pc0 := 225) (pc' := 229) rfl (hb hby at_225) (by decide) (by decide) ?_
        show Steps p.tables e below (T200.setTop (mkF m 229 #[.val (.int p0), .val (.int p1), .val (.ref b102), .val (.int (4 : Int32)), .val (.ref w_REQUEST_STATUS), .val (.int (0 : Int32)), .val (.int (0 : Int32))] [(.int (1 : Int32))])) _
        exact retN X200 hx (t := .boolean) Bd.returns (by simp) (hb hby at_229) hr
      · show own_Made (some (.int 1)) n0 _ T200.heap _
        rw [e200]
        exact ⟨rfl, N200, trivial⟩
  · -- (5 : Int32)
    obtain ⟨cl201, Ar201, q201, S201, N201_, H201_, G201⟩ := V156
    have hin201 : ¬ ((5 : Int32) < 0 ∨ cl201.slots.size ≤ ((5 : Int32)).toNatClampNeg) := inb_of S201 ⟨by decide, by decide⟩
    have hat201 : cl201.slots[((5 : Int32)).toNatClampNeg]? = some (.ref w_ERROR_CODE) := Has.at H201_ hin201 rfl
    have ck202 : ∀ t, Steps p.tables e below (T156.setTop (mkF m 142 #[.val (.int p0), .val (.int p1), .val (.ref b102), .val (.int (5 : Int32)), .val (.ref w_ERROR_CODE), .unset, .unset] [(.int p1), (.ref w_ERROR_CODE)])) t → Steps p.tables e below (s₁.setTop (entryFrame m #[(.int p0), (.int p1)] maxLocals)) t := by
      intro t kt
      refine ck157 _ ?_
      show Steps p.tables e below (T156.setTop (mkF m 133 #[.val (.int p0), .val (.int p1), .val (.ref b102), .unset, .unset, .unset, .unset] [(.int ((p0 &&& (2147483647 : Int32)) % (18 : Int32)))])) _
      rw [hv163]
      show Steps p.tables e below (T156.setTop (mkF m 133 #[.val (.int p0), .val (.int p1), .val (.ref b102), .unset, .unset, .unset, .unset] [(.int (5 : Int32))])) _
      refine XS.istoreN X156.here hx rfl (hb hby at_133) rfl (l' := #[.val (.int p0), .val (.int p1), .val (.ref b102), .val (.int (5 : Int32)), .unset, .unset, .unset]) rfl ?_
      show Steps p.tables e below (T156.setTop (mkF m 134 #[.val (.int p0), .val (.int p1), .val (.ref b102), .val (.int (5 : Int32)), .unset, .unset, .unset] [])) _
      refine XS.aloadN X156.here hx rfl (hb hby at_134) rfl rfl ?_
      show Steps p.tables e below (T156.setTop (mkF m 135 #[.val (.int p0), .val (.int p1), .val (.ref b102), .val (.int (5 : Int32)), .unset, .unset, .unset] [(.ref b102)])) _
      refine XS.iloadN X156.here hx rfl (hb hby at_135) rfl ?_
      show Steps p.tables e below (T156.setTop (mkF m 136 #[.val (.int p0), .val (.int p1), .val (.ref b102), .val (.int (5 : Int32)), .unset, .unset, .unset] [(.int (5 : Int32)), (.ref b102)])) _
      refine X156.aaload hx (j := (5 : Int32)) (v := (.ref w_ERROR_CODE)) (by rw [e156]; exact Ar201.1) (State.isArrayOf_alike hZ.alike Ar201.2.1) rfl Ar201.2.2 hin201 hat201 (g := (mkF m 136 #[.val (.int p0), .val (.int p1), .val (.ref b102), .val (.int (5 : Int32)), .unset, .unset, .unset] [(.int (5 : Int32)), (.ref b102)])) rfl rfl (hb hby at_136) _ ?_
      show Steps p.tables e below (T156.setTop (mkF m 137 #[.val (.int p0), .val (.int p1), .val (.ref b102), .val (.int (5 : Int32)), .unset, .unset, .unset] [(.ref w_ERROR_CODE)])) _
      refine XS.astore X156.here hx rfl (hb hby at_137) rfl rfl (l' := #[.val (.int p0), .val (.int p1), .val (.ref b102), .val (.int (5 : Int32)), .val (.ref w_ERROR_CODE), .unset, .unset]) rfl ?_
      show Steps p.tables e below (T156.setTop (mkF m 139 #[.val (.int p0), .val (.int p1), .val (.ref b102), .val (.int (5 : Int32)), .val (.ref w_ERROR_CODE), .unset, .unset] [])) _
      refine XS.aload X156.here hx rfl (hb hby at_139) rfl rfl ?_
      show Steps p.tables e below (T156.setTop (mkF m 141 #[.val (.int p0), .val (.int p1), .val (.ref b102), .val (.int (5 : Int32)), .val (.ref w_ERROR_CODE), .unset, .unset] [(.ref w_ERROR_CODE)])) _
      refine XS.iloadN X156.here hx rfl (hb hby at_141) rfl ?_
      exact kt
    (try clear hat201); (try clear hin201); (try clear G201); (try clear H201_); (try clear N201_); (try clear S201); (try clear q201); (try clear Ar201); (try clear cl201)
    by_cases hl203 : p1 < (1 : Int32)
    · skip
      obtain ⟨cq204, kq204, q204a, q204b, q204c⟩ := isOf hZ e156 ((E_ERROR_CODE.ext EX156))
      obtain ⟨_, _, ⟨T204, L204, k204, n204⟩, -, X204, ⟨Lc204, hQ204, l204, y204, z204⟩, st204⟩ := X156.virtualBack hx (y := (⟨"com/example/parley/parley/message/AttributeType", "accepts", "(I)Z"⟩ : MethodName)) (z := (⟨"com/example/parley/parley/message/AttributeType", "accepts", "(I)Z"⟩ : MethodName)) hown (mvT hZ (hw _ (List.mem_of_getElem? (i := 41) rfl))) (mvT hZ (hw _ (List.mem_of_getElem? (i := 42) rfl))) (notFace_of_selects (args := #[]) (mvT hZ (hw _ (List.mem_of_getElem? (i := 44) rfl)))) (mvT hZ (hw _ (List.mem_of_getElem? (i := 44) rfl))) (mvT hZ (hw _ (List.mem_of_getElem? (i := 43) rfl))) (by decide) (backOf (W := 0) (rm_acc_NON_EMPTY l Z a0 hw [] w_ERROR_CODE p1 h156 n0 (Nat.le_trans Z0 EX156.1) w_NON_EMPTY (F_ERROR_CODE_shape.ext EX156) (E_NON_EMPTY.ext EX156) (F_NON_EMPTY_ordinal.ext EX156) (0 : Int32) (if_pos hl203)) hZ (hw _ (List.mem_of_getElem? (i := 45) rfl)) (hw _ (List.mem_of_getElem? (i := 3) rfl)) (by decide) (by decide)) q204a q204c (g := (mkF m 142 #[.val (.int p0), .val (.int p1), .val (.ref b102), .val (.int (5 : Int32)), .val (.ref w_ERROR_CODE), .unset, .unset] [(.int p1), (.ref w_ERROR_CODE)])) rfl (by rw [hml]; rfl) (Steps.refl _) (argsL := [(.int p1)]) (rest := []) (lenOf pd_33 rfl) rfl (by show 2 * 0 + _ ≤ _; exact Nat.le_of_eq rfl) (hb hby at_142) (fun _ _ => ⟨rfl, e156, (by decide : 1 + 0 ≤ _), (by decide : 18 + 0 ≤ _)⟩)
      dsimp only [Pt.U, Pt.locs, Pt.cells, Pt.slots] at X204 l204 y204 z204 st204 hQ204
      subst l204 y204 z204
      obtain ⟨rfl, N204q, e204⟩ := hQ204
      have N204 := Fr.app N156 N204q
      obtain ⟨fs, hr, hrun, hended, hW, hsame⟩ := X204.leave (v := some (.int (1 : Int32))) (fun h => by rw [Bd.returns] at h; cases h)
      refine ⟨_, _, ck202 _ ?_, hrun, hended, _, _, rfl, ?_, ⟨_, rfl⟩, hW, hsame.mono (by decide) (by decide)⟩
      · show Steps p.tables e below (T156.setTop (mkF m 142 #[.val (.int p0), .val (.int p1), .val (.ref b102), .val (.int (5 : Int32)), .val (.ref w_ERROR_CODE), .unset, .unset] [(.int p1), (.ref w_ERROR_CODE)])) _
        refine st204.trans ?_
        show Steps p.tables e below (T204.setTop (mkF m 145 #[.val (.int p0), .val (.int p1), .val (.ref b102), .val (.int (5 : Int32)), .val (.ref w_ERROR_CODE), .unset, .unset] [(.int (0 : Int32))])) _
        refine XS.istore X204.here hx rfl (hb hby at_145) rfl (l' := #[.val (.int p0), .val (.int p1), .val (.ref b102), .val (.int (5 : Int32)), .val (.ref w_ERROR_CODE), .val (.int (0 : Int32)), .unset]) rfl ?_
        show Steps p.tables e below (T204.setTop (mkF m 147 #[.val (.int p0), .val (.int p1), .val (.ref b102), .val (.int (5 : Int32)), .val (.ref w_ERROR_CODE), .val (.int (0 : Int32)), .unset] [])) _
        refine XS.iloadN X204.here hx rfl (hb hby at_147) rfl ?_
        show Steps p.tables e below (T204.setTop (mkF m 148 #[.val (.int p0), .val (.int p1), .val (.ref b102), .val (.int (5 : Int32)), .val (.ref w_ERROR_CODE), .val (.int (0 : Int32)), .unset] [(.int (5 : Int32))])) _
        refine XS.iconst X204.here hx rfl (hb hby at_148) ?_
        show Steps p.tables e below (T204.setTop (mkF m 149 #[.val (.int p0), .val (.int p1), .val (.ref b102), .val (.int (5 : Int32)), .val (.ref w_ERROR_CODE), .val (.int (0 : Int32)), .unset] [(.int (5 : Int32)), (.int (5 : Int32))])) _
        refine XS.icmpYes X204.here hx rfl (pc0 := 149) (pc' := 167) rfl (hb hby at_149) rfl (flt (by decide : ¬ ((5 : Int32) < (5 : Int32)))).2.1 (by decide) (by decide) ?_
        show Steps p.tables e below (T204.setTop (mkF m 167 #[.val (.int p0), .val (.int p1), .val (.ref b102), .val (.int (5 : Int32)), .val (.ref w_ERROR_CODE), .val (.int (0 : Int32)), .unset] [])) _
        refine XS.iloadN X204.here hx rfl (hb hby at_167) rfl ?_
        show Steps p.tables e below (T204.setTop (mkF m 168 #[.val (.int p0), .val (.int p1), .val (.ref b102), .val (.int (5 : Int32)), .val (.ref w_ERROR_CODE), .val (.int (0 : Int32)), .unset] [(.int (5 : Int32))])) _
        refine XS.iconst X204.here hx rfl (hb hby at_168) ?_
        show Steps p.tables e below (T204.setTop (mkF m 169 #[.val (.int p0), .val (.int p1), .val (.ref b102), .val (.int (5 : Int32)), .val (.ref w_ERROR_CODE), .val (.int (0 : Int32)), .unset] [(.int (5 : Int32)), (.int (5 : Int32))])) _
        refine XS.icmpNo X204.here hx rfl (hb hby at_169) rfl (teq (by decide : (5 : Int32) = (5 : Int32))).2 ?_
        show Steps p.tables e below (T204.setTop (mkF m 172 #[.val (.int p0), .val (.int p1), .val (.ref b102), .val (.int (5 : Int32)), .val (.ref w_ERROR_CODE), .val (.int (0 : Int32)), .unset] [])) _
        refine XS.iloadN X204.here hx rfl (hb hby at_172) rfl ?_
        show Steps p.tables e below (T204.setTop (mkF m 173 #[.val (.int p0), .val (.int p1), .val (.ref b102), .val (.int (5 : Int32)), .val (.ref w_ERROR_CODE), .val (.int (0 : Int32)), .unset] [(.int p1)])) _
        refine XS.iconst X204.here hx rfl (hb hby at_173) ?_
        show Steps p.tables e below (T204.setTop (mkF m 174 #[.val (.int p0), .val (.int p1), .val (.ref b102), .val (.int (5 : Int32)), .val (.ref w_ERROR_CODE), .val (.int (0 : Int32)), .unset] [(.int (1 : Int32)), (.int p1)])) _
        refine XS.icmpYes X204.here hx rfl (pc0 := 174) (pc' := 181) rfl (hb hby at_174) rfl (tlt hl203).1 (by decide) (by decide) ?_
        show Steps p.tables e below (T204.setTop (mkF m 181 #[.val (.int p0), .val (.int p1), .val (.ref b102), .val (.int (5 : Int32)), .val (.ref w_ERROR_CODE), .val (.int (0 : Int32)), .unset] [])) _
        refine XS.iconst X204.here hx rfl (hb hby at_181) ?_
        show Steps p.tables e below (T204.setTop (mkF m 182 #[.val (.int p0), .val (.int p1), .val (.ref b102), .val (.int (5 : Int32)), .val (.ref w_ERROR_CODE), .val (.int (0 : Int32)), .unset] [(.int (0 : Int32))])) _
        refine XS.istore X204.here hx rfl (hb hby at_182) rfl (l' := #[.val (.int p0), .val (.int p1), .val (.ref b102), .val (.int (5 : Int32)), .val (.ref w_ERROR_CODE), .val (.int (0 : Int32)), .val (.int (0 : Int32))]) rfl ?_
        show Steps p.tables e below (T204.setTop (mkF m 184 #[.val (.int p0), .val (.int p1), .val (.ref b102), .val (.int (5 : Int32)), .val (.ref w_ERROR_CODE), .val (.int (0 : Int32)), .val (.int (0 : Int32))] [])) _
        refine XS.goto X204.here hx rfl (pc0 := 184) (pc' := 217) rfl (hb hby at_184) (by decide) (by decide) ?_
        show Steps p.tables e below (T204.setTop (mkF m 217 #[.val (.int p0), .val (.int p1), .val (.ref b102), .val (.int (5 : Int32)), .val (.ref w_ERROR_CODE), .val (.int (0 : Int32)), .val (.int (0 : Int32))] [])) _
        refine XS.iload X204.here hx rfl (hb hby at_217) rfl ?_
        show Steps p.tables e below (T204.setTop (mkF m 219 #[.val (.int p0), .val (.int p1), .val (.ref b102), .val (.int (5 : Int32)), .val (.ref w_ERROR_CODE), .val (.int (0 : Int32)), .val (.int (0 : Int32))] [(.int (0 : Int32))])) _
        refine XS.iload X204.here hx rfl (hb hby at_219) rfl ?_
        show Steps p.tables e below (T204.setTop (mkF m 221 #[.val (.int p0), .val (.int p1), .val (.ref b102), .val (.int (5 : Int32)), .val (.ref w_ERROR_CODE), .val (.int (0 : Int32)), .val (.int (0 : Int32))] [(.int (0 : Int32)), (.int (0 : Int32))])) _
        refine XS.icmpNo X204.here hx rfl (hb hby at_221) rfl (teq (by decide : (0 : Int32) = (0 : Int32))).2 ?_
        show Steps p.tables e below (T204.setTop (mkF m 224 #[.val (.int p0), .val (.int p1), .val (.ref b102), .val (.int (5 : Int32)), .val (.ref w_ERROR_CODE), .val (.int (0 : Int32)), .val (.int (0 : Int32))] [])) _
        refine XS.iconst X204.here hx rfl (hb hby at_224) ?_
        show Steps p.tables e below (T204.setTop (mkF m 225 #[.val (.int p0), .val (.int p1), .val (.ref b102), .val (.int (5 : Int32)), .val (.ref w_ERROR_CODE), .val (.int (0 : Int32)), .val (.int (0 : Int32))] [(.int (1 : Int32))])) _
        refine XS.goto X204.here hx rfl (pc0 := 225) (pc' := 229) rfl (hb hby at_225) (by decide) (by decide) ?_
        show Steps p.tables e below (T204.setTop (mkF m 229 #[.val (.int p0), .val (.int p1), .val (.ref b102), .val (.int (5 : Int32)), .val (.ref w_ERROR_CODE), .val (.int (0 : Int32)), .val (.int (0 : Int32))] [(.int (1 : Int32))])) _
        exact retN X204 hx (t := .boolean) Bd.returns (by simp) (hb hby at_229) hr
      · show own_Made (some (.int 1)) n0 _ T204.heap _
        rw [e204]
        exact ⟨rfl, N204, trivial⟩
    · skip
      obtain ⟨cq205, kq205, q205a, q205b, q205c⟩ := isOf hZ e156 ((E_ERROR_CODE.ext EX156))
      obtain ⟨_, _, ⟨T205, L205, k205, n205⟩, -, X205, ⟨Lc205, hQ205, l205, y205, z205⟩, st205⟩ := X156.virtualBack hx (y := (⟨"com/example/parley/parley/message/AttributeType", "accepts", "(I)Z"⟩ : MethodName)) (z := (⟨"com/example/parley/parley/message/AttributeType", "accepts", "(I)Z"⟩ : MethodName)) hown (mvT hZ (hw _ (List.mem_of_getElem? (i := 41) rfl))) (mvT hZ (hw _ (List.mem_of_getElem? (i := 42) rfl))) (notFace_of_selects (args := #[]) (mvT hZ (hw _ (List.mem_of_getElem? (i := 44) rfl)))) (mvT hZ (hw _ (List.mem_of_getElem? (i := 44) rfl))) (mvT hZ (hw _ (List.mem_of_getElem? (i := 43) rfl))) (by decide) (backOf (W := 0) (rm_acc_NON_EMPTY l Z a0 hw [] w_ERROR_CODE p1 h156 n0 (Nat.le_trans Z0 EX156.1) w_NON_EMPTY (F_ERROR_CODE_shape.ext EX156) (E_NON_EMPTY.ext EX156) (F_NON_EMPTY_ordinal.ext EX156) (1 : Int32) (if_neg hl203)) hZ (hw _ (List.mem_of_getElem? (i := 45) rfl)) (hw _ (List.mem_of_getElem? (i := 3) rfl)) (by decide) (by decide)) q205a q205c (g := (mkF m 142 #[.val (.int p0), .val (.int p1), .val (.ref b102), .val (.int (5 : Int32)), .val (.ref w_ERROR_CODE), .unset, .unset] [(.int p1), (.ref w_ERROR_CODE)])) rfl (by rw [hml]; rfl) (Steps.refl _) (argsL := [(.int p1)]) (rest := []) (lenOf pd_33 rfl) rfl (by show 2 * 0 + _ ≤ _; exact Nat.le_of_eq rfl) (hb hby at_142) (fun _ _ => ⟨rfl, e156, (by decide : 1 + 0 ≤ _), (by decide : 18 + 0 ≤ _)⟩)
      dsimp only [Pt.U, Pt.locs, Pt.cells, Pt.slots] at X205 l205 y205 z205 st205 hQ205
      subst l205 y205 z205
      obtain ⟨rfl, N205q, e205⟩ := hQ205
      have N205 := Fr.app N156 N205q
      obtain ⟨fs, hr, hrun, hended, hW, hsame⟩ := X205.leave (v := some (.int (1 : Int32))) (fun h => by rw [Bd.returns] at h; cases h)
      refine ⟨_, _, ck202 _ ?_, hrun, hended, _, _, rfl, ?_, ⟨_, rfl⟩, hW, hsame.mono (by decide) (by decide)⟩
      · show Steps p.tables e below (T156.setTop (mkF m 142 #[.val (.int p0), .val (.int p1), .val (.ref b102), .val (.int (5 : Int32)), .val (.ref w_ERROR_CODE), .unset, .unset] [(.int p1), (.ref w_ERROR_CODE)])) _
        refine st205.trans ?_
        show Steps p.tables e below (T205.setTop (mkF m 145 #[.val (.int p0), .val (.int p1), .val (.ref b102), .val (.int (5 : Int32)), .val (.ref w_ERROR_CODE), .unset, .unset] [(.int (1 : Int32))])) _
        refine XS.istore X205.here hx rfl (hb hby at_145) rfl (l' := #[.val (.int p0), .val (.int p1), .val (.ref b102), .val (.int (5 : Int32)), .val (.ref w_ERROR_CODE), .val (.int (1 : Int32)), .unset]) rfl ?_
        show Steps p.tables e below (T205.setTop (mkF m 147 #[.val (.int p0), .val (.int p1), .val (.ref b102), .val (.int (5 : Int32)), .val (.ref w_ERROR_CODE), .val (.int (1 : Int32)), .unset] [])) _
        refine XS.iloadN X205.here hx rfl (hb hby at_147) rfl ?_
        show Steps p.tables e below (T205.setTop (mkF m 148 #[.val (.int p0), .val (.int p1), .val (.ref b102), .val (.int (5 : Int32)), .val (.ref w_ERROR_CODE), .val (.int (1 : Int32)), .unset] [(.int (5 : Int32))])) _
        refine XS.iconst X205.here hx rfl (hb hby at_148) ?_
        show Steps p.tables e below (T205.setTop (mkF m 149 #[.val (.int p0), .val (.int p1), .val (.ref b102), .val (.int (5 : Int32)), .val (.ref w_ERROR_CODE), .val (.int (1 : Int32)), .unset] [(.int (5 : Int32)), (.int (5 : Int32))])) _
        refine XS.icmpYes X205.here hx rfl (pc0 := 149) (pc' := 167) rfl (hb hby at_149) rfl (flt (by decide : ¬ ((5 : Int32) < (5 : Int32)))).2.1 (by decide) (by decide) ?_
        show Steps p.tables e below (T205.setTop (mkF m 167 #[.val (.int p0), .val (.int p1), .val (.ref b102), .val (.int (5 : Int32)), .val (.ref w_ERROR_CODE), .val (.int (1 : Int32)), .unset] [])) _
        refine XS.iloadN X205.here hx rfl (hb hby at_167) rfl ?_
        show Steps p.tables e below (T205.setTop (mkF m 168 #[.val (.int p0), .val (.int p1), .val (.ref b102), .val (.int (5 : Int32)), .val (.ref w_ERROR_CODE), .val (.int (1 : Int32)), .unset] [(.int (5 : Int32))])) _
        refine XS.iconst X205.here hx rfl (hb hby at_168) ?_
        show Steps p.tables e below (T205.setTop (mkF m 169 #[.val (.int p0), .val (.int p1), .val (.ref b102), .val (.int (5 : Int32)), .val (.ref w_ERROR_CODE), .val (.int (1 : Int32)), .unset] [(.int (5 : Int32)), (.int (5 : Int32))])) _
        refine XS.icmpNo X205.here hx rfl (hb hby at_169) rfl (teq (by decide : (5 : Int32) = (5 : Int32))).2 ?_
        show Steps p.tables e below (T205.setTop (mkF m 172 #[.val (.int p0), .val (.int p1), .val (.ref b102), .val (.int (5 : Int32)), .val (.ref w_ERROR_CODE), .val (.int (1 : Int32)), .unset] [])) _
        refine XS.iloadN X205.here hx rfl (hb hby at_172) rfl ?_
        show Steps p.tables e below (T205.setTop (mkF m 173 #[.val (.int p0), .val (.int p1), .val (.ref b102), .val (.int (5 : Int32)), .val (.ref w_ERROR_CODE), .val (.int (1 : Int32)), .unset] [(.int p1)])) _
        refine XS.iconst X205.here hx rfl (hb hby at_173) ?_
        show Steps p.tables e below (T205.setTop (mkF m 174 #[.val (.int p0), .val (.int p1), .val (.ref b102), .val (.int (5 : Int32)), .val (.ref w_ERROR_CODE), .val (.int (1 : Int32)), .unset] [(.int (1 : Int32)), (.int p1)])) _
        refine XS.icmpNo X205.here hx rfl (hb hby at_174) rfl (flt hl203).1 ?_
        show Steps p.tables e below (T205.setTop (mkF m 177 #[.val (.int p0), .val (.int p1), .val (.ref b102), .val (.int (5 : Int32)), .val (.ref w_ERROR_CODE), .val (.int (1 : Int32)), .unset] [])) _
        refine XS.iconst X205.here hx rfl (hb hby at_177) ?_
        show Steps p.tables e below (T205.setTop (mkF m 178 #[.val (.int p0), .val (.int p1), .val (.ref b102), .val (.int (5 : Int32)), .val (.ref w_ERROR_CODE), .val (.int (1 : Int32)), .unset] [(.int (1 : Int32))])) _
        refine XS.goto X205.here hx rfl (pc0 := 178) (pc' := 182) rfl (hb hby at_178) (by decide) (by decide) ?_
        show Steps p.tables e below (T205.setTop (mkF m 182 #[.val (.int p0), .val (.int p1), .val (.ref b102), .val (.int (5 : Int32)), .val (.ref w_ERROR_CODE), .val (.int (1 : Int32)), .unset] [(.int (1 : Int32))])) _
        refine XS.istore X205.here hx rfl (hb hby at_182) rfl (l' := #[.val (.int p0), .val (.int p1), .val (.ref b102), .val (.int (5 : Int32)), .val (.ref w_ERROR_CODE), .val (.int (1 : Int32)), .val (.int (1 : Int32))]) rfl ?_
        show Steps p.tables e below (T205.setTop (mkF m 184 #[.val (.int p0), .val (.int p1), .val (.ref b102), .val (.int (5 : Int32)), .val (.ref w_ERROR_CODE), .val (.int (1 : Int32)), .val (.int (1 : Int32))] [])) _
        refine XS.goto X205.here hx rfl (pc0 := 184) (pc' := 217) rfl (hb hby at_184) (by decide) (by decide) ?_
        show Steps p.tables e below (T205.setTop (mkF m 217 #[.val (.int p0), .val (.int p1), .val (.ref b102), .val (.int (5 : Int32)), .val (.ref w_ERROR_CODE), .val (.int (1 : Int32)), .val (.int (1 : Int32))] [])) _
        refine XS.iload X205.here hx rfl (hb hby at_217) rfl ?_
        show Steps p.tables e below (T205.setTop (mkF m 219 #[.val (.int p0), .val (.int p1), .val (.ref b102), .val (.int (5 : Int32)), .val (.ref w_ERROR_CODE), .val (.int (1 : Int32)), .val (.int (1 : Int32))] [(.int (1 : Int32))])) _
        refine XS.iload X205.here hx rfl (hb hby at_219) rfl ?_
        show Steps p.tables e below (T205.setTop (mkF m 221 #[.val (.int p0), .val (.int p1), .val (.ref b102), .val (.int (5 : Int32)), .val (.ref w_ERROR_CODE), .val (.int (1 : Int32)), .val (.int (1 : Int32))] [(.int (1 : Int32)), (.int (1 : Int32))])) _
        refine XS.icmpNo X205.here hx rfl (hb hby at_221) rfl (teq (by decide : (1 : Int32) = (1 : Int32))).2 ?_
        show Steps p.tables e below (T205.setTop (mkF m 224 #[.val (.int p0), .val (.int p1), .val (.ref b102), .val (.int (5 : Int32)), .val (.ref w_ERROR_CODE), .val (.int (1 : Int32)), .val (.int (1 : Int32))] [])) _
        refine XS.iconst X205.here hx rfl (hb hby at_224) ?_
        show Steps p.tables e below (T205.setTop (mkF m 225 #[.val (.int p0), .val (.int p1), .val (.ref b102), .val (.int (5 : Int32)), .val (.ref w_ERROR_CODE), .val (.int (1 : Int32)), .val (.int (1 : Int32))] [(.int (1 : Int32))])) _
        refine XS.goto X205.here hx rfl (pc0 := 225) (pc' := 229) rfl (hb hby at_225) (by decide) (by decide) ?_
        show Steps p.tables e below (T205.setTop (mkF m 229 #[.val (.int p0), .val (.int p1), .val (.ref b102), .val (.int (5 : Int32)), .val (.ref w_ERROR_CODE), .val (.int (1 : Int32)), .val (.int (1 : Int32))] [(.int (1 : Int32))])) _
        exact retN X205 hx (t := .boolean) Bd.returns (by simp) (hb hby at_229) hr
      · show own_Made (some (.int 1)) n0 _ T205.heap _
        rw [e205]
        exact ⟨rfl, N205, trivial⟩
  · -- (6 : Int32)
    obtain ⟨cl206, Ar206, q206, S206, N206_, H206_, G206⟩ := V156
    have hin206 : ¬ ((6 : Int32) < 0 ∨ cl206.slots.size ≤ ((6 : Int32)).toNatClampNeg) := inb_of S206 ⟨by decide, by decide⟩
    have hat206 : cl206.slots[((6 : Int32)).toNatClampNeg]? = some (.ref w_ERROR_INFO) := Has.at H206_ hin206 rfl
    obtain ⟨cq207, kq207, q207a, q207b, q207c⟩ := isOf hZ e156 ((E_ERROR_INFO.ext EX156))
    obtain ⟨_, _, ⟨T207, L207, k207, n207⟩, -, X207, ⟨Lc207, hQ207, l207, y207, z207⟩, st207⟩ := X156.virtualBack hx (y := (⟨"com/example/parley/parley/message/AttributeType", "accepts", "(I)Z"⟩ : MethodName)) (z := (⟨"com/example/parley/parley/message/AttributeType", "accepts", "(I)Z"⟩ : MethodName)) hown (mvT hZ (hw _ (List.mem_of_getElem? (i := 41) rfl))) (mvT hZ (hw _ (List.mem_of_getElem? (i := 42) rfl))) (notFace_of_selects (args := #[]) (mvT hZ (hw _ (List.mem_of_getElem? (i := 44) rfl)))) (mvT hZ (hw _ (List.mem_of_getElem? (i := 44) rfl))) (mvT hZ (hw _ (List.mem_of_getElem? (i := 43) rfl))) (by decide) (backOf (W := 0) (rm_acc_OCTETS l Z a0 hw [] w_ERROR_INFO p1 h156 n0 (Nat.le_trans Z0 EX156.1) w_OCTETS (F_ERROR_INFO_shape.ext EX156) (E_OCTETS.ext EX156) (F_OCTETS_ordinal.ext EX156)) hZ (hw _ (List.mem_of_getElem? (i := 45) rfl)) (hw _ (List.mem_of_getElem? (i := 3) rfl)) (by decide) (by decide)) q207a q207c (g := (mkF m 142 #[.val (.int p0), .val (.int p1), .val (.ref b102), .val (.int (6 : Int32)), .val (.ref w_ERROR_INFO), .unset, .unset] [(.int p1), (.ref w_ERROR_INFO)])) rfl (by rw [hml]; rfl) (Steps.refl _) (argsL := [(.int p1)]) (rest := []) (lenOf pd_33 rfl) rfl (by show 2 * 0 + _ ≤ _; exact Nat.le_of_eq rfl) (hb hby at_142) (fun _ _ => ⟨rfl, e156, (by decide : 1 + 0 ≤ _), (by decide : 18 + 0 ≤ _)⟩)
    dsimp only [Pt.U, Pt.locs, Pt.cells, Pt.slots] at X207 l207 y207 z207 st207 hQ207
    subst l207 y207 z207
    obtain ⟨rfl, N207q, e207⟩ := hQ207
    have N207 := Fr.app N156 N207q
    have ck209 : ∀ t, Steps p.tables e below (T207.setTop (mkF m 194 #[.val (.int p0), .val (.int p1), .val (.ref b102), .val (.int (6 : Int32)), .val (.ref w_ERROR_INFO), .val (.int (1 : Int32)), .unset] [(.int p1)])) t → Steps p.tables e below (s₁.setTop (entryFrame m #[(.int p0), (.int p1)] maxLocals)) t := by
      intro t kt
      refine ck157 _ ?_
      show Steps p.tables e below (T156.setTop (mkF m 133 #[.val (.int p0), .val (.int p1), .val (.ref b102), .unset, .unset, .unset, .unset] [(.int ((p0 &&& (2147483647 : Int32)) % (18 : Int32)))])) _
      rw [hv164]
      show Steps p.tables e below (T156.setTop (mkF m 133 #[.val (.int p0), .val (.int p1), .val (.ref b102), .unset, .unset, .unset, .unset] [(.int (6 : Int32))])) _
      refine XS.istoreN X156.here hx rfl (hb hby at_133) rfl (l' := #[.val (.int p0), .val (.int p1), .val (.ref b102), .val (.int (6 : Int32)), .unset, .unset, .unset]) rfl ?_
      show Steps p.tables e below (T156.setTop (mkF m 134 #[.val (.int p0), .val (.int p1), .val (.ref b102), .val (.int (6 : Int32)), .unset, .unset, .unset] [])) _
      refine XS.aloadN X156.here hx rfl (hb hby at_134) rfl rfl ?_
      show Steps p.tables e below (T156.setTop (mkF m 135 #[.val (.int p0), .val (.int p1), .val (.ref b102), .val (.int (6 : Int32)), .unset, .unset, .unset] [(.ref b102)])) _
      refine XS.iloadN X156.here hx rfl (hb hby at_135) rfl ?_
      show Steps p.tables e below (T156.setTop (mkF m 136 #[.val (.int p0), .val (.int p1), .val (.ref b102), .val (.int (6 : Int32)), .unset, .unset, .unset] [(.int (6 : Int32)), (.ref b102)])) _
      refine X156.aaload hx (j := (6 : Int32)) (v := (.ref w_ERROR_INFO)) (by rw [e156]; exact Ar206.1) (State.isArrayOf_alike hZ.alike Ar206.2.1) rfl Ar206.2.2 hin206 hat206 (g := (mkF m 136 #[.val (.int p0), .val (.int p1), .val (.ref b102), .val (.int (6 : Int32)), .unset, .unset, .unset] [(.int (6 : Int32)), (.ref b102)])) rfl rfl (hb hby at_136) _ ?_
      show Steps p.tables e below (T156.setTop (mkF m 137 #[.val (.int p0), .val (.int p1), .val (.ref b102), .val (.int (6 : Int32)), .unset, .unset, .unset] [(.ref w_ERROR_INFO)])) _
      refine XS.astore X156.here hx rfl (hb hby at_137) rfl rfl (l' := #[.val (.int p0), .val (.int p1), .val (.ref b102), .val (.int (6 : Int32)), .val (.ref w_ERROR_INFO), .unset, .unset]) rfl ?_
      show Steps p.tables e below (T156.setTop (mkF m 139 #[.val (.int p0), .val (.int p1), .val (.ref b102), .val (.int (6 : Int32)), .val (.ref w_ERROR_INFO), .unset, .unset] [])) _
      refine XS.aload X156.here hx rfl (hb hby at_139) rfl rfl ?_
      show Steps p.tables e below (T156.setTop (mkF m 141 #[.val (.int p0), .val (.int p1), .val (.ref b102), .val (.int (6 : Int32)), .val (.ref w_ERROR_INFO), .unset, .unset] [(.ref w_ERROR_INFO)])) _
      refine XS.iloadN X156.here hx rfl (hb hby at_141) rfl ?_
      show Steps p.tables e below (T156.setTop (mkF m 142 #[.val (.int p0), .val (.int p1), .val (.ref b102), .val (.int (6 : Int32)), .val (.ref w_ERROR_INFO), .unset, .unset] [(.int p1), (.ref w_ERROR_INFO)])) _
      refine st207.trans ?_
      show Steps p.tables e below (T207.setTop (mkF m 145 #[.val (.int p0), .val (.int p1), .val (.ref b102), .val (.int (6 : Int32)), .val (.ref w_ERROR_INFO), .unset, .unset] [(.int (1 : Int32))])) _
      refine XS.istore X207.here hx rfl (hb hby at_145) rfl (l' := #[.val (.int p0), .val (.int p1), .val (.ref b102), .val (.int (6 : Int32)), .val (.ref w_ERROR_INFO), .val (.int (1 : Int32)), .unset]) rfl ?_
      show Steps p.tables e below (T207.setTop (mkF m 147 #[.val (.int p0), .val (.int p1), .val (.ref b102), .val (.int (6 : Int32)), .val (.ref w_ERROR_INFO), .val (.int (1 : Int32)), .unset] [])) _
      refine XS.iloadN X207.here hx rfl (hb hby at_147) rfl ?_
      show Steps p.tables e below (T207.setTop (mkF m 148 #[.val (.int p0), .val (.int p1), .val (.ref b102), .val (.int (6 : Int32)), .val (.ref w_ERROR_INFO), .val (.int (1 : Int32)), .unset] [(.int (6 : Int32))])) _
      refine XS.iconst X207.here hx rfl (hb hby at_148) ?_
      show Steps p.tables e below (T207.setTop (mkF m 149 #[.val (.int p0), .val (.int p1), .val (.ref b102), .val (.int (6 : Int32)), .val (.ref w_ERROR_INFO), .val (.int (1 : Int32)), .unset] [(.int (5 : Int32)), (.int (6 : Int32))])) _
      refine XS.icmpYes X207.here hx rfl (pc0 := 149) (pc' := 167) rfl (hb hby at_149) rfl (flt (by decide : ¬ ((6 : Int32) < (5 : Int32)))).2.1 (by decide) (by decide) ?_
      show Steps p.tables e below (T207.setTop (mkF m 167 #[.val (.int p0), .val (.int p1), .val (.ref b102), .val (.int (6 : Int32)), .val (.ref w_ERROR_INFO), .val (.int (1 : Int32)), .unset] [])) _
      refine XS.iloadN X207.here hx rfl (hb hby at_167) rfl ?_
      show Steps p.tables e below (T207.setTop (mkF m 168 #[.val (.int p0), .val (.int p1), .val (.ref b102), .val (.int (6 : Int32)), .val (.ref w_ERROR_INFO), .val (.int (1 : Int32)), .unset] [(.int (6 : Int32))])) _
      refine XS.iconst X207.here hx rfl (hb hby at_168) ?_
      show Steps p.tables e below (T207.setTop (mkF m 169 #[.val (.int p0), .val (.int p1), .val (.ref b102), .val (.int (6 : Int32)), .val (.ref w_ERROR_INFO), .val (.int (1 : Int32)), .unset] [(.int (5 : Int32)), (.int (6 : Int32))])) _
      refine XS.icmpYes X207.here hx rfl (pc0 := 169) (pc' := 187) rfl (hb hby at_169) rfl (feq (by decide : ¬ ((6 : Int32) = (5 : Int32)))).2 (by decide) (by decide) ?_
      show Steps p.tables e below (T207.setTop (mkF m 187 #[.val (.int p0), .val (.int p1), .val (.ref b102), .val (.int (6 : Int32)), .val (.ref w_ERROR_INFO), .val (.int (1 : Int32)), .unset] [])) _
      refine XS.iloadN X207.here hx rfl (hb hby at_187) rfl ?_
      show Steps p.tables e below (T207.setTop (mkF m 188 #[.val (.int p0), .val (.int p1), .val (.ref b102), .val (.int (6 : Int32)), .val (.ref w_ERROR_INFO), .val (.int (1 : Int32)), .unset] [(.int (6 : Int32))])) _
      refine XS.bipush X207.here hx rfl (hb hby at_188) ?_
      show Steps p.tables e below (T207.setTop (mkF m 190 #[.val (.int p0), .val (.int p1), .val (.ref b102), .val (.int (6 : Int32)), .val (.ref w_ERROR_INFO), .val (.int (1 : Int32)), .unset] [(.int (13 : Int32)), (.int (6 : Int32))])) _
      refine XS.icmpNo X207.here hx rfl (hb hby at_190) rfl (tlt (by decide : (6 : Int32) < (13 : Int32))).2.1 ?_
      show Steps p.tables e below (T207.setTop (mkF m 193 #[.val (.int p0), .val (.int p1), .val (.ref b102), .val (.int (6 : Int32)), .val (.ref w_ERROR_INFO), .val (.int (1 : Int32)), .unset] [])) _
      refine XS.iloadN X207.here hx rfl (hb hby at_193) rfl ?_
      exact kt
    (try clear N207q); (try clear st207); (try clear Lc207); (try clear n207); (try clear k207); (try clear L207); (try clear q207c); (try clear q207b); (try clear q207a); (try clear kq207); (try clear cq207); (try clear hat206); (try clear hin206); (try clear G206); (try clear H206_); (try clear N206_); (try clear S206); (try clear q206); (try clear Ar206); (try clear cl206)
    by_cases hc194_208 : p1 < (0 : Int32)
    · -- pc 194: p1 < (0 : Int32)
      obtain ⟨fs, hr, hrun, hended, hW, hsame⟩ := X207.leave (v := some (.int (1 : Int32))) (fun h => by rw [Bd.returns] at h; cases h)
      refine ⟨_, _, ck209 _ ?_, hrun, hended, _, _, rfl, ?_, ⟨_, rfl⟩, hW, hsame.mono (by decide) (by decide)⟩
      · show Steps p.tables e below (T207.setTop (mkF m 194 #[.val (.int p0), .val (.int p1), .val (.ref b102), .val (.int (6 : Int32)), .val (.ref w_ERROR_INFO), .val (.int (1 : Int32)), .unset] [(.int p1)])) _
        refine XS.ifNo X207.here hx rfl (hb hby at_194) rfl ((if0 _ _).trans (tlt hc194_208).2.1) ?_
        show Steps p.tables e below (T207.setTop (mkF m 197 #[.val (.int p0), .val (.int p1), .val (.ref b102), .val (.int (6 : Int32)), .val (.ref w_ERROR_INFO), .val (.int (1 : Int32)), .unset] [])) _
        refine XS.iconst X207.here hx rfl (hb hby at_197) ?_
        show Steps p.tables e below (T207.setTop (mkF m 198 #[.val (.int p0), .val (.int p1), .val (.ref b102), .val (.int (6 : Int32)), .val (.ref w_ERROR_INFO), .val (.int (1 : Int32)), .unset] [(.int (1 : Int32))])) _
        exact retN X207 hx (t := .boolean) Bd.returns (by simp) (hb hby at_198) hr
      · show own_Made (some (.int 1)) n0 _ T207.heap _
        rw [e207]
        exact ⟨rfl, N207, trivial⟩
    · -- pc 194: not p1 < (0 : Int32)
      obtain ⟨fs, hr, hrun, hended, hW, hsame⟩ := X207.leave (v := some (.int (1 : Int32))) (fun h => by rw [Bd.returns] at h; cases h)
      refine ⟨_, _, ck209 _ ?_, hrun, hended, _, _, rfl, ?_, ⟨_, rfl⟩, hW, hsame.mono (by decide) (by decide)⟩
      · show Steps p.tables e below (T207.setTop (mkF m 194 #[.val (.int p0), .val (.int p1), .val (.ref b102), .val (.int (6 : Int32)), .val (.ref w_ERROR_INFO), .val (.int (1 : Int32)), .unset] [(.int p1)])) _
        refine XS.ifYes X207.here hx rfl (pc0 := 194) (pc' := 199) rfl (hb hby at_194) rfl ((if0 _ _).trans (flt hc194_208).2.1) (by decide) (by decide) ?_
        show Steps p.tables e below (T207.setTop (mkF m 199 #[.val (.int p0), .val (.int p1), .val (.ref b102), .val (.int (6 : Int32)), .val (.ref w_ERROR_INFO), .val (.int (1 : Int32)), .unset] [])) _
        refine XS.iconst X207.here hx rfl (hb hby at_199) ?_
        show Steps p.tables e below (T207.setTop (mkF m 200 #[.val (.int p0), .val (.int p1), .val (.ref b102), .val (.int (6 : Int32)), .val (.ref w_ERROR_INFO), .val (.int (1 : Int32)), .unset] [(.int (1 : Int32))])) _
        refine XS.istore X207.here hx rfl (hb hby at_200) rfl (l' := #[.val (.int p0), .val (.int p1), .val (.ref b102), .val (.int (6 : Int32)), .val (.ref w_ERROR_INFO), .val (.int (1 : Int32)), .val (.int (1 : Int32))]) rfl ?_
        show Steps p.tables e below (T207.setTop (mkF m 202 #[.val (.int p0), .val (.int p1), .val (.ref b102), .val (.int (6 : Int32)), .val (.ref w_ERROR_INFO), .val (.int (1 : Int32)), .val (.int (1 : Int32))] [])) _
        refine XS.goto X207.here hx rfl (pc0 := 202) (pc' := 217) rfl (hb hby at_202) (by decide) (by decide) ?_
        show Steps p.tables e below (T207.setTop (mkF m 217 #[.val (.int p0), .val (.int p1), .val (.ref b102), .val (.int (6 : Int32)), .val (.ref w_ERROR_INFO), .val (.int (1 : Int32)), .val (.int (1 : Int32))] [])) _
        refine XS.iload X207.here hx rfl (hb hby at_217) rfl ?_
        show Steps p.tables e below (T207.setTop (mkF m 219 #[.val (.int p0), .val (.int p1), .val (.ref b102), .val (.int (6 : Int32)), .val (.ref w_ERROR_INFO), .val (.int (1 : Int32)), .val (.int (1 : Int32))] [(.int (1 : Int32))])) _
        refine XS.iload X207.here hx rfl (hb hby at_219) rfl ?_
        show Steps p.tables e below (T207.setTop (mkF m 221 #[.val (.int p0), .val (.int p1), .val (.ref b102), .val (.int (6 : Int32)), .val (.ref w_ERROR_INFO), .val (.int (1 : Int32)), .val (.int (1 : Int32))] [(.int (1 : Int32)), (.int (1 : Int32))])) _
        refine XS.icmpNo X207.here hx rfl (hb hby at_221) rfl (teq (by decide : (1 : Int32) = (1 : Int32))).2 ?_
        show Steps p.tables e below (T207.setTop (mkF m 224 #[.val (.int p0), .val (.int p1), .val (.ref b102), .val (.int (6 : Int32)), .val (.ref w_ERROR_INFO), .val (.int (1 : Int32)), .val (.int (1 : Int32))] [])) _
        refine XS.iconst X207.here hx rfl (hb hby at_224) ?_
        show Steps p.tables e below (T207.setTop (mkF m 225 #[.val (.int p0), .val (.int p1), .val (.ref b102), .val (.int (6 : Int32)), .val (.ref w_ERROR_INFO), .val (.int (1 : Int32)), .val (.int (1 : Int32))] [(.int (1 : Int32))])) _
        refine XS.goto X207.here hx rfl (pc0 := 225) (pc' := 229) rfl (hb hby at_225) (by decide) (by decide) ?_
        show Steps p.tables e below (T207.setTop (mkF m 229 #[.val (.int p0), .val (.int p1), .val (.ref b102), .val (.int (6 : Int32)), .val (.ref w_ERROR_INFO), .val (.int (1 : Int32)), .val (.int (1 : Int32))] [(.int (1 : Int32))])) _
        exact retN X207 hx (t := .boolean) Bd.returns (by simp) (hb hby at_229) hr
      · show own_Made (some (.int 1)) n0 _ T207.heap _
        rw [e207]
        exact ⟨rfl, N207, trivial⟩
  · -- (7 : Int32)
    obtain ⟨cl210, Ar210, q210, S210, N210_, H210_, G210⟩ := V156
    have hin210 : ¬ ((7 : Int32) < 0 ∨ cl210.slots.size ≤ ((7 : Int32)).toNatClampNeg) := inb_of S210 ⟨by decide, by decide⟩
    have hat210 : cl210.slots[((7 : Int32)).toNatClampNeg]? = some (.ref w_PARTICIPANT_PROVIDED_INFO) := Has.at H210_ hin210 rfl
    obtain ⟨cq211, kq211, q211a, q211b, q211c⟩ := isOf hZ e156 ((E_PARTICIPANT_PROVIDED_INFO.ext EX156))
    obtain ⟨_, _, ⟨T211, L211, k211, n211⟩, -, X211, ⟨Lc211, hQ211, l211, y211, z211⟩, st211⟩ := X156.virtualBack hx (y := (⟨"com/example/parley/parley/message/AttributeType", "accepts", "(I)Z"⟩ : MethodName)) (z := (⟨"com/example/parley/parley/message/AttributeType", "accepts", "(I)Z"⟩ : MethodName)) hown (mvT hZ (hw _ (List.mem_of_getElem? (i := 41) rfl))) (mvT hZ (hw _ (List.mem_of_getElem? (i := 42) rfl))) (notFace_of_selects (args := #[]) (mvT hZ (hw _ (List.mem_of_getElem? (i := 44) rfl)))) (mvT hZ (hw _ (List.mem_of_getElem? (i := 44) rfl))) (mvT hZ (hw _ (List.mem_of_getElem? (i := 43) rfl))) (by decide) (backOf (W := 0) (rm_acc_OCTETS l Z a0 hw [] w_PARTICIPANT_PROVIDED_INFO p1 h156 n0 (Nat.le_trans Z0 EX156.1) w_OCTETS (F_PARTICIPANT_PROVIDED_INFO_shape.ext EX156) (E_OCTETS.ext EX156) (F_OCTETS_ordinal.ext EX156)) hZ (hw _ (List.mem_of_getElem? (i := 45) rfl)) (hw _ (List.mem_of_getElem? (i := 3) rfl)) (by decide) (by decide)) q211a q211c (g := (mkF m 142 #[.val (.int p0), .val (.int p1), .val (.ref b102), .val (.int (7 : Int32)), .val (.ref w_PARTICIPANT_PROVIDED_INFO), .unset, .unset] [(.int p1), (.ref w_PARTICIPANT_PROVIDED_INFO)])) rfl (by rw [hml]; rfl) (Steps.refl _) (argsL := [(.int p1)]) (rest := []) (lenOf pd_33 rfl) rfl (by show 2 * 0 + _ ≤ _; exact Nat.le_of_eq rfl) (hb hby at_142) (fun _ _ => ⟨rfl, e156, (by decide : 1 + 0 ≤ _), (by decide : 18 + 0 ≤ _)⟩)
    dsimp only [Pt.U, Pt.locs, Pt.cells, Pt.slots] at X211 l211 y211 z211 st211 hQ211
    subst l211 y211 z211
    obtain ⟨rfl, N211q, e211⟩ := hQ211
    have N211 := Fr.app N156 N211q
    have ck213 : ∀ t, Steps p.tables e below (T211.setTop (mkF m 194 #[.val (.int p0), .val (.int p1), .val (.ref b102), .val (.int (7 : Int32)), .val (.ref w_PARTICIPANT_PROVIDED_INFO), .val (.int (1 : Int32)), .unset] [(.int p1)])) t → Steps p.tables e below (s₁.setTop (entryFrame m #[(.int p0), (.int p1)] maxLocals)) t := by
      intro t kt
      refine ck157 _ ?_
      show Steps p.tables e below (T156.setTop (mkF m 133 #[.val (.int p0), .val (.int p1), .val (.ref b102), .unset, .unset, .unset, .unset] [(.int ((p0 &&& (2147483647 : Int32)) % (18 : Int32)))])) _
      rw [hv165]
      show Steps p.tables e below (T156.setTop (mkF m 133 #[.val (.int p0), .val (.int p1), .val (.ref b102), .unset, .unset, .unset, .unset] [(.int (7 : Int32))])) _
      refine XS.istoreN X156.here hx rfl (hb hby at_133) rfl (l' := #[.val (.int p0), .val (.int p1), .val (.ref b102), .val (.int (7 : Int32)), .unset, .unset, .unset]) rfl ?_
      show Steps p.tables e below (T156.setTop (mkF m 134 #[.val (.int p0), .val (.int p1), .val (.ref b102), .val (.int (7 : Int32)), .unset, .unset, .unset] [])) _
      refine XS.aloadN X156.here hx rfl (hb hby at_134) rfl rfl ?_
      show Steps p.tables e below (T156.setTop (mkF m 135 #[.val (.int p0), .val (.int p1), .val (.ref b102), .val (.int (7 : Int32)), .unset, .unset, .unset] [(.ref b102)])) _
      refine XS.iloadN X156.here hx rfl (hb hby at_135) rfl ?_
      show Steps p.tables e below (T156.setTop (mkF m 136 #[.val (.int p0), .val (.int p1), .val (.ref b102), .val (.int (7 : Int32)), .unset, .unset, .unset] [(.int (7 : Int32)), (.ref b102)])) _
      refine X156.aaload hx (j := (7 : Int32)) (v := (.ref w_PARTICIPANT_PROVIDED_INFO)) (by rw [e156]; exact Ar210.1) (State.isArrayOf_alike hZ.alike Ar210.2.1) rfl Ar210.2.2 hin210 hat210 (g := (mkF m 136 #[.val (.int p0), .val (.int p1), .val (.ref b102), .val (.int (7 : Int32)), .unset, .unset, .unset] [(.int (7 : Int32)), (.ref b102)])) rfl rfl (hb hby at_136) _ ?_
      show Steps p.tables e below (T156.setTop (mkF m 137 #[.val (.int p0), .val (.int p1), .val (.ref b102), .val (.int (7 : Int32)), .unset, .unset, .unset] [(.ref w_PARTICIPANT_PROVIDED_INFO)])) _
      refine XS.astore X156.here hx rfl (hb hby at_137) rfl rfl (l' := #[.val (.int p0), .val (.int p1), .val (.ref b102), .val (.int (7 : Int32)), .val (.ref w_PARTICIPANT_PROVIDED_INFO), .unset, .unset]) rfl ?_
      show Steps p.tables e below (T156.setTop (mkF m 139 #[.val (.int p0), .val (.int p1), .val (.ref b102), .val (.int (7 : Int32)), .val (.ref w_PARTICIPANT_PROVIDED_INFO), .unset, .unset] [])) _
      refine XS.aload X156.here hx rfl (hb hby at_139) rfl rfl ?_
      show Steps p.tables e below (T156.setTop (mkF m 141 #[.val (.int p0), .val (.int p1), .val (.ref b102), .val (.int (7 : Int32)), .val (.ref w_PARTICIPANT_PROVIDED_INFO), .unset, .unset] [(.ref w_PARTICIPANT_PROVIDED_INFO)])) _
      refine XS.iloadN X156.here hx rfl (hb hby at_141) rfl ?_
      show Steps p.tables e below (T156.setTop (mkF m 142 #[.val (.int p0), .val (.int p1), .val (.ref b102), .val (.int (7 : Int32)), .val (.ref w_PARTICIPANT_PROVIDED_INFO), .unset, .unset] [(.int p1), (.ref w_PARTICIPANT_PROVIDED_INFO)])) _
      refine st211.trans ?_
      show Steps p.tables e below (T211.setTop (mkF m 145 #[.val (.int p0), .val (.int p1), .val (.ref b102), .val (.int (7 : Int32)), .val (.ref w_PARTICIPANT_PROVIDED_INFO), .unset, .unset] [(.int (1 : Int32))])) _
      refine XS.istore X211.here hx rfl (hb hby at_145) rfl (l' := #[.val (.int p0), .val (.int p1), .val (.ref b102), .val (.int (7 : Int32)), .val (.ref w_PARTICIPANT_PROVIDED_INFO), .val (.int (1 : Int32)), .unset]) rfl ?_
      show Steps p.tables e below (T211.setTop (mkF m 147 #[.val (.int p0), .val (.int p1), .val (.ref b102), .val (.int (7 : Int32)), .val (.ref w_PARTICIPANT_PROVIDED_INFO), .val (.int (1 : Int32)), .unset] [])) _
      refine XS.iloadN X211.here hx rfl (hb hby at_147) rfl ?_
      show Steps p.tables e below (T211.setTop (mkF m 148 #[.val (.int p0), .val (.int p1), .val (.ref b102), .val (.int (7 : Int32)), .val (.ref w_PARTICIPANT_PROVIDED_INFO), .val (.int (1 : Int32)), .unset] [(.int (7 : Int32))])) _
      refine XS.iconst X211.here hx rfl (hb hby at_148) ?_
      show Steps p.tables e below (T211.setTop (mkF m 149 #[.val (.int p0), .val (.int p1), .val (.ref b102), .val (.int (7 : Int32)), .val (.ref w_PARTICIPANT_PROVIDED_INFO), .val (.int (1 : Int32)), .unset] [(.int (5 : Int32)), (.int (7 : Int32))])) _
      refine XS.icmpYes X211.here hx rfl (pc0 := 149) (pc' := 167) rfl (hb hby at_149) rfl (flt (by decide : ¬ ((7 : Int32) < (5 : Int32)))).2.1 (by decide) (by decide) ?_
      show Steps p.tables e below (T211.setTop (mkF m 167 #[.val (.int p0), .val (.int p1), .val (.ref b102), .val (.int (7 : Int32)), .val (.ref w_PARTICIPANT_PROVIDED_INFO), .val (.int (1 : Int32)), .unset] [])) _
      refine XS.iloadN X211.here hx rfl (hb hby at_167) rfl ?_
      show Steps p.tables e below (T211.setTop (mkF m 168 #[.val (.int p0), .val (.int p1), .val (.ref b102), .val (.int (7 : Int32)), .val (.ref w_PARTICIPANT_PROVIDED_INFO), .val (.int (1 : Int32)), .unset] [(.int (7 : Int32))])) _
      refine XS.iconst X211.here hx rfl (hb hby at_168) ?_
      show Steps p.tables e below (T211.setTop (mkF m 169 #[.val (.int p0), .val (.int p1), .val (.ref b102), .val (.int (7 : Int32)), .val (.ref w_PARTICIPANT_PROVIDED_INFO), .val (.int (1 : Int32)), .unset] [(.int (5 : Int32)), (.int (7 : Int32))])) _
      refine XS.icmpYes X211.here hx rfl (pc0 := 169) (pc' := 187) rfl (hb hby at_169) rfl (feq (by decide : ¬ ((7 : Int32) = (5 : Int32)))).2 (by decide) (by decide) ?_
      show Steps p.tables e below (T211.setTop (mkF m 187 #[.val (.int p0), .val (.int p1), .val (.ref b102), .val (.int (7 : Int32)), .val (.ref w_PARTICIPANT_PROVIDED_INFO), .val (.int (1 : Int32)), .unset] [])) _
      refine XS.iloadN X211.here hx rfl (hb hby at_187) rfl ?_
      show Steps p.tables e below (T211.setTop (mkF m 188 #[.val (.int p0), .val (.int p1), .val (.ref b102), .val (.int (7 : Int32)), .val (.ref w_PARTICIPANT_PROVIDED_INFO), .val (.int (1 : Int32)), .unset] [(.int (7 : Int32))])) _
      refine XS.bipush X211.here hx rfl (hb hby at_188) ?_
      show Steps p.tables e below (T211.setTop (mkF m 190 #[.val (.int p0), .val (.int p1), .val (.ref b102), .val (.int (7 : Int32)), .val (.ref w_PARTICIPANT_PROVIDED_INFO), .val (.int (1 : Int32)), .unset] [(.int (13 : Int32)), (.int (7 : Int32))])) _
      refine XS.icmpNo X211.here hx rfl (hb hby at_190) rfl (tlt (by decide : (7 : Int32) < (13 : Int32))).2.1 ?_
      show Steps p.tables e below (T211.setTop (mkF m 193 #[.val (.int p0), .val (.int p1), .val (.ref b102), .val (.int (7 : Int32)), .val (.ref w_PARTICIPANT_PROVIDED_INFO), .val (.int (1 : Int32)), .unset] [])) _
      refine XS.iloadN X211.here hx rfl (hb hby at_193) rfl ?_
      exact kt
    (try clear N211q); (try clear st211); (try clear Lc211); (try clear n211); (try clear k211); (try clear L211); (try clear q211c); (try clear q211b); (try clear q211a); (try clear kq211); (try clear cq211); (try clear hat210); (try clear hin210); (try clear G210); (try clear H210_); (try clear N210_); (try clear S210); (try clear q210); (try clear Ar210); (try clear cl210)
    by_cases hc194_212 : p1 < (0 : Int32)
    · -- pc 194: p1 < (0 : Int32)
      obtain ⟨fs, hr, hrun, hended, hW, hsame⟩ := X211.leave (v := some (.int (1 : Int32))) (fun h => by rw [Bd.returns] at h; cases h)
      refine ⟨_, _, ck213 _ ?_, hrun, hended, _, _, rfl, ?_, ⟨_, rfl⟩, hW, hsame.mono (by decide) (by decide)⟩
      · show Steps p.tables e below (T211.setTop (mkF m 194 #[.val (.int p0), .val (.int p1), .val (.ref b102), .val (.int (7 : Int32)), .val (.ref w_PARTICIPANT_PROVIDED_INFO), .val (.int (1 : Int32)), .unset] [(.int p1)])) _
        refine XS.ifNo X211.here hx rfl (hb hby at_194) rfl ((if0 _ _).trans (tlt hc194_212).2.1) ?_
        show Steps p.tables e below (T211.setTop (mkF m 197 #[.val (.int p0), .val (.int p1), .val (.ref b102), .val (.int (7 : Int32)), .val (.ref w_PARTICIPANT_PROVIDED_INFO), .val (.int (1 : Int32)), .unset] [])) _
        refine XS.iconst X211.here hx rfl (hb hby at_197) ?_
        show Steps p.tables e below (T211.setTop (mkF m 198 #[.val (.int p0), .val (.int p1), .val (.ref b102), .val (.int (7 : Int32)), .val (.ref w_PARTICIPANT_PROVIDED_INFO), .val (.int (1 : Int32)), .unset] [(.int (1 : Int32))])) _
        exact retN X211 hx (t := .boolean) Bd.returns (by simp) (hb hby at_198) hr
      · show own_Made (some (.int 1)) n0 _ T211.heap _
        rw [e211]
        exact ⟨rfl, N211, trivial⟩
    · -- pc 194: not p1 < (0 : Int32)
      obtain ⟨fs, hr, hrun, hended, hW, hsame⟩ := X211.leave (v := some (.int (1 : Int32))) (fun h => by rw [Bd.returns] at h; cases h)
      refine ⟨_, _, ck213 _ ?_, hrun, hended, _, _, rfl, ?_, ⟨_, rfl⟩, hW, hsame.mono (by decide) (by decide)⟩
      · show Steps p.tables e below (T211.setTop (mkF m 194 #[.val (.int p0), .val (.int p1), .val (.ref b102), .val (.int (7 : Int32)), .val (.ref w_PARTICIPANT_PROVIDED_INFO), .val (.int (1 : Int32)), .unset] [(.int p1)])) _
        refine XS.ifYes X211.here hx rfl (pc0 := 194) (pc' := 199) rfl (hb hby at_194) rfl ((if0 _ _).trans (flt hc194_212).2.1) (by decide) (by decide) ?_
        show Steps p.tables e below (T211.setTop (mkF m 199 #[.val (.int p0), .val (.int p1), .val (.ref b102), .val (.int (7 : Int32)), .val (.ref w_PARTICIPANT_PROVIDED_INFO), .val (.int (1 : Int32)), .unset] [])) _
        refine XS.iconst X211.here hx rfl (hb hby at_199) ?_
        show Steps p.tables e below (T211.setTop (mkF m 200 #[.val (.int p0), .val (.int p1), .val (.ref b102), .val (.int (7 : Int32)), .val (.ref w_PARTICIPANT_PROVIDED_INFO), .val (.int (1 : Int32)), .unset] [(.int (1 : Int32))])) _
        refine XS.istore X211.here hx rfl (hb hby at_200) rfl (l' := #[.val (.int p0), .val (.int p1), .val (.ref b102), .val (.int (7 : Int32)), .val (.ref w_PARTICIPANT_PROVIDED_INFO), .val (.int (1 : Int32)), .val (.int (1 : Int32))]) rfl ?_
        show Steps p.tables e below (T211.setTop (mkF m 202 #[.val (.int p0), .val (.int p1), .val (.ref b102), .val (.int (7 : Int32)), .val (.ref w_PARTICIPANT_PROVIDED_INFO), .val (.int (1 : Int32)), .val (.int (1 : Int32))] [])) _
        refine XS.goto X211.here hx rfl (pc0 := 202) (pc' := 217) rfl (hb hby at_202) (by decide) (by decide) ?_
        show Steps p.tables e below (T211.setTop (mkF m 217 #[.val (.int p0), .val (.int p1), .val (.ref b102), .val (.int (7 : Int32)), .val (.ref w_PARTICIPANT_PROVIDED_INFO), .val (.int (1 : Int32)), .val (.int (1 : Int32))] [])) _
        refine XS.iload X211.here hx rfl (hb hby at_217) rfl ?_
        show Steps p.tables e below (T211.setTop (mkF m 219 #[.val (.int p0), .val (.int p1), .val (.ref b102), .val (.int (7 : Int32)), .val (.ref w_PARTICIPANT_PROVIDED_INFO), .val (.int (1 : Int32)), .val (.int (1 : Int32))] [(.int (1 : Int32))])) _
        refine XS.iload X211.here hx rfl (hb hby at_219) rfl ?_
        show Steps p.tables e below (T211.setTop (mkF m 221 #[.val (.int p0), .val (.int p1), .val (.ref b102), .val (.int (7 : Int32)), .val (.ref w_PARTICIPANT_PROVIDED_INFO), .val (.int (1 : Int32)), .val (.int (1 : Int32))] [(.int (1 : Int32)), (.int (1 : Int32))])) _
        refine XS.icmpNo X211.here hx rfl (hb hby at_221) rfl (teq (by decide : (1 : Int32) = (1 : Int32))).2 ?_
        show Steps p.tables e below (T211.setTop (mkF m 224 #[.val (.int p0), .val (.int p1), .val (.ref b102), .val (.int (7 : Int32)), .val (.ref w_PARTICIPANT_PROVIDED_INFO), .val (.int (1 : Int32)), .val (.int (1 : Int32))] [])) _
        refine XS.iconst X211.here hx rfl (hb hby at_224) ?_
        show Steps p.tables e below (T211.setTop (mkF m 225 #[.val (.int p0), .val (.int p1), .val (.ref b102), .val (.int (7 : Int32)), .val (.ref w_PARTICIPANT_PROVIDED_INFO), .val (.int (1 : Int32)), .val (.int (1 : Int32))] [(.int (1 : Int32))])) _
        refine XS.goto X211.here hx rfl (pc0 := 225) (pc' := 229) rfl (hb hby at_225) (by decide) (by decide) ?_
        show Steps p.tables e below (T211.setTop (mkF m 229 #[.val (.int p0), .val (.int p1), .val (.ref b102), .val (.int (7 : Int32)), .val (.ref w_PARTICIPANT_PROVIDED_INFO), .val (.int (1 : Int32)), .val (.int (1 : Int32))] [(.int (1 : Int32))])) _
        exact retN X211 hx (t := .boolean) Bd.returns (by simp) (hb hby at_229) hr
      · show own_Made (some (.int 1)) n0 _ T211.heap _
        rw [e211]
        exact ⟨rfl, N211, trivial⟩
  · -- (8 : Int32)
    obtain ⟨cl214, Ar214, q214, S214, N214_, H214_, G214⟩ := V156
    have hin214 : ¬ ((8 : Int32) < 0 ∨ cl214.slots.size ≤ ((8 : Int32)).toNatClampNeg) := inb_of S214 ⟨by decide, by decide⟩
    have hat214 : cl214.slots[((8 : Int32)).toNatClampNeg]? = some (.ref w_STATUS_INFO) := Has.at H214_ hin214 rfl
    obtain ⟨cq215, kq215, q215a, q215b, q215c⟩ := isOf hZ e156 ((E_STATUS_INFO.ext EX156))
    obtain ⟨_, _, ⟨T215, L215, k215, n215⟩, -, X215, ⟨Lc215, hQ215, l215, y215, z215⟩, st215⟩ := X156.virtualBack hx (y := (⟨"com/example/parley/parley/message/AttributeType", "accepts", "(I)Z"⟩ : MethodName)) (z := (⟨"com/example/parley/parley/message/AttributeType", "accepts", "(I)Z"⟩ : MethodName)) hown (mvT hZ (hw _ (List.mem_of_getElem? (i := 41) rfl))) (mvT hZ (hw _ (List.mem_of_getElem? (i := 42) rfl))) (notFace_of_selects (args := #[]) (mvT hZ (hw _ (List.mem_of_getElem? (i := 44) rfl)))) (mvT hZ (hw _ (List.mem_of_getElem? (i := 44) rfl))) (mvT hZ (hw _ (List.mem_of_getElem? (i := 43) rfl))) (by decide) (backOf (W := 0) (rm_acc_OCTETS l Z a0 hw [] w_STATUS_INFO p1 h156 n0 (Nat.le_trans Z0 EX156.1) w_OCTETS (F_STATUS_INFO_shape.ext EX156) (E_OCTETS.ext EX156) (F_OCTETS_ordinal.ext EX156)) hZ (hw _ (List.mem_of_getElem? (i := 45) rfl)) (hw _ (List.mem_of_getElem? (i := 3) rfl)) (by decide) (by decide)) q215a q215c (g := (mkF m 142 #[.val (.int p0), .val (.int p1), .val (.ref b102), .val (.int (8 : Int32)), .val (.ref w_STATUS_INFO), .unset, .unset] [(.int p1), (.ref w_STATUS_INFO)])) rfl (by rw [hml]; rfl) (Steps.refl _) (argsL := [(.int p1)]) (rest := []) (lenOf pd_33 rfl) rfl (by show 2 * 0 + _ ≤ _; exact Nat.le_of_eq rfl) (hb hby at_142) (fun _ _ => ⟨rfl, e156, (by decide : 1 + 0 ≤ _), (by decide : 18 + 0 ≤ _)⟩)
    dsimp only [Pt.U, Pt.locs, Pt.cells, Pt.slots] at X215 l215 y215 z215 st215 hQ215
    subst l215 y215 z215
    obtain ⟨rfl, N215q, e215⟩ := hQ215
    have N215 := Fr.app N156 N215q
    have ck217 : ∀ t, Steps p.tables e below (T215.setTop (mkF m 194 #[.val (.int p0), .val (.int p1), .val (.ref b102), .val (.int (8 : Int32)), .val (.ref w_STATUS_INFO), .val (.int (1 : Int32)), .unset] [(.int p1)])) t → Steps p.tables e below (s₁.setTop (entryFrame m #[(.int p0), (.int p1)] maxLocals)) t := by
      intro t kt
      refine ck157 _ ?_
      show Steps p.tables e below (T156.setTop (mkF m 133 #[.val (.int p0), .val (.int p1), .val (.ref b102), .unset, .unset, .unset, .unset] [(.int ((p0 &&& (2147483647 : Int32)) % (18 : Int32)))])) _
      rw [hv166]
      show Steps p.tables e below (T156.setTop (mkF m 133 #[.val (.int p0), .val (.int p1), .val (.ref b102), .unset, .unset, .unset, .unset] [(.int (8 : Int32))])) _
      refine XS.istoreN X156.here hx rfl (hb hby at_133) rfl (l' := #[.val (.int p0), .val (.int p1), .val (.ref b102), .val (.int (8 : Int32)), .unset, .unset, .unset]) rfl ?_
      show Steps p.tables e below (T156.setTop (mkF m 134 #[.val (.int p0), .val (.int p1), .val (.ref b102), .val (.int (8 : Int32)), .unset, .unset, .unset] [])) _
      refine XS.aloadN X156.here hx rfl (hb hby at_134) rfl rfl ?_
      show Steps p.tables e below (T156.setTop (mkF m 135 #[.val (.int p0), .val (.int p1), .val (.ref b102), .val (.int (8 : Int32)), .unset, .unset, .unset] [(.ref b102)])) _
      refine XS.iloadN X156.here hx rfl (hb hby at_135) rfl ?_
      show Steps p.tables e below (T156.setTop (mkF m 136 #[.val (.int p0), .val (.int p1), .val (.ref b102), .val (.int (8 : Int32)), .unset, .unset, .unset] [(.int (8 : Int32)), (.ref b102)])) _
      refine X156.aaload hx (j := (8 : Int32)) (v := (.ref w_STATUS_INFO)) (by rw [e156]; exact Ar214.1) (State.isArrayOf_alike hZ.alike Ar214.2.1) rfl Ar214.2.2 hin214 hat214 (g := (mkF m 136 #[.val (.int p0), .val (.int p1), .val (.ref b102), .val (.int (8 : Int32)), .unset, .unset, .unset] [(.int (8 : Int32)), (.ref b102)])) rfl rfl (hb hby at_136) _ ?_
      show Steps p.tables e below (T156.setTop (mkF m 137 #[.val (.int p0), .val (.int p1), .val (.ref b102), .val (.int (8 : Int32)), .unset, .unset, .unset] [(.ref w_STATUS_INFO)])) _
      refine XS.astore X156.here hx rfl (hb hby at_137) rfl rfl (l' := #[.val (.int p0), .val (.int p1), .val (.ref b102), .val (.int (8 : Int32)), .val (.ref w_STATUS_INFO), .unset, .unset]) rfl ?_
      show Steps p.tables e below (T156.setTop (mkF m 139 #[.val (.int p0), .val (.int p1), .val (.ref b102), .val (.int (8 : Int32)), .val (.ref w_STATUS_INFO), .unset, .unset] [])) _
      refine XS.aload X156.here hx rfl (hb hby at_139) rfl rfl ?_
      show Steps p.tables e below (T156.setTop (mkF m 141 #[.val (.int p0), .val (.int p1), .val (.ref b102), .val (.int (8 : Int32)), .val (.ref w_STATUS_INFO), .unset, .unset] [(.ref w_STATUS_INFO)])) _
      refine XS.iloadN X156.here hx rfl (hb hby at_141) rfl ?_
      show Steps p.tables e below (T156.setTop (mkF m 142 #[.val (.int p0), .val (.int p1), .val (.ref b102), .val (.int (8 : Int32)), .val (.ref w_STATUS_INFO), .unset, .unset] [(.int p1), (.ref w_STATUS_INFO)])) _
      refine st215.trans ?_
      show Steps p.tables e below (T215.setTop (mkF m 145 #[.val (.int p0), .val (.int p1), .val (.ref b102), .val (.int (8 : Int32)), .val (.ref w_STATUS_INFO), .unset, .unset] [(.int (1 : Int32))])) _
      refine XS.istore X215.here hx rfl (hb hby at_145) rfl (l' := #[.val (.int p0), .val (.int p1), .val (.ref b102), .val (.int (8 : Int32)), .val (.ref w_STATUS_INFO), .val (.int (1 : Int32)), .unset]) rfl ?_
      show Steps p.tables e below (T215.setTop (mkF m 147 #[.val (.int p0), .val (.int p1), .val (.ref b102), .val (.int (8 : Int32)), .val (.ref w_STATUS_INFO), .val (.int (1 : Int32)), .unset] [])) _
      refine XS.iloadN X215.here hx rfl (hb hby at_147) rfl ?_
      show Steps p.tables e below (T215.setTop (mkF m 148 #[.val (.int p0), .val (.int p1), .val (.ref b102), .val (.int (8 : Int32)), .val (.ref w_STATUS_INFO), .val (.int (1 : Int32)), .unset] [(.int (8 : Int32))])) _
      refine XS.iconst X215.here hx rfl (hb hby at_148) ?_
      show Steps p.tables e below (T215.setTop (mkF m 149 #[.val (.int p0), .val (.int p1), .val (.ref b102), .val (.int (8 : Int32)), .val (.ref w_STATUS_INFO), .val (.int (1 : Int32)), .unset] [(.int (5 : Int32)), (.int (8 : Int32))])) _
      refine XS.icmpYes X215.here hx rfl (pc0 := 149) (pc' := 167) rfl (hb hby at_149) rfl (flt (by decide : ¬ ((8 : Int32) < (5 : Int32)))).2.1 (by decide) (by decide) ?_
      show Steps p.tables e below (T215.setTop (mkF m 167 #[.val (.int p0), .val (.int p1), .val (.ref b102), .val (.int (8 : Int32)), .val (.ref w_STATUS_INFO), .val (.int (1 : Int32)), .unset] [])) _
      refine XS.iloadN X215.here hx rfl (hb hby at_167) rfl ?_
      show Steps p.tables e below (T215.setTop (mkF m 168 #[.val (.int p0), .val (.int p1), .val (.ref b102), .val (.int (8 : Int32)), .val (.ref w_STATUS_INFO), .val (.int (1 : Int32)), .unset] [(.int (8 : Int32))])) _
      refine XS.iconst X215.here hx rfl (hb hby at_168) ?_
      show Steps p.tables e below (T215.setTop (mkF m 169 #[.val (.int p0), .val (.int p1), .val (.ref b102), .val (.int (8 : Int32)), .val (.ref w_STATUS_INFO), .val (.int (1 : Int32)), .unset] [(.int (5 : Int32)), (.int (8 : Int32))])) _
      refine XS.icmpYes X215.here hx rfl (pc0 := 169) (pc' := 187) rfl (hb hby at_169) rfl (feq (by decide : ¬ ((8 : Int32) = (5 : Int32)))).2 (by decide) (by decide) ?_
      show Steps p.tables e below (T215.setTop (mkF m 187 #[.val (.int p0), .val (.int p1), .val (.ref b102), .val (.int (8 : Int32)), .val (.ref w_STATUS_INFO), .val (.int (1 : Int32)), .unset] [])) _
      refine XS.iloadN X215.here hx rfl (hb hby at_187) rfl ?_
      show Steps p.tables e below (T215.setTop (mkF m 188 #[.val (.int p0), .val (.int p1), .val (.ref b102), .val (.int (8 : Int32)), .val (.ref w_STATUS_INFO), .val (.int (1 : Int32)), .unset] [(.int (8 : Int32))])) _
      refine XS.bipush X215.here hx rfl (hb hby at_188) ?_
      show Steps p.tables e below (T215.setTop (mkF m 190 #[.val (.int p0), .val (.int p1), .val (.ref b102), .val (.int (8 : Int32)), .val (.ref w_STATUS_INFO), .val (.int (1 : Int32)), .unset] [(.int (13 : Int32)), (.int (8 : Int32))])) _
      refine XS.icmpNo X215.here hx rfl (hb hby at_190) rfl (tlt (by decide : (8 : Int32) < (13 : Int32))).2.1 ?_
      show Steps p.tables e below (T215.setTop (mkF m 193 #[.val (.int p0), .val (.int p1), .val (.ref b102), .val (.int (8 : Int32)), .val (.ref w_STATUS_INFO), .val (.int (1 : Int32)), .unset] [])) _
      refine XS.iloadN X215.here hx rfl (hb hby at_193) rfl ?_
      exact kt
    (try clear N215q); (try clear st215); (try clear Lc215); (try clear n215); (try clear k215); (try clear L215); (try clear q215c); (try clear q215b); (try clear q215a); (try clear kq215); (try clear cq215); (try clear hat214); (try clear hin214); (try clear G214); (try clear H214_); (try clear N214_); (try clear S214); (try clear q214); (try clear Ar214); (try clear cl214)
    by_cases hc194_216 : p1 < (0 : Int32)
    · -- pc 194: p1 < (0 : Int32)
      obtain ⟨fs, hr, hrun, hended, hW, hsame⟩ := X215.leave (v := some (.int (1 : Int32))) (fun h => by rw [Bd.returns] at h; cases h)
      refine ⟨_, _, ck217 _ ?_, hrun, hended, _, _, rfl, ?_, ⟨_, rfl⟩, hW, hsame.mono (by decide) (by decide)⟩
      · show Steps p.tables e below (T215.setTop (mkF m 194 #[.val (.int p0), .val (.int p1), .val (.ref b102), .val (.int (8 : Int32)), .val (.ref w_STATUS_INFO), .val (.int (1 : Int32)), .unset] [(.int p1)])) _
        refine XS.ifNo X215.here hx rfl (hb hby at_194) rfl ((if0 _ _).trans (tlt hc194_216).2.1) ?_
        show Steps p.tables e below (T215.setTop (mkF m 197 #[.val (.int p0), .val (.int p1), .val (.ref b102), .val (.int (8 : Int32)), .val (.ref w_STATUS_INFO), .val (.int (1 : Int32)), .unset] [])) _
        refine XS.iconst X215.here hx rfl (hb hby at_197) ?_
        show Steps p.tables e below (T215.setTop (mkF m 198 #[.val (.int p0), .val (.int p1), .val (.ref b102), .val (.int (8 : Int32)), .val (.ref w_STATUS_INFO), .val (.int (1 : Int32)), .unset] [(.int (1 : Int32))])) _
        exact retN X215 hx (t := .boolean) Bd.returns (by simp) (hb hby at_198) hr
      · show own_Made (some (.int 1)) n0 _ T215.heap _
        rw [e215]
        exact ⟨rfl, N215, trivial⟩
    · -- pc 194: not p1 < (0 : Int32)
      obtain ⟨fs, hr, hrun, hended, hW, hsame⟩ := X215.leave (v := some (.int (1 : Int32))) (fun h => by rw [Bd.returns] at h; cases h)
      refine ⟨_, _, ck217 _ ?_, hrun, hended, _, _, rfl, ?_, ⟨_, rfl⟩, hW, hsame.mono (by decide) (by decide)⟩
      · show Steps p.tables e below (T215.setTop (mkF m 194 #[.val (.int p0), .val (.int p1), .val (.ref b102), .val (.int (8 : Int32)), .val (.ref w_STATUS_INFO), .val (.int (1 : Int32)), .unset] [(.int p1)])) _
        refine XS.ifYes X215.here hx rfl (pc0 := 194) (pc' := 199) rfl (hb hby at_194) rfl ((if0 _ _).trans (flt hc194_216).2.1) (by decide) (by decide) ?_
        show Steps p.tables e below (T215.setTop (mkF m 199 #[.val (.int p0), .val (.int p1), .val (.ref b102), .val (.int (8 : Int32)), .val (.ref w_STATUS_INFO), .val (.int (1 : Int32)), .unset] [])) _
        refine XS.iconst X215.here hx rfl (hb hby at_199) ?_
        show Steps p.tables e below (T215.setTop (mkF m 200 #[.val (.int p0), .val (.int p1), .val (.ref b102), .val (.int (8 : Int32)), .val (.ref w_STATUS_INFO), .val (.int (1 : Int32)), .unset] [(.int (1 : Int32))])) _
        refine XS.istore X215.here hx rfl (hb hby at_200) rfl (l' := #[.val (.int p0), .val (.int p1), .val (.ref b102), .val (.int (8 : Int32)), .val (.ref w_STATUS_INFO), .val (.int (1 : Int32)), .val (.int (1 : Int32))]) rfl ?_
        show Steps p.tables e below (T215.setTop (mkF m 202 #[.val (.int p0), .val (.int p1), .val (.ref b102), .val (.int (8 : Int32)), .val (.ref w_STATUS_INFO), .val (.int (1 : Int32)), .val (.int (1 : Int32))] [])) _
        refine XS.goto X215.here hx rfl (pc0 := 202) (pc' := 217) rfl (hb hby at_202) (by decide) (by decide) ?_
        show Steps p.tables e below (T215.setTop (mkF m 217 #[.val (.int p0), .val (.int p1), .val (.ref b102), .val (.int (8 : Int32)), .val (.ref w_STATUS_INFO), .val (.int (1 : Int32)), .val (.int (1 : Int32))] [])) _
        refine XS.iload X215.here hx rfl (hb hby at_217) rfl ?_
        show Steps p.tables e below (T215.setTop (mkF m 219 #[.val (.int p0), .val (.int p1), .val (.ref b102), .val (.int (8 : Int32)), .val (.ref w_STATUS_INFO), .val (.int (1 : Int32)), .val (.int (1 : Int32))] [(.int (1 : Int32))])) _
        refine XS.iload X215.here hx rfl (hb hby at_219) rfl ?_
        show Steps p.tables e below (T215.setTop (mkF m 221 #[.val (.int p0), .val (.int p1), .val (.ref b102), .val (.int (8 : Int32)), .val (.ref w_STATUS_INFO), .val (.int (1 : Int32)), .val (.int (1 : Int32))] [(.int (1 : Int32)), (.int (1 : Int32))])) _
        refine XS.icmpNo X215.here hx rfl (hb hby at_221) rfl (teq (by decide : (1 : Int32) = (1 : Int32))).2 ?_
        show Steps p.tables e below (T215.setTop (mkF m 224 #[.val (.int p0), .val (.int p1), .val (.ref b102), .val (.int (8 : Int32)), .val (.ref w_STATUS_INFO), .val (.int (1 : Int32)), .val (.int (1 : Int32))] [])) _
        refine XS.iconst X215.here hx rfl (hb hby at_224) ?_
        show Steps p.tables e below (T215.setTop (mkF m 225 #[.val (.int p0), .val (.int p1), .val (.ref b102), .val (.int (8 : Int32)), .val (.ref w_STATUS_INFO), .val (.int (1 : Int32)), .val (.int (1 : Int32))] [(.int (1 : Int32))])) _
        refine XS.goto X215.here hx rfl (pc0 := 225) (pc' := 229) rfl (hb hby at_225) (by decide) (by decide) ?_
        show Steps p.tables e below (T215.setTop (mkF m 229 #[.val (.int p0), .val (.int p1), .val (.ref b102), .val (.int (8 : Int32)), .val (.ref w_STATUS_INFO), .val (.int (1 : Int32)), .val (.int (1 : Int32))] [(.int (1 : Int32))])) _
        exact retN X215 hx (t := .boolean) Bd.returns (by simp) (hb hby at_229) hr
      · show own_Made (some (.int 1)) n0 _ T215.heap _
        rw [e215]
        exact ⟨rfl, N215, trivial⟩
  · -- (9 : Int32)
    obtain ⟨cl218, Ar218, q218, S218, N218_, H218_, G218⟩ := V156
    have hin218 : ¬ ((9 : Int32) < 0 ∨ cl218.slots.size ≤ ((9 : Int32)).toNatClampNeg) := inb_of S218 ⟨by decide, by decide⟩
    have hat218 : cl218.slots[((9 : Int32)).toNatClampNeg]? = some (.ref w_SUPPORTED_ATTRIBUTES) := Has.at H218_ hin218 rfl
    obtain ⟨cq219, kq219, q219a, q219b, q219c⟩ := isOf hZ e156 ((E_SUPPORTED_ATTRIBUTES.ext EX156))
    obtain ⟨_, _, ⟨T219, L219, k219, n219⟩, -, X219, ⟨Lc219, hQ219, l219, y219, z219⟩, st219⟩ := X156.virtualBack hx (y := (⟨"com/example/parley/parley/message/AttributeType", "accepts", "(I)Z"⟩ : MethodName)) (z := (⟨"com/example/parley/parley/message/AttributeType", "accepts", "(I)Z"⟩ : MethodName)) hown (mvT hZ (hw _ (List.mem_of_getElem? (i := 41) rfl))) (mvT hZ (hw _ (List.mem_of_getElem? (i := 42) rfl))) (notFace_of_selects (args := #[]) (mvT hZ (hw _ (List.mem_of_getElem? (i := 44) rfl)))) (mvT hZ (hw _ (List.mem_of_getElem? (i := 44) rfl))) (mvT hZ (hw _ (List.mem_of_getElem? (i := 43) rfl))) (by decide) (backOf (W := 0) (rm_acc_OCTETS l Z a0 hw [] w_SUPPORTED_ATTRIBUTES p1 h156 n0 (Nat.le_trans Z0 EX156.1) w_OCTETS (F_SUPPORTED_ATTRIBUTES_shape.ext EX156) (E_OCTETS.ext EX156) (F_OCTETS_ordinal.ext EX156)) hZ (hw _ (List.mem_of_getElem? (i := 45) rfl)) (hw _ (List.mem_of_getElem? (i := 3) rfl)) (by decide) (by decide)) q219a q219c (g := (mkF m 142 #[.val (.int p0), .val (.int p1), .val (.ref b102), .val (.int (9 : Int32)), .val (.ref w_SUPPORTED_ATTRIBUTES), .unset, .unset] [(.int p1), (.ref w_SUPPORTED_ATTRIBUTES)])) rfl (by rw [hml]; rfl) (Steps.refl _) (argsL := [(.int p1)]) (rest := []) (lenOf pd_33 rfl) rfl (by show 2 * 0 + _ ≤ _; exact Nat.le_of_eq rfl) (hb hby at_142) (fun _ _ => ⟨rfl, e156, (by decide : 1 + 0 ≤ _), (by decide : 18 + 0 ≤ _)⟩)
    dsimp only [Pt.U, Pt.locs, Pt.cells, Pt.slots] at X219 l219 y219 z219 st219 hQ219
    subst l219 y219 z219
    obtain ⟨rfl, N219q, e219⟩ := hQ219
    have N219 := Fr.app N156 N219q
    have ck221 : ∀ t, Steps p.tables e below (T219.setTop (mkF m 194 #[.val (.int p0), .val (.int p1), .val (.ref b102), .val (.int (9 : Int32)), .val (.ref w_SUPPORTED_ATTRIBUTES), .val (.int (1 : Int32)), .unset] [(.int p1)])) t → Steps p.tables e below (s₁.setTop (entryFrame m #[(.int p0), (.int p1)] maxLocals)) t := by
      intro t kt
      refine ck157 _ ?_
      show Steps p.tables e below (T156.setTop (mkF m 133 #[.val (.int p0), .val (.int p1), .val (.ref b102), .unset, .unset, .unset, .unset] [(.int ((p0 &&& (2147483647 : Int32)) % (18 : Int32)))])) _
      rw [hv167]
      show Steps p.tables e below (T156.setTop (mkF m 133 #[.val (.int p0), .val (.int p1), .val (.ref b102), .unset, .unset, .unset, .unset] [(.int (9 : Int32))])) _
      refine XS.istoreN X156.here hx rfl (hb hby at_133) rfl (l' := #[.val (.int p0), .val (.int p1), .val (.ref b102), .val (.int (9 : Int32)), .unset, .unset, .unset]) rfl ?_
      show Steps p.tables e below (T156.setTop (mkF m 134 #[.val (.int p0), .val (.int p1), .val (.ref b102), .val (.int (9 : Int32)), .unset, .unset, .unset] [])) _
      refine XS.aloadN X156.here hx rfl (hb hby at_134) rfl rfl ?_
      show Steps p.tables e below (T156.setTop (mkF m 135 #[.val (.int p0), .val (.int p1), .val (.ref b102), .val (.int (9 : Int32)), .unset, .unset, .unset] [(.ref b102)])) _
      refine XS.iloadN X156.here hx rfl (hb hby at_135) rfl ?_
      show Steps p.tables e below (T156.setTop (mkF m 136 #[.val (.int p0), .val (.int p1), .val (.ref b102), .val (.int (9 : Int32)), .unset, .unset, .unset] [(.int (9 : Int32)), (.ref b102)])) _
      refine X156.aaload hx (j := (9 : Int32)) (v := (.ref w_SUPPORTED_ATTRIBUTES)) (by rw [e156]; exact Ar218.1) (State.isArrayOf_alike hZ.alike Ar218.2.1) rfl Ar218.2.2 hin218 hat218 (g := (mkF m 136 #[.val (.int p0), .val (.int p1), .val (.ref b102), .val (.int (9 : Int32)), .unset, .unset, .unset] [(.int (9 : Int32)), (.ref b102)])) rfl rfl (hb hby at_136) _ ?_
      show Steps p.tables e below (T156.setTop (mkF m 137 #[.val (.int p0), .val (.int p1), .val (.ref b102), .val (.int (9 : Int32)), .unset, .unset, .unset] [(.ref w_SUPPORTED_ATTRIBUTES)])) _
      refine XS.astore X156.here hx rfl (hb hby at_137) rfl rfl (l' := #[.val (.int p0), .val (.int p1), .val (.ref b102), .val (.int (9 : Int32)), .val (.ref w_SUPPORTED_ATTRIBUTES), .unset, .unset]) rfl ?_
      show Steps p.tables e below (T156.setTop (mkF m 139 #[.val (.int p0), .val (.int p1), .val (.ref b102), .val (.int (9 : Int32)), .val (.ref w_SUPPORTED_ATTRIBUTES), .unset, .unset] [])) _
      refine XS.aload X156.here hx rfl (hb hby at_139) rfl rfl ?_
      show Steps p.tables e below (T156.setTop (mkF m 141 #[.val (.int p0), .val (.int p1), .val (.ref b102), .val (.int (9 : Int32)), .val (.ref w_SUPPORTED_ATTRIBUTES), .unset, .unset] [(.ref w_SUPPORTED_ATTRIBUTES)])) _
      refine XS.iloadN X156.here hx rfl (hb hby at_141) rfl ?_
      show Steps p.tables e below (T156.setTop (mkF m 142 #[.val (.int p0), .val (.int p1), .val (.ref b102), .val (.int (9 : Int32)), .val (.ref w_SUPPORTED_ATTRIBUTES), .unset, .unset] [(.int p1), (.ref w_SUPPORTED_ATTRIBUTES)])) _
      refine st219.trans ?_
      show Steps p.tables e below (T219.setTop (mkF m 145 #[.val (.int p0), .val (.int p1), .val (.ref b102), .val (.int (9 : Int32)), .val (.ref w_SUPPORTED_ATTRIBUTES), .unset, .unset] [(.int (1 : Int32))])) _
      refine XS.istore X219.here hx rfl (hb hby at_145) rfl (l' := #[.val (.int p0), .val (.int p1), .val (.ref b102), .val (.int (9 : Int32)), .val (.ref w_SUPPORTED_ATTRIBUTES), .val (.int (1 : Int32)), .unset]) rfl ?_
      show Steps p.tables e below (T219.setTop (mkF m 147 #[.val (.int p0), .val (.int p1), .val (.ref b102), .val (.int (9 : Int32)), .val (.ref w_SUPPORTED_ATTRIBUTES), .val (.int (1 : Int32)), .unset] [])) _
      refine XS.iloadN X219.here hx rfl (hb hby at_147) rfl ?_
      show Steps p.tables e below (T219.setTop (mkF m 148 #[.val (.int p0), .val (.int p1), .val (.ref b102), .val (.int (9 : Int32)), .val (.ref w_SUPPORTED_ATTRIBUTES), .val (.int (1 : Int32)), .unset] [(.int (9 : Int32))])) _
      refine XS.iconst X219.here hx rfl (hb hby at_148) ?_
      show Steps p.tables e below (T219.setTop (mkF m 149 #[.val (.int p0), .val (.int p1), .val (.ref b102), .val (.int (9 : Int32)), .val (.ref w_SUPPORTED_ATTRIBUTES), .val (.int (1 : Int32)), .unset] [(.int (5 : Int32)), (.int (9 : Int32))])) _
      refine XS.icmpYes X219.here hx rfl (pc0 := 149) (pc' := 167) rfl (hb hby at_149) rfl (flt (by decide : ¬ ((9 : Int32) < (5 : Int32)))).2.1 (by decide) (by decide) ?_
      show Steps p.tables e below (T219.setTop (mkF m 167 #[.val (.int p0), .val (.int p1), .val (.ref b102), .val (.int (9 : Int32)), .val (.ref w_SUPPORTED_ATTRIBUTES), .val (.int (1 : Int32)), .unset] [])) _
      refine XS.iloadN X219.here hx rfl (hb hby at_167) rfl ?_
      show Steps p.tables e below (T219.setTop (mkF m 168 #[.val (.int p0), .val (.int p1), .val (.ref b102), .val (.int (9 : Int32)), .val (.ref w_SUPPORTED_ATTRIBUTES), .val (.int (1 : Int32)), .unset] [(.int (9 : Int32))])) _
      refine XS.iconst X219.here hx rfl (hb hby at_168) ?_
      show Steps p.tables e below (T219.setTop (mkF m 169 #[.val (.int p0), .val (.int p1), .val (.ref b102), .val (.int (9 : Int32)), .val (.ref w_SUPPORTED_ATTRIBUTES), .val (.int (1 : Int32)), .unset] [(.int (5 : Int32)), (.int (9 : Int32))])) _
      refine XS.icmpYes X219.here hx rfl (pc0 := 169) (pc' := 187) rfl (hb hby at_169) rfl (feq (by decide : ¬ ((9 : Int32) = (5 : Int32)))).2 (by decide) (by decide) ?_
      show Steps p.tables e below (T219.setTop (mkF m 187 #[.val (.int p0), .val (.int p1), .val (.ref b102), .val (.int (9 : Int32)), .val (.ref w_SUPPORTED_ATTRIBUTES), .val (.int (1 : Int32)), .unset] [])) _
      refine XS.iloadN X219.here hx rfl (hb hby at_187) rfl ?_
      show Steps p.tables e below (T219.setTop (mkF m 188 #[.val (.int p0), .val (.int p1), .val (.ref b102), .val (.int (9 : Int32)), .val (.ref w_SUPPORTED_ATTRIBUTES), .val (.int (1 : Int32)), .unset] [(.int (9 : Int32))])) _
      refine XS.bipush X219.here hx rfl (hb hby at_188) ?_
      show Steps p.tables e below (T219.setTop (mkF m 190 #[.val (.int p0), .val (.int p1), .val (.ref b102), .val (.int (9 : Int32)), .val (.ref w_SUPPORTED_ATTRIBUTES), .val (.int (1 : Int32)), .unset] [(.int (13 : Int32)), (.int (9 : Int32))])) _
      refine XS.icmpNo X219.here hx rfl (hb hby at_190) rfl (tlt (by decide : (9 : Int32) < (13 : Int32))).2.1 ?_
      show Steps p.tables e below (T219.setTop (mkF m 193 #[.val (.int p0), .val (.int p1), .val (.ref b102), .val (.int (9 : Int32)), .val (.ref w_SUPPORTED_ATTRIBUTES), .val (.int (1 : Int32)), .unset] [])) _
      refine XS.iloadN X219.here hx rfl (hb hby at_193) rfl ?_
      exact kt
    (try clear N219q); (try clear st219); (try clear Lc219); (try clear n219); (try clear k219); (try clear L219); (try clear q219c); (try clear q219b); (try clear q219a); (try clear kq219); (try clear cq219); (try clear hat218); (try clear hin218); (try clear G218); (try clear H218_); (try clear N218_); (try clear S218); (try clear q218); (try clear Ar218); (try clear cl218)
    by_cases hc194_220 : p1 < (0 : Int32)
    · -- pc 194: p1 < (0 : Int32)
      obtain ⟨fs, hr, hrun, hended, hW, hsame⟩ := X219.leave (v := some (.int (1 : Int32))) (fun h => by rw [Bd.returns] at h; cases h)
      refine ⟨_, _, ck221 _ ?_, hrun, hended, _, _, rfl, ?_, ⟨_, rfl⟩, hW, hsame.mono (by decide) (by decide)⟩
      · show Steps p.tables e below (T219.setTop (mkF m 194 #[.val (.int p0), .val (.int p1), .val (.ref b102), .val (.int (9 : Int32)), .val (.ref w_SUPPORTED_ATTRIBUTES), .val (.int (1 : Int32)), .unset] [(.int p1)])) _
        refine XS.ifNo X219.here hx rfl (hb hby at_194) rfl ((if0 _ _).trans (tlt hc194_220).2.1) ?_
        show Steps p.tables e below (T219.setTop (mkF m 197 #[.val (.int p0), .val (.int p1), .val (.ref b102), .val (.int (9 : Int32)), .val (.ref w_SUPPORTED_ATTRIBUTES), .val (.int (1 : Int32)), .unset] [])) _
        refine XS.iconst X219.here hx rfl (hb hby at_197) ?_
        show Steps p.tables e below (T219.setTop (mkF m 198 #[.val (.int p0), .val (.int p1), .val (.ref b102), .val (.int (9 : Int32)), .val (.ref w_SUPPORTED_ATTRIBUTES), .val (.int (1 : Int32)), .unset] [(.int (1 : Int32))])) _
        exact retN X219 hx (t := .boolean) Bd.returns (by simp) (hb hby at_198) hr
      · show own_Made (some (.int 1)) n0 _ T219.heap _
        rw [e219]
        exact ⟨rfl, N219, trivial⟩
    · -- pc 194: not p1 < (0 : Int32)
      obtain ⟨fs, hr, hrun, hended, hW, hsame⟩ := X219.leave (v := some (.int (1 : Int32))) (fun h => by rw [Bd.returns] at h; cases h)
      refine ⟨_, _, ck221 _ ?_, hrun, hended, _, _, rfl, ?_, ⟨_, rfl⟩, hW, hsame.mono (by decide) (by decide)⟩
      · show Steps p.tables e below (T219.setTop (mkF m 194 #[.val (.int p0), .val (.int p1), .val (.ref b102), .val (.int (9 : Int32)), .val (.ref w_SUPPORTED_ATTRIBUTES), .val (.int (1 : Int32)), .unset] [(.int p1)])) _
        refine XS.ifYes X219.here hx rfl (pc0 := 194) (pc' := 199) rfl (hb hby at_194) rfl ((if0 _ _).trans (flt hc194_220).2.1) (by decide) (by decide) ?_
        show Steps p.tables e below (T219.setTop (mkF m 199 #[.val (.int p0), .val (.int p1), .val (.ref b102), .val (.int (9 : Int32)), .val (.ref w_SUPPORTED_ATTRIBUTES), .val (.int (1 : Int32)), .unset] [])) _
        refine XS.iconst X219.here hx rfl (hb hby at_199) ?_
        show Steps p.tables e below (T219.setTop (mkF m 200 #[.val (.int p0), .val (.int p1), .val (.ref b102), .val (.int (9 : Int32)), .val (.ref w_SUPPORTED_ATTRIBUTES), .val (.int (1 : Int32)), .unset] [(.int (1 : Int32))])) _
        refine XS.istore X219.here hx rfl (hb hby at_200) rfl (l' := #[.val (.int p0), .val (.int p1), .val (.ref b102), .val (.int (9 : Int32)), .val (.ref w_SUPPORTED_ATTRIBUTES), .val (.int (1 : Int32)), .val (.int (1 : Int32))]) rfl ?_
        show Steps p.tables e below (T219.setTop (mkF m 202 #[.val (.int p0), .val (.int p1), .val (.ref b102), .val (.int (9 : Int32)), .val (.ref w_SUPPORTED_ATTRIBUTES), .val (.int (1 : Int32)), .val (.int (1 : Int32))] [])) _
        refine XS.goto X219.here hx rfl (pc0 := 202) (pc' := 217) rfl (hb hby at_202) (by decide) (by decide) ?_
        show Steps p.tables e below (T219.setTop (mkF m 217 #[.val (.int p0), .val (.int p1), .val (.ref b102), .val (.int (9 : Int32)), .val (.ref w_SUPPORTED_ATTRIBUTES), .val (.int (1 : Int32)), .val (.int (1 : Int32))] [])) _
        refine XS.iload X219.here hx rfl (hb hby at_217) rfl ?_
        show Steps p.tables e below (T219.setTop (mkF m 219 #[.val (.int p0), .val (.int p1), .val (.ref b102), .val (.int (9 : Int32)), .val (.ref w_SUPPORTED_ATTRIBUTES), .val (.int (1 : Int32)), .val (.int (1 : Int32))] [(.int (1 : Int32))])) _
        refine XS.iload X219.here hx rfl (hb hby at_219) rfl ?_
        show Steps p.tables e below (T219.setTop (mkF m 221 #[.val (.int p0), .val (.int p1), .val (.ref b102), .val (.int (9 : Int32)), .val (.ref w_SUPPORTED_ATTRIBUTES), .val (.int (1 : Int32)), .val (.int (1 : Int32))] [(.int (1 : Int32)), (.int (1 : Int32))])) _
        refine XS.icmpNo X219.here hx rfl (hb hby at_221) rfl (teq (by decide : (1 : Int32) = (1 : Int32))).2 ?_
        show Steps p.tables e below (T219.setTop (mkF m 224 #[.val (.int p0), .val (.int p1), .val (.ref b102), .val (.int (9 : Int32)), .val (.ref w_SUPPORTED_ATTRIBUTES), .val (.int (1 : Int32)), .val (.int (1 : Int32))] [])) _
        refine XS.iconst X219.here hx rfl (hb hby at_224) ?_
        show Steps p.tables e below (T219.setTop (mkF m 225 #[.val (.int p0), .val (.int p1), .val (.ref b102), .val (.int (9 : Int32)), .val (.ref w_SUPPORTED_ATTRIBUTES), .val (.int (1 : Int32)), .val (.int (1 : Int32))] [(.int (1 : Int32))])) _
        refine XS.goto X219.here hx rfl (pc0 := 225) (pc' := 229) rfl (hb hby at_225) (by decide) (by decide) ?_
        show Steps p.tables e below (T219.setTop (mkF m 229 #[.val (.int p0), .val (.int p1), .val (.ref b102), .val (.int (9 : Int32)), .val (.ref w_SUPPORTED_ATTRIBUTES), .val (.int (1 : Int32)), .val (.int (1 : Int32))] [(.int (1 : Int32))])) _
        exact retN X219 hx (t := .boolean) Bd.returns (by simp) (hb hby at_229) hr
      · show own_Made (some (.int 1)) n0 _ T219.heap _
        rw [e219]
        exact ⟨rfl, N219, trivial⟩
  · -- (10 : Int32)
    obtain ⟨cl222, Ar222, q222, S222, N222_, H222_, G222⟩ := V156
    have hin222 : ¬ ((10 : Int32) < 0 ∨ cl222.slots.size ≤ ((10 : Int32)).toNatClampNeg) := inb_of S222 ⟨by decide, by decide⟩
    have hat222 : cl222.slots[((10 : Int32)).toNatClampNeg]? = some (.ref w_SUPPORTED_PRIMITIVES) := Has.at H222_ hin222 rfl
    obtain ⟨cq223, kq223, q223a, q223b, q223c⟩ := isOf hZ e156 ((E_SUPPORTED_PRIMITIVES.ext EX156))
    obtain ⟨_, _, ⟨T223, L223, k223, n223⟩, -, X223, ⟨Lc223, hQ223, l223, y223, z223⟩, st223⟩ := X156.virtualBack hx (y := (⟨"com/example/parley/parley/message/AttributeType", "accepts", "(I)Z"⟩ : MethodName)) (z := (⟨"com/example/parley/parley/message/AttributeType", "accepts", "(I)Z"⟩ : MethodName)) hown (mvT hZ (hw _ (List.mem_of_getElem? (i := 41) rfl))) (mvT hZ (hw _ (List.mem_of_getElem? (i := 42) rfl))) (notFace_of_selects (args := #[]) (mvT hZ (hw _ (List.mem_of_getElem? (i := 44) rfl)))) (mvT hZ (hw _ (List.mem_of_getElem? (i := 44) rfl))) (mvT hZ (hw _ (List.mem_of_getElem? (i := 43) rfl))) (by decide) (backOf (W := 0) (rm_acc_OCTETS l Z a0 hw [] w_SUPPORTED_PRIMITIVES p1 h156 n0 (Nat.le_trans Z0 EX156.1) w_OCTETS (F_SUPPORTED_PRIMITIVES_shape.ext EX156) (E_OCTETS.ext EX156) (F_OCTETS_ordinal.ext EX156)) hZ (hw _ (List.mem_of_getElem? (i := 45) rfl)) (hw _ (List.mem_of_getElem? (i := 3) rfl)) (by decide) (by decide)) q223a q223c (g := (mkF m 142 #[.val (.int p0), .val (.int p1), .val (.ref b102), .val (.int (10 : Int32)), .val (.ref w_SUPPORTED_PRIMITIVES), .unset, .unset] [(.int p1), (.ref w_SUPPORTED_PRIMITIVES)])) rfl (by rw [hml]; rfl) (Steps.refl _) (argsL := [(.int p1)]) (rest := []) (lenOf pd_33 rfl) rfl (by show 2 * 0 + _ ≤ _; exact Nat.le_of_eq rfl) (hb hby at_142) (fun _ _ => ⟨rfl, e156, (by decide : 1 + 0 ≤ _), (by decide : 18 + 0 ≤ _)⟩)
    dsimp only [Pt.U, Pt.locs, Pt.cells, Pt.slots] at X223 l223 y223 z223 st223 hQ223
    subst l223 y223 z223
    obtain ⟨rfl, N223q, e223⟩ := hQ223
    have N223 := Fr.app N156 N223q
    have ck225 : ∀ t, Steps p.tables e below (T223.setTop (mkF m 194 #[.val (.int p0), .val (.int p1), .val (.ref b102), .val (.int (10 : Int32)), .val (.ref w_SUPPORTED_PRIMITIVES), .val (.int (1 : Int32)), .unset] [(.int p1)])) t → Steps p.tables e below (s₁.setTop (entryFrame m #[(.int p0), (.int p1)] maxLocals)) t := by
      intro t kt
      refine ck157 _ ?_
      show Steps p.tables e below (T156.setTop (mkF m 133 #[.val (.int p0), .val (.int p1), .val (.ref b102), .unset, .unset, .unset, .unset] [(.int ((p0 &&& (2147483647 : Int32)) % (18 : Int32)))])) _
      rw [hv168]
      show Steps p.tables e below (T156.setTop (mkF m 133 #[.val (.int p0), .val (.int p1), .val (.ref b102), .unset, .unset, .unset, .unset] [(.int (10 : Int32))])) _
      refine XS.istoreN X156.here hx rfl (hb hby at_133) rfl (l' := #[.val (.int p0), .val (.int p1), .val (.ref b102), .val (.int (10 : Int32)), .unset, .unset, .unset]) rfl ?_
      show Steps p.tables e below (T156.setTop (mkF m 134 #[.val (.int p0), .val (.int p1), .val (.ref b102), .val (.int (10 : Int32)), .unset, .unset, .unset] [])) _
      refine XS.aloadN X156.here hx rfl (hb hby at_134) rfl rfl ?_
      show Steps p.tables e below (T156.setTop (mkF m 135 #[.val (.int p0), .val (.int p1), .val (.ref b102), .val (.int (10 : Int32)), .unset, .unset, .unset] [(.ref b102)])) _
      refine XS.iloadN X156.here hx rfl (hb hby at_135) rfl ?_
      show Steps p.tables e below (T156.setTop (mkF m 136 #[.val (.int p0), .val (.int p1), .val (.ref b102), .val (.int (10 : Int32)), .unset, .unset, .unset] [(.int (10 : Int32)), (.ref b102)])) _
      refine X156.aaload hx (j := (10 : Int32)) (v := (.ref w_SUPPORTED_PRIMITIVES)) (by rw [e156]; exact Ar222.1) (State.isArrayOf_alike hZ.alike Ar222.2.1) rfl Ar222.2.2 hin222 hat222 (g := (mkF m 136 #[.val (.int p0), .val (.int p1), .val (.ref b102), .val (.int (10 : Int32)), .unset, .unset, .unset] [(.int (10 : Int32)), (.ref b102)])) rfl rfl (hb hby at_136) _ ?_
      show Steps p.tables e below (T156.setTop (mkF m 137 #[.val (.int p0), .val (.int p1), .val (.ref b102), .val (.int (10 : Int32)), .unset, .unset, .unset] [(.ref w_SUPPORTED_PRIMITIVES)])) _
      refine XS.astore X156.here hx rfl (hb hby at_137) rfl rfl (l' := #[.val (.int p0), .val (.int p1), .val (.ref b102), .val (.int (10 : Int32)), .val (.ref w_SUPPORTED_PRIMITIVES), .unset, .unset]) rfl ?_
      show Steps p.tables e below (T156.setTop (mkF m 139 #[.val (.int p0), .val (.int p1), .val (.ref b102), .val (.int (10 : Int32)), .val (.ref w_SUPPORTED_PRIMITIVES), .unset, .unset] [])) _
      refine XS.aload X156.here hx rfl (hb hby at_139) rfl rfl ?_
      show Steps p.tables e below (T156.setTop (mkF m 141 #[.val (.int p0), .val (.int p1), .val (.ref b102), .val (.int (10 : Int32)), .val (.ref w_SUPPORTED_PRIMITIVES), .unset, .unset] [(.ref w_SUPPORTED_PRIMITIVES)])) _
      refine XS.iloadN X156.here hx rfl (hb hby at_141) rfl ?_
      show Steps p.tables e below (T156.setTop (mkF m 142 #[.val (.int p0), .val (.int p1), .val (.ref b102), .val (.int (10 : Int32)), .val (.ref w_SUPPORTED_PRIMITIVES), .unset, .unset] [(.int p1), (.ref w_SUPPORTED_PRIMITIVES)])) _
      refine st223.trans ?_
      show Steps p.tables e below (T223.setTop (mkF m 145 #[.val (.int p0), .val (.int p1), .val (.ref b102), .val (.int (10 : Int32)), .val (.ref w_SUPPORTED_PRIMITIVES), .unset, .unset] [(.int (1 : Int32))])) _
      refine XS.istore X223.here hx rfl (hb hby at_145) rfl (l' := #[.val (.int p0), .val (.int p1), .val (.ref b102), .val (.int (10 : Int32)), .val (.ref w_SUPPORTED_PRIMITIVES), .val (.int (1 : Int32)), .unset]) rfl ?_
      show Steps p.tables e below (T223.setTop (mkF m 147 #[.val (.int p0), .val (.int p1), .val (.ref b102), .val (.int (10 : Int32)), .val (.ref w_SUPPORTED_PRIMITIVES), .val (.int (1 : Int32)), .unset] [])) _
      refine XS.iloadN X223.here hx rfl (hb hby at_147) rfl ?_
      show Steps p.tables e below (T223.setTop (mkF m 148 #[.val (.int p0), .val (.int p1), .val (.ref b102), .val (.int (10 : Int32)), .val (.ref w_SUPPORTED_PRIMITIVES), .val (.int (1 : Int32)), .unset] [(.int (10 : Int32))])) _
      refine XS.iconst X223.here hx rfl (hb hby at_148) ?_
      show Steps p.tables e below (T223.setTop (mkF m 149 #[.val (.int p0), .val (.int p1), .val (.ref b102), .val (.int (10 : Int32)), .val (.ref w_SUPPORTED_PRIMITIVES), .val (.int (1 : Int32)), .unset] [(.int (5 : Int32)), (.int (10 : Int32))])) _
      refine XS.icmpYes X223.here hx rfl (pc0 := 149) (pc' := 167) rfl (hb hby at_149) rfl (flt (by decide : ¬ ((10 : Int32) < (5 : Int32)))).2.1 (by decide) (by decide) ?_
      show Steps p.tables e below (T223.setTop (mkF m 167 #[.val (.int p0), .val (.int p1), .val (.ref b102), .val (.int (10 : Int32)), .val (.ref w_SUPPORTED_PRIMITIVES), .val (.int (1 : Int32)), .unset] [])) _
      refine XS.iloadN X223.here hx rfl (hb hby at_167) rfl ?_
      show Steps p.tables e below (T223.setTop (mkF m 168 #[.val (.int p0), .val (.int p1), .val (.ref b102), .val (.int (10 : Int32)), .val (.ref w_SUPPORTED_PRIMITIVES), .val (.int (1 : Int32)), .unset] [(.int (10 : Int32))])) _
      refine XS.iconst X223.here hx rfl (hb hby at_168) ?_
      show Steps p.tables e below (T223.setTop (mkF m 169 #[.val (.int p0), .val (.int p1), .val (.ref b102), .val (.int (10 : Int32)), .val (.ref w_SUPPORTED_PRIMITIVES), .val (.int (1 : Int32)), .unset] [(.int (5 : Int32)), (.int (10 : Int32))])) _
      refine XS.icmpYes X223.here hx rfl (pc0 := 169) (pc' := 187) rfl (hb hby at_169) rfl (feq (by decide : ¬ ((10 : Int32) = (5 : Int32)))).2 (by decide) (by decide) ?_
      show Steps p.tables e below (T223.setTop (mkF m 187 #[.val (.int p0), .val (.int p1), .val (.ref b102), .val (.int (10 : Int32)), .val (.ref w_SUPPORTED_PRIMITIVES), .val (.int (1 : Int32)), .unset] [])) _
      refine XS.iloadN X223.here hx rfl (hb hby at_187) rfl ?_
      show Steps p.tables e below (T223.setTop (mkF m 188 #[.val (.int p0), .val (.int p1), .val (.ref b102), .val (.int (10 : Int32)), .val (.ref w_SUPPORTED_PRIMITIVES), .val (.int (1 : Int32)), .unset] [(.int (10 : Int32))])) _
      refine XS.bipush X223.here hx rfl (hb hby at_188) ?_
      show Steps p.tables e below (T223.setTop (mkF m 190 #[.val (.int p0), .val (.int p1), .val (.ref b102), .val (.int (10 : Int32)), .val (.ref w_SUPPORTED_PRIMITIVES), .val (.int (1 : Int32)), .unset] [(.int (13 : Int32)), (.int (10 : Int32))])) _
      refine XS.icmpNo X223.here hx rfl (hb hby at_190) rfl (tlt (by decide : (10 : Int32) < (13 : Int32))).2.1 ?_
      show Steps p.tables e below (T223.setTop (mkF m 193 #[.val (.int p0), .val (.int p1), .val (.ref b102), .val (.int (10 : Int32)), .val (.ref w_SUPPORTED_PRIMITIVES), .val (.int (1 : Int32)), .unset] [])) _
      refine XS.iloadN X223.here hx rfl (hb hby at_193) rfl ?_
      exact kt
    (try clear N223q); (try clear st223); (try clear Lc223); (try clear n223); (try clear k223); (try clear L223); (try clear q223c); (try clear q223b); (try clear q223a); (try clear kq223); (try clear cq223); (try clear hat222); (try clear hin222); (try clear G222); (try clear H222_); (try clear N222_); (try clear S222); (try clear q222); (try clear Ar222); (try clear cl222)
    by_cases hc194_224 : p1 < (0 : Int32)
    · -- pc 194: p1 < (0 : Int32)
      obtain ⟨fs, hr, hrun, hended, hW, hsame⟩ := X223.leave (v := some (.int (1 : Int32))) (fun h => by rw [Bd.returns] at h; cases h)
      refine ⟨_, _, ck225 _ ?_, hrun, hended, _, _, rfl, ?_, ⟨_, rfl⟩, hW, hsame.mono (by decide) (by decide)⟩
      · show Steps p.tables e below (T223.setTop (mkF m 194 #[.val (.int p0), .val (.int p1), .val (.ref b102), .val (.int (10 : Int32)), .val (.ref w_SUPPORTED_PRIMITIVES), .val (.int (1 : Int32)), .unset] [(.int p1)])) _
        refine XS.ifNo X223.here hx rfl (hb hby at_194) rfl ((if0 _ _).trans (tlt hc194_224).2.1) ?_
        show Steps p.tables e below (T223.setTop (mkF m 197 #[.val (.int p0), .val (.int p1), .val (.ref b102), .val (.int (10 : Int32)), .val (.ref w_SUPPORTED_PRIMITIVES), .val (.int (1 : Int32)), .unset] [])) _
        refine XS.iconst X223.here hx rfl (hb hby at_197) ?_
        show Steps p.tables e below (T223.setTop (mkF m 198 #[.val (.int p0), .val (.int p1), .val (.ref b102), .val (.int (10 : Int32)), .val (.ref w_SUPPORTED_PRIMITIVES), .val (.int (1 : Int32)), .unset] [(.int (1 : Int32))])) _
        exact retN X223 hx (t := .boolean) Bd.returns (by simp) (hb hby at_198) hr
      · show own_Made (some (.int 1)) n0 _ T223.heap _
        rw [e223]
        exact ⟨rfl, N223, trivial⟩
    · -- pc 194: not p1 < (0 : Int32)
      obtain ⟨fs, hr, hrun, hended, hW, hsame⟩ := X223.leave (v := some (.int (1 : Int32))) (fun h => by rw [Bd.returns] at h; cases h)
      refine ⟨_, _, ck225 _ ?_, hrun, hended, _, _, rfl, ?_, ⟨_, rfl⟩, hW, hsame.mono (by decide) (by decide)⟩
      · show Steps p.tables e below (T223.setTop (mkF m 194 #[.val (.int p0), .val (.int p1), .val (.ref b102), .val (.int (10 : Int32)), .val (.ref w_SUPPORTED_PRIMITIVES), .val (.int (1 : Int32)), .unset] [(.int p1)])) _
        refine XS.ifYes X223.here hx rfl (pc0 := 194) (pc' := 199) rfl (hb hby at_194) rfl ((if0 _ _).trans (flt hc194_224).2.1) (by decide) (by decide) ?_
        show Steps p.tables e below (T223.setTop (mkF m 199 #[.val (.int p0), .val (.int p1), .val (.ref b102), .val (.int (10 : Int32)), .val (.ref w_SUPPORTED_PRIMITIVES), .val (.int (1 : Int32)), .unset] [])) _
        refine XS.iconst X223.here hx rfl (hb hby at_199) ?_
        show Steps p.tables e below (T223.setTop (mkF m 200 #[.val (.int p0), .val (.int p1), .val (.ref b102), .val (.int (10 : Int32)), .val (.ref w_SUPPORTED_PRIMITIVES), .val (.int (1 : Int32)), .unset] [(.int (1 : Int32))])) _
        refine XS.istore X223.here hx rfl (hb hby at_200) rfl (l' := #[.val (.int p0), .val (.int p1), .val (.ref b102), .val (.int (10 : Int32)), .val (.ref w_SUPPORTED_PRIMITIVES), .val (.int (1 : Int32)), .val (.int (1 : Int32))]) rfl ?_
        show Steps p.tables e below (T223.setTop (mkF m 202 #[.val (.int p0), .val (.int p1), .val (.ref b102), .val (.int (10 : Int32)), .val (.ref w_SUPPORTED_PRIMITIVES), .val (.int (1 : Int32)), .val (.int (1 : Int32))] [])) _
        refine XS.goto X223.here hx rfl (pc0 := 202) (pc' := 217) rfl (hb hby at_202) (by decide) (by decide) ?_
        show Steps p.tables e below (T223.setTop (mkF m 217 #[.val (.int p0), .val (.int p1), .val (.ref b102), .val (.int (10 : Int32)), .val (.ref w_SUPPORTED_PRIMITIVES), .val (.int (1 : Int32)), .val (.int (1 : Int32))] [])) _
        refine XS.iload X223.here hx rfl (hb hby at_217) rfl ?_
        show Steps p.tables e below (T223.setTop (mkF m 219 #[.val (.int p0), .val (.int p1), .val (.ref b102), .val (.int (10 : Int32)), .val (.ref w_SUPPORTED_PRIMITIVES), .val (.int (1 : Int32)), .val (.int (1 : Int32))] [(.int (1 : Int32))])) _
        refine XS.iload X223.here hx rfl (hb hby at_219) rfl ?_
        show Steps p.tables e below (T223.setTop (mkF m 221 #[.val (.int p0), .val (.int p1), .val (.ref b102), .val (.int (10 : Int32)), .val (.ref w_SUPPORTED_PRIMITIVES), .val (.int (1 : Int32)), .val (.int (1 : Int32))] [(.int (1 : Int32)), (.int (1 : Int32))])) _
        refine XS.icmpNo X223.here hx rfl (hb hby at_221) rfl (teq (by decide : (1 : Int32) = (1 : Int32))).2 ?_
        show Steps p.tables e below (T223.setTop (mkF m 224 #[.val (.int p0), .val (.int p1), .val (.ref b102), .val (.int (10 : Int32)), .val (.ref w_SUPPORTED_PRIMITIVES), .val (.int (1 : Int32)), .val (.int (1 : Int32))] [])) _
        refine XS.iconst X223.here hx rfl (hb hby at_224) ?_
        show Steps p.tables e below (T223.setTop (mkF m 225 #[.val (.int p0), .val (.int p1), .val (.ref b102), .val (.int (10 : Int32)), .val (.ref w_SUPPORTED_PRIMITIVES), .val (.int (1 : Int32)), .val (.int (1 : Int32))] [(.int (1 : Int32))])) _
        refine XS.goto X223.here hx rfl (pc0 := 225) (pc' := 229) rfl (hb hby at_225) (by decide) (by decide) ?_
        show Steps p.tables e below (T223.setTop (mkF m 229 #[.val (.int p0), .val (.int p1), .val (.ref b102), .val (.int (10 : Int32)), .val (.ref w_SUPPORTED_PRIMITIVES), .val (.int (1 : Int32)), .val (.int (1 : Int32))] [(.int (1 : Int32))])) _
        exact retN X223 hx (t := .boolean) Bd.returns (by simp) (hb hby at_229) hr
      · show own_Made (some (.int 1)) n0 _ T223.heap _
        rw [e223]
        exact ⟨rfl, N223, trivial⟩
  · -- (11 : Int32)
    obtain ⟨cl226, Ar226, q226, S226, N226_, H226_, G226⟩ := V156
    have hin226 : ¬ ((11 : Int32) < 0 ∨ cl226.slots.size ≤ ((11 : Int32)).toNatClampNeg) := inb_of S226 ⟨by decide, by decide⟩
    have hat226 : cl226.slots[((11 : Int32)).toNatClampNeg]? = some (.ref w_USER_DISPLAY_NAME) := Has.at H226_ hin226 rfl
    obtain ⟨cq227, kq227, q227a, q227b, q227c⟩ := isOf hZ e156 ((E_USER_DISPLAY_NAME.ext EX156))
    obtain ⟨_, _, ⟨T227, L227, k227, n227⟩, -, X227, ⟨Lc227, hQ227, l227, y227, z227⟩, st227⟩ := X156.virtualBack hx (y := (⟨"com/example/parley/parley/message/AttributeType", "accepts", "(I)Z"⟩ : MethodName)) (z := (⟨"com/example/parley/parley/message/AttributeType", "accepts", "(I)Z"⟩ : MethodName)) hown (mvT hZ (hw _ (List.mem_of_getElem? (i := 41) rfl))) (mvT hZ (hw _ (List.mem_of_getElem? (i := 42) rfl))) (notFace_of_selects (args := #[]) (mvT hZ (hw _ (List.mem_of_getElem? (i := 44) rfl)))) (mvT hZ (hw _ (List.mem_of_getElem? (i := 44) rfl))) (mvT hZ (hw _ (List.mem_of_getElem? (i := 43) rfl))) (by decide) (backOf (W := 0) (rm_acc_OCTETS l Z a0 hw [] w_USER_DISPLAY_NAME p1 h156 n0 (Nat.le_trans Z0 EX156.1) w_OCTETS (F_USER_DISPLAY_NAME_shape.ext EX156) (E_OCTETS.ext EX156) (F_OCTETS_ordinal.ext EX156)) hZ (hw _ (List.mem_of_getElem? (i := 45) rfl)) (hw _ (List.mem_of_getElem? (i := 3) rfl)) (by decide) (by decide)) q227a q227c (g := (mkF m 142 #[.val (.int p0), .val (.int p1), .val (.ref b102), .val (.int (11 : Int32)), .val (.ref w_USER_DISPLAY_NAME), .unset, .unset] [(.int p1), (.ref w_USER_DISPLAY_NAME)])) rfl (by rw [hml]; rfl) (Steps.refl _) (argsL := [(.int p1)]) (rest := []) (lenOf pd_33 rfl) rfl (by show 2 * 0 + _ ≤ _; exact Nat.le_of_eq rfl) (hb hby at_142) (fun _ _ => ⟨rfl, e156, (by decide : 1 + 0 ≤ _), (by decide : 18 + 0 ≤ _)⟩)
    dsimp only [Pt.U, Pt.locs, Pt.cells, Pt.slots] at X227 l227 y227 z227 st227 hQ227
    subst l227 y227 z227
    obtain ⟨rfl, N227q, e227⟩ := hQ227
    have N227 := Fr.app N156 N227q
    have ck229 : ∀ t, Steps p.tables e below (T227.setTop (mkF m 194 #[.val (.int p0), .val (.int p1), .val (.ref b102), .val (.int (11 : Int32)), .val (.ref w_USER_DISPLAY_NAME), .val (.int (1 : Int32)), .unset] [(.int p1)])) t → Steps p.tables e below (s₁.setTop (entryFrame m #[(.int p0), (.int p1)] maxLocals)) t := by
      intro t kt
      refine ck157 _ ?_
      show Steps p.tables e below (T156.setTop (mkF m 133 #[.val (.int p0), .val (.int p1), .val (.ref b102), .unset, .unset, .unset, .unset] [(.int ((p0 &&& (2147483647 : Int32)) % (18 : Int32)))])) _
      rw [hv169]
      show Steps p.tables e below (T156.setTop (mkF m 133 #[.val (.int p0), .val (.int p1), .val (.ref b102), .unset, .unset, .unset, .unset] [(.int (11 : Int32))])) _
      refine XS.istoreN X156.here hx rfl (hb hby at_133) rfl (l' := #[.val (.int p0), .val (.int p1), .val (.ref b102), .val (.int (11 : Int32)), .unset, .unset, .unset]) rfl ?_
      show Steps p.tables e below (T156.setTop (mkF m 134 #[.val (.int p0), .val (.int p1), .val (.ref b102), .val (.int (11 : Int32)), .unset, .unset, .unset] [])) _
      refine XS.aloadN X156.here hx rfl (hb hby at_134) rfl rfl ?_
      show Steps p.tables e below (T156.setTop (mkF m 135 #[.val (.int p0), .val (.int p1), .val (.ref b102), .val (.int (11 : Int32)), .unset, .unset, .unset] [(.ref b102)])) _
      refine XS.iloadN X156.here hx rfl (hb hby at_135) rfl ?_
      show Steps p.tables e below (T156.setTop (mkF m 136 #[.val (.int p0), .val (.int p1), .val (.ref b102), .val (.int (11 : Int32)), .unset, .unset, .unset] [(.int (11 : Int32)), (.ref b102)])) _
      refine X156.aaload hx (j := (11 : Int32)) (v := (.ref w_USER_DISPLAY_NAME)) (by rw [e156]; exact Ar226.1) (State.isArrayOf_alike hZ.alike Ar226.2.1) rfl Ar226.2.2 hin226 hat226 (g := (mkF m 136 #[.val (.int p0), .val (.int p1), .val (.ref b102), .val (.int (11 : Int32)), .unset, .unset, .unset] [(.int (11 : Int32)), (.ref b102)])) rfl rfl (hb hby at_136) _ ?_
      show Steps p.tables e below (T156.setTop (mkF m 137 #[.val (.int p0), .val (.int p1), .val (.ref b102), .val (.int (11 : Int32)), .unset, .unset, .unset] [(.ref w_USER_DISPLAY_NAME)])) _
      refine XS.astore X156.here hx rfl (hb hby at_137) rfl rfl (l' := #[.val (.int p0), .val (.int p1), .val (.ref b102), .val (.int (11 : Int32)), .val (.ref w_USER_DISPLAY_NAME), .unset, .unset]) rfl ?_
      show Steps p.tables e below (T156.setTop (mkF m 139 #[.val (.int p0), .val (.int p1), .val (.ref b102), .val (.int (11 : Int32)), .val (.ref w_USER_DISPLAY_NAME), .unset, .unset] [])) _
      refine XS.aload X156.here hx rfl (hb hby at_139) rfl rfl ?_
      show Steps p.tables e below (T156.setTop (mkF m 141 #[.val (.int p0), .val (.int p1), .val (.ref b102), .val (.int (11 : Int32)), .val (.ref w_USER_DISPLAY_NAME), .unset, .unset] [(.ref w_USER_DISPLAY_NAME)])) _
      refine XS.iloadN X156.here hx rfl (hb hby at_141) rfl ?_
      show Steps p.tables e below (T156.setTop (mkF m 142 #[.val (.int p0), .val (.int p1), .val (.ref b102), .val (.int (11 : Int32)), .val (.ref w_USER_DISPLAY_NAME), .unset, .unset] [(.int p1), (.ref w_USER_DISPLAY_NAME)])) _
      refine st227.trans ?_
      show Steps p.tables e below (T227.setTop (mkF m 145 #[.val (.int p0), .val (.int p1), .val (.ref b102), .val (.int (11 : Int32)), .val (.ref w_USER_DISPLAY_NAME), .unset, .unset] [(.int (1 : Int32))])) _
      refine XS.istore X227.here hx rfl (hb hby at_145) rfl (l' := #[.val (.int p0), .val (.int p1), .val (.ref b102), .val (.int (11 : Int32)), .val (.ref w_USER_DISPLAY_NAME), .val (.int (1 : Int32)), .unset]) rfl ?_
      show Steps p.tables e below (T227.setTop (mkF m 147 #[.val (.int p0), .val (.int p1), .val (.ref b102), .val (.int (11 : Int32)), .val (.ref w_USER_DISPLAY_NAME), .val (.int (1 : Int32)), .unset] [])) _
      refine XS.iloadN X227.here hx rfl (hb hby at_147) rfl ?_
      show Steps p.tables e below (T227.setTop (mkF m 148 #[.val (.int p0), .val (.int p1), .val (.ref b102), .val (.int (11 : Int32)), .val (.ref w_USER_DISPLAY_NAME), .val (.int (1 : Int32)), .unset] [(.int (11 : Int32))])) _
      refine XS.iconst X227.here hx rfl (hb hby at_148) ?_
      show Steps p.tables e below (T227.setTop (mkF m 149 #[.val (.int p0), .val (.int p1), .val (.ref b102), .val (.int (11 : Int32)), .val (.ref w_USER_DISPLAY_NAME), .val (.int (1 : Int32)), .unset] [(.int (5 : Int32)), (.int (11 : Int32))])) _
      refine XS.icmpYes X227.here hx rfl (pc0 := 149) (pc' := 167) rfl (hb hby at_149) rfl (flt (by decide : ¬ ((11 : Int32) < (5 : Int32)))).2.1 (by decide) (by decide) ?_
      show Steps p.tables e below (T227.setTop (mkF m 167 #[.val (.int p0), .val (.int p1), .val (.ref b102), .val (.int (11 : Int32)), .val (.ref w_USER_DISPLAY_NAME), .val (.int (1 : Int32)), .unset] [])) _
      refine XS.iloadN X227.here hx rfl (hb hby at_167) rfl ?_
      show Steps p.tables e below (T227.setTop (mkF m 168 #[.val (.int p0), .val (.int p1), .val (.ref b102), .val (.int (11 : Int32)), .val (.ref w_USER_DISPLAY_NAME), .val (.int (1 : Int32)), .unset] [(.int (11 : Int32))])) _
      refine XS.iconst X227.here hx rfl (hb hby at_168) ?_
      show Steps p.tables e below (T227.setTop (mkF m 169 #[.val (.int p0), .val (.int p1), .val (.ref b102), .val (.int (11 : Int32)), .val (.ref w_USER_DISPLAY_NAME), .val (.int (1 : Int32)), .unset] [(.int (5 : Int32)), (.int (11 : Int32))])) _
      refine XS.icmpYes X227.here hx rfl (pc0 := 169) (pc' := 187) rfl (hb hby at_169) rfl (feq (by decide : ¬ ((11 : Int32) = (5 : Int32)))).2 (by decide) (by decide) ?_
      show Steps p.tables e below (T227.setTop (mkF m 187 #[.val (.int p0), .val (.int p1), .val (.ref b102), .val (.int (11 : Int32)), .val (.ref w_USER_DISPLAY_NAME), .val (.int (1 : Int32)), .unset] [])) _
      refine XS.iloadN X227.here hx rfl (hb hby at_187) rfl ?_
      show Steps p.tables e below (T227.setTop (mkF m 188 #[.val (.int p0), .val (.int p1), .val (.ref b102), .val (.int (11 : Int32)), .val (.ref w_USER_DISPLAY_NAME), .val (.int (1 : Int32)), .unset] [(.int (11 : Int32))])) _
      refine XS.bipush X227.here hx rfl (hb hby at_188) ?_
      show Steps p.tables e below (T227.setTop (mkF m 190 #[.val (.int p0), .val (.int p1), .val (.ref b102), .val (.int (11 : Int32)), .val (.ref w_USER_DISPLAY_NAME), .val (.int (1 : Int32)), .unset] [(.int (13 : Int32)), (.int (11 : Int32))])) _
      refine XS.icmpNo X227.here hx rfl (hb hby at_190) rfl (tlt (by decide : (11 : Int32) < (13 : Int32))).2.1 ?_
      show Steps p.tables e below (T227.setTop (mkF m 193 #[.val (.int p0), .val (.int p1), .val (.ref b102), .val (.int (11 : Int32)), .val (.ref w_USER_DISPLAY_NAME), .val (.int (1 : Int32)), .unset] [])) _
      refine XS.iloadN X227.here hx rfl (hb hby at_193) rfl ?_
      exact kt
    (try clear N227q); (try clear st227); (try clear Lc227); (try clear n227); (try clear k227); (try clear L227); (try clear q227c); (try clear q227b); (try clear q227a); (try clear kq227); (try clear cq227); (try clear hat226); (try clear hin226); (try clear G226); (try clear H226_); (try clear N226_); (try clear S226); (try clear q226); (try clear Ar226); (try clear cl226)
    by_cases hc194_228 : p1 < (0 : Int32)
    · -- pc 194: p1 < (0 : Int32)
      obtain ⟨fs, hr, hrun, hended, hW, hsame⟩ := X227.leave (v := some (.int (1 : Int32))) (fun h => by rw [Bd.returns] at h; cases h)
      refine ⟨_, _, ck229 _ ?_, hrun, hended, _, _, rfl, ?_, ⟨_, rfl⟩, hW, hsame.mono (by decide) (by decide)⟩
      · show Steps p.tables e below (T227.setTop (mkF m 194 #[.val (.int p0), .val (.int p1), .val (.ref b102), .val (.int (11 : Int32)), .val (.ref w_USER_DISPLAY_NAME), .val (.int (1 : Int32)), .unset] [(.int p1)])) _
        refine XS.ifNo X227.here hx rfl (hb hby at_194) rfl ((if0 _ _).trans (tlt hc194_228).2.1) ?_
        show Steps p.tables e below (T227.setTop (mkF m 197 #[.val (.int p0), .val (.int p1), .val (.ref b102), .val (.int (11 : Int32)), .val (.ref w_USER_DISPLAY_NAME), .val (.int (1 : Int32)), .unset] [])) _
        refine XS.iconst X227.here hx rfl (hb hby at_197) ?_
        show Steps p.tables e below (T227.setTop (mkF m 198 #[.val (.int p0), .val (.int p1), .val (.ref b102), .val (.int (11 : Int32)), .val (.ref w_USER_DISPLAY_NAME), .val (.int (1 : Int32)), .unset] [(.int (1 : Int32))])) _
        exact retN X227 hx (t := .boolean) Bd.returns (by simp) (hb hby at_198) hr
      · show own_Made (some (.int 1)) n0 _ T227.heap _
        rw [e227]
        exact ⟨rfl, N227, trivial⟩
    · -- pc 194: not p1 < (0 : Int32)
      obtain ⟨fs, hr, hrun, hended, hW, hsame⟩ := X227.leave (v := some (.int (1 : Int32))) (fun h => by rw [Bd.returns] at h; cases h)
      refine ⟨_, _, ck229 _ ?_, hrun, hended, _, _, rfl, ?_, ⟨_, rfl⟩, hW, hsame.mono (by decide) (by decide)⟩
      · show Steps p.tables e below (T227.setTop (mkF m 194 #[.val (.int p0), .val (.int p1), .val (.ref b102), .val (.int (11 : Int32)), .val (.ref w_USER_DISPLAY_NAME), .val (.int (1 : Int32)), .unset] [(.int p1)])) _
        refine XS.ifYes X227.here hx rfl (pc0 := 194) (pc' := 199) rfl (hb hby at_194) rfl ((if0 _ _).trans (flt hc194_228).2.1) (by decide) (by decide) ?_
        show Steps p.tables e below (T227.setTop (mkF m 199 #[.val (.int p0), .val (.int p1), .val (.ref b102), .val (.int (11 : Int32)), .val (.ref w_USER_DISPLAY_NAME), .val (.int (1 : Int32)), .unset] [])) _
        refine XS.iconst X227.here hx rfl (hb hby at_199) ?_
        show Steps p.tables e below (T227.setTop (mkF m 200 #[.val (.int p0), .val (.int p1), .val (.ref b102), .val (.int (11 : Int32)), .val (.ref w_USER_DISPLAY_NAME), .val (.int (1 : Int32)), .unset] [(.int (1 : Int32))])) _
        refine XS.istore X227.here hx rfl (hb hby at_200) rfl (l' := #[.val (.int p0), .val (.int p1), .val (.ref b102), .val (.int (11 : Int32)), .val (.ref w_USER_DISPLAY_NAME), .val (.int (1 : Int32)), .val (.int (1 : Int32))]) rfl ?_
        show Steps p.tables e below (T227.setTop (mkF m 202 #[.val (.int p0), .val (.int p1), .val (.ref b102), .val (.int (11 : Int32)), .val (.ref w_USER_DISPLAY_NAME), .val (.int (1 : Int32)), .val (.int (1 : Int32))] [])) _
        refine XS.goto X227.here hx rfl (pc0 := 202) (pc' := 217) rfl (hb hby at_202) (by decide) (by decide) ?_
        show Steps p.tables e below (T227.setTop (mkF m 217 #[.val (.int p0), .val (.int p1), .val (.ref b102), .val (.int (11 : Int32)), .val (.ref w_USER_DISPLAY_NAME), .val (.int (1 : Int32)), .val (.int (1 : Int32))] [])) _
        refine XS.iload X227.here hx rfl (hb hby at_217) rfl ?_
        show Steps p.tables e below (T227.setTop (mkF m 219 #[.val (.int p0), .val (.int p1), .val (.ref b102), .val (.int (11 : Int32)), .val (.ref w_USER_DISPLAY_NAME), .val (.int (1 : Int32)), .val (.int (1 : Int32))] [(.int (1 : Int32))])) _
        refine XS.iload X227.here hx rfl (hb hby at_219) rfl ?_
        show Steps p.tables e below (T227.setTop (mkF m 221 #[.val (.int p0), .val (.int p1), .val (.ref b102), .val (.int (11 : Int32)), .val (.ref w_USER_DISPLAY_NAME), .val (.int (1 : Int32)), .val (.int (1 : Int32))] [(.int (1 : Int32)), (.int (1 : Int32))])) _
        refine XS.icmpNo X227.here hx rfl (hb hby at_221) rfl (teq (by decide : (1 : Int32) = (1 : Int32))).2 ?_
        show Steps p.tables e below (T227.setTop (mkF m 224 #[.val (.int p0), .val (.int p1), .val (.ref b102), .val (.int (11 : Int32)), .val (.ref w_USER_DISPLAY_NAME), .val (.int (1 : Int32)), .val (.int (1 : Int32))] [])) _
        refine XS.iconst X227.here hx rfl (hb hby at_224) ?_
        show Steps p.tables e below (T227.setTop (mkF m 225 #[.val (.int p0), .val (.int p1), .val (.ref b102), .val (.int (11 : Int32)), .val (.ref w_USER_DISPLAY_NAME), .val (.int (1 : Int32)), .val (.int (1 : Int32))] [(.int (1 : Int32))])) _
        refine XS.goto X227.here hx rfl (pc0 := 225) (pc' := 229) rfl (hb hby at_225) (by decide) (by decide) ?_
        show Steps p.tables e below (T227.setTop (mkF m 229 #[.val (.int p0), .val (.int p1), .val (.ref b102), .val (.int (11 : Int32)), .val (.ref w_USER_DISPLAY_NAME), .val (.int (1 : Int32)), .val (.int (1 : Int32))] [(.int (1 : Int32))])) _
        exact retN X227 hx (t := .boolean) Bd.returns (by simp) (hb hby at_229) hr
      · show own_Made (some (.int 1)) n0 _ T227.heap _
        rw [e227]
        exact ⟨rfl, N227, trivial⟩
  · -- (12 : Int32)
    obtain ⟨cl230, Ar230, q230, S230, N230_, H230_, G230⟩ := V156
    have hin230 : ¬ ((12 : Int32) < 0 ∨ cl230.slots.size ≤ ((12 : Int32)).toNatClampNeg) := inb_of S230 ⟨by decide, by decide⟩
    have hat230 : cl230.slots[((12 : Int32)).toNatClampNeg]? = some (.ref w_USER_URI) := Has.at H230_ hin230 rfl
    obtain ⟨cq231, kq231, q231a, q231b, q231c⟩ := isOf hZ e156 ((E_USER_URI.ext EX156))
    obtain ⟨_, _, ⟨T231, L231, k231, n231⟩, -, X231, ⟨Lc231, hQ231, l231, y231, z231⟩, st231⟩ := X156.virtualBack hx (y := (⟨"com/example/parley/parley/message/AttributeType", "accepts", "(I)Z"⟩ : MethodName)) (z := (⟨"com/example/parley/parley/message/AttributeType", "accepts", "(I)Z"⟩ : MethodName)) hown (mvT hZ (hw _ (List.mem_of_getElem? (i := 41) rfl))) (mvT hZ (hw _ (List.mem_of_getElem? (i := 42) rfl))) (notFace_of_selects (args := #[]) (mvT hZ (hw _ (List.mem_of_getElem? (i := 44) rfl)))) (mvT hZ (hw _ (List.mem_of_getElem? (i := 44) rfl))) (mvT hZ (hw _ (List.mem_of_getElem? (i := 43) rfl))) (by decide) (backOf (W := 0) (rm_acc_OCTETS l Z a0 hw [] w_USER_URI p1 h156 n0 (Nat.le_trans Z0 EX156.1) w_OCTETS (F_USER_URI_shape.ext EX156) (E_OCTETS.ext EX156) (F_OCTETS_ordinal.ext EX156)) hZ (hw _ (List.mem_of_getElem? (i := 45) rfl)) (hw _ (List.mem_of_getElem? (i := 3) rfl)) (by decide) (by decide)) q231a q231c (g := (mkF m 142 #[.val (.int p0), .val (.int p1), .val (.ref b102), .val (.int (12 : Int32)), .val (.ref w_USER_URI), .unset, .unset] [(.int p1), (.ref w_USER_URI)])) rfl (by rw [hml]; rfl) (Steps.refl _) (argsL := [(.int p1)]) (rest := []) (lenOf pd_33 rfl) rfl (by show 2 * 0 + _ ≤ _; exact Nat.le_of_eq rfl) (hb hby at_142) (fun _ _ => ⟨rfl, e156, (by decide : 1 + 0 ≤ _), (by decide : 18 + 0 ≤ _)⟩)
    dsimp only [Pt.U, Pt.locs, Pt.cells, Pt.slots] at X231 l231 y231 z231 st231 hQ231
    subst l231 y231 z231
    obtain ⟨rfl, N231q, e231⟩ := hQ231
    have N231 := Fr.app N156 N231q
    have ck233 : ∀ t, Steps p.tables e below (T231.setTop (mkF m 194 #[.val (.int p0), .val (.int p1), .val (.ref b102), .val (.int (12 : Int32)), .val (.ref w_USER_URI), .val (.int (1 : Int32)), .unset] [(.int p1)])) t → Steps p.tables e below (s₁.setTop (entryFrame m #[(.int p0), (.int p1)] maxLocals)) t := by
      intro t kt
      refine ck157 _ ?_
      show Steps p.tables e below (T156.setTop (mkF m 133 #[.val (.int p0), .val (.int p1), .val (.ref b102), .unset, .unset, .unset, .unset] [(.int ((p0 &&& (2147483647 : Int32)) % (18 : Int32)))])) _
      rw [hv170]
      show Steps p.tables e below (T156.setTop (mkF m 133 #[.val (.int p0), .val (.int p1), .val (.ref b102), .unset, .unset, .unset, .unset] [(.int (12 : Int32))])) _
      refine XS.istoreN X156.here hx rfl (hb hby at_133) rfl (l' := #[.val (.int p0), .val (.int p1), .val (.ref b102), .val (.int (12 : Int32)), .unset, .unset, .unset]) rfl ?_
      show Steps p.tables e below (T156.setTop (mkF m 134 #[.val (.int p0), .val (.int p1), .val (.ref b102), .val (.int (12 : Int32)), .unset, .unset, .unset] [])) _
      refine XS.aloadN X156.here hx rfl (hb hby at_134) rfl rfl ?_
      show Steps p.tables e below (T156.setTop (mkF m 135 #[.val (.int p0), .val (.int p1), .val (.ref b102), .val (.int (12 : Int32)), .unset, .unset, .unset] [(.ref b102)])) _
      refine XS.iloadN X156.here hx rfl (hb hby at_135) rfl ?_
      show Steps p.tables e below (T156.setTop (mkF m 136 #[.val (.int p0), .val (.int p1), .val (.ref b102), .val (.int (12 : Int32)), .unset, .unset, .unset] [(.int (12 : Int32)), (.ref b102)])) _
      refine X156.aaload hx (j := (12 : Int32)) (v := (.ref w_USER_URI)) (by rw [e156]; exact Ar230.1) (State.isArrayOf_alike hZ.alike Ar230.2.1) rfl Ar230.2.2 hin230 hat230 (g := (mkF m 136 #[.val (.int p0), .val (.int p1), .val (.ref b102), .val (.int (12 : Int32)), .unset, .unset, .unset] [(.int (12 : Int32)), (.ref b102)])) rfl rfl (hb hby at_136) _ ?_
      show Steps p.tables e below (T156.setTop (mkF m 137 #[.val (.int p0), .val (.int p1), .val (.ref b102), .val (.int (12 : Int32)), .unset, .unset, .unset] [(.ref w_USER_URI)])) _
      refine XS.astore X156.here hx rfl (hb hby at_137) rfl rfl (l' := #[.val (.int p0), .val (.int p1), .val (.ref b102), .val (.int (12 : Int32)), .val (.ref w_USER_URI), .unset, .unset]) rfl ?_
      show Steps p.tables e below (T156.setTop (mkF m 139 #[.val (.int p0), .val (.int p1), .val (.ref b102), .val (.int (12 : Int32)), .val (.ref w_USER_URI), .unset, .unset] [])) _
      refine XS.aload X156.here hx rfl (hb hby at_139) rfl rfl ?_
      show Steps p.tables e below (T156.setTop (mkF m 141 #[.val (.int p0), .val (.int p1), .val (.ref b102), .val (.int (12 : Int32)), .val (.ref w_USER_URI), .unset, .unset] [(.ref w_USER_URI)])) _
      refine XS.iloadN X156.here hx rfl (hb hby at_141) rfl ?_
      show Steps p.tables e below (T156.setTop (mkF m 142 #[.val (.int p0), .val (.int p1), .val (.ref b102), .val (.int (12 : Int32)), .val (.ref w_USER_URI), .unset, .unset] [(.int p1), (.ref w_USER_URI)])) _
      refine st231.trans ?_
      show Steps p.tables e below (T231.setTop (mkF m 145 #[.val (.int p0), .val (.int p1), .val (.ref b102), .val (.int (12 : Int32)), .val (.ref w_USER_URI), .unset, .unset] [(.int (1 : Int32))])) _
      refine XS.istore X231.here hx rfl (hb hby at_145) rfl (l' := #[.val (.int p0), .val (.int p1), .val (.ref b102), .val (.int (12 : Int32)), .val (.ref w_USER_URI), .val (.int (1 : Int32)), .unset]) rfl ?_
      show Steps p.tables e below (T231.setTop (mkF m 147 #[.val (.int p0), .val (.int p1), .val (.ref b102), .val (.int (12 : Int32)), .val (.ref w_USER_URI), .val (.int (1 : Int32)), .unset] [])) _
      refine XS.iloadN X231.here hx rfl (hb hby at_147) rfl ?_
      show Steps p.tables e below (T231.setTop (mkF m 148 #[.val (.int p0), .val (.int p1), .val (.ref b102), .val (.int (12 : Int32)), .val (.ref w_USER_URI), .val (.int (1 : Int32)), .unset] [(.int (12 : Int32))])) _
      refine XS.iconst X231.here hx rfl (hb hby at_148) ?_
      show Steps p.tables e below (T231.setTop (mkF m 149 #[.val (.int p0), .val (.int p1), .val (.ref b102), .val (.int (12 : Int32)), .val (.ref w_USER_URI), .val (.int (1 : Int32)), .unset] [(.int (5 : Int32)), (.int (12 : Int32))])) _
      refine XS.icmpYes X231.here hx rfl (pc0 := 149) (pc' := 167) rfl (hb hby at_149) rfl (flt (by decide : ¬ ((12 : Int32) < (5 : Int32)))).2.1 (by decide) (by decide) ?_
      show Steps p.tables e below (T231.setTop (mkF m 167 #[.val (.int p0), .val (.int p1), .val (.ref b102), .val (.int (12 : Int32)), .val (.ref w_USER_URI), .val (.int (1 : Int32)), .unset] [])) _
      refine XS.iloadN X231.here hx rfl (hb hby at_167) rfl ?_
      show Steps p.tables e below (T231.setTop (mkF m 168 #[.val (.int p0), .val (.int p1), .val (.ref b102), .val (.int (12 : Int32)), .val (.ref w_USER_URI), .val (.int (1 : Int32)), .unset] [(.int (12 : Int32))])) _
      refine XS.iconst X231.here hx rfl (hb hby at_168) ?_
      show Steps p.tables e below (T231.setTop (mkF m 169 #[.val (.int p0), .val (.int p1), .val (.ref b102), .val (.int (12 : Int32)), .val (.ref w_USER_URI), .val (.int (1 : Int32)), .unset] [(.int (5 : Int32)), (.int (12 : Int32))])) _
      refine XS.icmpYes X231.here hx rfl (pc0 := 169) (pc' := 187) rfl (hb hby at_169) rfl (feq (by decide : ¬ ((12 : Int32) = (5 : Int32)))).2 (by decide) (by decide) ?_
      show Steps p.tables e below (T231.setTop (mkF m 187 #[.val (.int p0), .val (.int p1), .val (.ref b102), .val (.int (12 : Int32)), .val (.ref w_USER_URI), .val (.int (1 : Int32)), .unset] [])) _
      refine XS.iloadN X231.here hx rfl (hb hby at_187) rfl ?_
      show Steps p.tables e below (T231.setTop (mkF m 188 #[.val (.int p0), .val (.int p1), .val (.ref b102), .val (.int (12 : Int32)), .val (.ref w_USER_URI), .val (.int (1 : Int32)), .unset] [(.int (12 : Int32))])) _
      refine XS.bipush X231.here hx rfl (hb hby at_188) ?_
      show Steps p.tables e below (T231.setTop (mkF m 190 #[.val (.int p0), .val (.int p1), .val (.ref b102), .val (.int (12 : Int32)), .val (.ref w_USER_URI), .val (.int (1 : Int32)), .unset] [(.int (13 : Int32)), (.int (12 : Int32))])) _
      refine XS.icmpNo X231.here hx rfl (hb hby at_190) rfl (tlt (by decide : (12 : Int32) < (13 : Int32))).2.1 ?_
      show Steps p.tables e below (T231.setTop (mkF m 193 #[.val (.int p0), .val (.int p1), .val (.ref b102), .val (.int (12 : Int32)), .val (.ref w_USER_URI), .val (.int (1 : Int32)), .unset] [])) _
      refine XS.iloadN X231.here hx rfl (hb hby at_193) rfl ?_
      exact kt
    (try clear N231q); (try clear st231); (try clear Lc231); (try clear n231); (try clear k231); (try clear L231); (try clear q231c); (try clear q231b); (try clear q231a); (try clear kq231); (try clear cq231); (try clear hat230); (try clear hin230); (try clear G230); (try clear H230_); (try clear N230_); (try clear S230); (try clear q230); (try clear Ar230); (try clear cl230)
    by_cases hc194_232 : p1 < (0 : Int32)
    · -- pc 194: p1 < (0 : Int32)
      obtain ⟨fs, hr, hrun, hended, hW, hsame⟩ := X231.leave (v := some (.int (1 : Int32))) (fun h => by rw [Bd.returns] at h; cases h)
      refine ⟨_, _, ck233 _ ?_, hrun, hended, _, _, rfl, ?_, ⟨_, rfl⟩, hW, hsame.mono (by decide) (by decide)⟩
      · show Steps p.tables e below (T231.setTop (mkF m 194 #[.val (.int p0), .val (.int p1), .val (.ref b102), .val (.int (12 : Int32)), .val (.ref w_USER_URI), .val (.int (1 : Int32)), .unset] [(.int p1)])) _
        refine XS.ifNo X231.here hx rfl (hb hby at_194) rfl ((if0 _ _).trans (tlt hc194_232).2.1) ?_
        show Steps p.tables e below (T231.setTop (mkF m 197 #[.val (.int p0), .val (.int p1), .val (.ref b102), .val (.int (12 : Int32)), .val (.ref w_USER_URI), .val (.int (1 : Int32)), .unset] [])) _
        refine XS.iconst X231.here hx rfl (hb hby at_197) ?_
        show Steps p.tables e below (T231.setTop (mkF m 198 #[.val (.int p0), .val (.int p1), .val (.ref b102), .val (.int (12 : Int32)), .val (.ref w_USER_URI), .val (.int (1 : Int32)), .unset] [(.int (1 : Int32))])) _
        exact retN X231 hx (t := .boolean) Bd.returns (by simp) (hb hby at_198) hr
      · show own_Made (some (.int 1)) n0 _ T231.heap _
        rw [e231]
        exact ⟨rfl, N231, trivial⟩
    · -- pc 194: not p1 < (0 : Int32)
      obtain ⟨fs, hr, hrun, hended, hW, hsame⟩ := X231.leave (v := some (.int (1 : Int32))) (fun h => by rw [Bd.returns] at h; cases h)
      refine ⟨_, _, ck233 _ ?_, hrun, hended, _, _, rfl, ?_, ⟨_, rfl⟩, hW, hsame.mono (by decide) (by decide)⟩
      · show Steps p.tables e below (T231.setTop (mkF m 194 #[.val (.int p0), .val (.int p1), .val (.ref b102), .val (.int (12 : Int32)), .val (.ref w_USER_URI), .val (.int (1 : Int32)), .unset] [(.int p1)])) _
        refine XS.ifYes X231.here hx rfl (pc0 := 194) (pc' := 199) rfl (hb hby at_194) rfl ((if0 _ _).trans (flt hc194_232).2.1) (by decide) (by decide) ?_
        show Steps p.tables e below (T231.setTop (mkF m 199 #[.val (.int p0), .val (.int p1), .val (.ref b102), .val (.int (12 : Int32)), .val (.ref w_USER_URI), .val (.int (1 : Int32)), .unset] [])) _
        refine XS.iconst X231.here hx rfl (hb hby at_199) ?_
        show Steps p.tables e below (T231.setTop (mkF m 200 #[.val (.int p0), .val (.int p1), .val (.ref b102), .val (.int (12 : Int32)), .val (.ref w_USER_URI), .val (.int (1 : Int32)), .unset] [(.int (1 : Int32))])) _
        refine XS.istore X231.here hx rfl (hb hby at_200) rfl (l' := #[.val (.int p0), .val (.int p1), .val (.ref b102), .val (.int (12 : Int32)), .val (.ref w_USER_URI), .val (.int (1 : Int32)), .val (.int (1 : Int32))]) rfl ?_
        show Steps p.tables e below (T231.setTop (mkF m 202 #[.val (.int p0), .val (.int p1), .val (.ref b102), .val (.int (12 : Int32)), .val (.ref w_USER_URI), .val (.int (1 : Int32)), .val (.int (1 : Int32))] [])) _
        refine XS.goto X231.here hx rfl (pc0 := 202) (pc' := 217) rfl (hb hby at_202) (by decide) (by decide) ?_
        show Steps p.tables e below (T231.setTop (mkF m 217 #[.val (.int p0), .val (.int p1), .val (.ref b102), .val (.int (12 : Int32)), .val (.ref w_USER_URI), .val (.int (1 : Int32)), .val (.int (1 : Int32))] [])) _
        refine XS.iload X231.here hx rfl (hb hby at_217) rfl ?_
        show Steps p.tables e below (T231.setTop (mkF m 219 #[.val (.int p0), .val (.int p1), .val (.ref b102), .val (.int (12 : Int32)), .val (.ref w_USER_URI), .val (.int (1 : Int32)), .val (.int (1 : Int32))] [(.int (1 : Int32))])) _
        refine XS.iload X231.here hx rfl (hb hby at_219) rfl ?_
        show Steps p.tables e below (T231.setTop (mkF m 221 #[.val (.int p0), .val (.int p1), .val (.ref b102), .val (.int (12 : Int32)), .val (.ref w_USER_URI), .val (.int (1 : Int32)), .val (.int (1 : Int32))] [(.int (1 : Int32)), (.int (1 : Int32))])) _
        refine XS.icmpNo X231.here hx rfl (hb hby at_221) rfl (teq (by decide : (1 : Int32) = (1 : Int32))).2 ?_
        show Steps p.tables e below (T231.setTop (mkF m 224 #[.val (.int p0), .val (.int p1), .val (.ref b102), .val (.int (12 : Int32)), .val (.ref w_USER_URI), .val (.int (1 : Int32)), .val (.int (1 : Int32))] [])) _
        refine XS.iconst X231.here hx rfl (hb hby at_224) ?_
        show Steps p.tables e below (T231.setTop (mkF m 225 #[.val (.int p0), .val (.int p1), .val (.ref b102), .val (.int (12 : Int32)), .val (.ref w_USER_URI), .val (.int (1 : Int32)), .val (.int (1 : Int32))] [(.int (1 : Int32))])) _
        refine XS.goto X231.here hx rfl (pc0 := 225) (pc' := 229) rfl (hb hby at_225) (by decide) (by decide) ?_
        show Steps p.tables e below (T231.setTop (mkF m 229 #[.val (.int p0), .val (.int p1), .val (.ref b102), .val (.int (12 : Int32)), .val (.ref w_USER_URI), .val (.int (1 : Int32)), .val (.int (1 : Int32))] [(.int (1 : Int32))])) _
        exact retN X231 hx (t := .boolean) Bd.returns (by simp) (hb hby at_229) hr
      · show own_Made (some (.int 1)) n0 _ T231.heap _
        rw [e231]
        exact ⟨rfl, N231, trivial⟩
  · -- (13 : Int32)
    obtain ⟨cl234, Ar234, q234, S234, N234_, H234_, G234⟩ := V156
    have hin234 : ¬ ((13 : Int32) < 0 ∨ cl234.slots.size ≤ ((13 : Int32)).toNatClampNeg) := inb_of S234 ⟨by decide, by decide⟩
    have hat234 : cl234.slots[((13 : Int32)).toNatClampNeg]? = some (.ref w_BENEFICIARY_INFORMATION) := Has.at H234_ hin234 rfl
    have ck235 : ∀ t, Steps p.tables e below (T156.setTop (mkF m 142 #[.val (.int p0), .val (.int p1), .val (.ref b102), .val (.int (13 : Int32)), .val (.ref w_BENEFICIARY_INFORMATION), .unset, .unset] [(.int p1), (.ref w_BENEFICIARY_INFORMATION)])) t → Steps p.tables e below (s₁.setTop (entryFrame m #[(.int p0), (.int p1)] maxLocals)) t := by
      intro t kt
      refine ck157 _ ?_
      show Steps p.tables e below (T156.setTop (mkF m 133 #[.val (.int p0), .val (.int p1), .val (.ref b102), .unset, .unset, .unset, .unset] [(.int ((p0 &&& (2147483647 : Int32)) % (18 : Int32)))])) _
      rw [hv171]
      show Steps p.tables e below (T156.setTop (mkF m 133 #[.val (.int p0), .val (.int p1), .val (.ref b102), .unset, .unset, .unset, .unset] [(.int (13 : Int32))])) _
      refine XS.istoreN X156.here hx rfl (hb hby at_133) rfl (l' := #[.val (.int p0), .val (.int p1), .val (.ref b102), .val (.int (13 : Int32)), .unset, .unset, .unset]) rfl ?_
      show Steps p.tables e below (T156.setTop (mkF m 134 #[.val (.int p0), .val (.int p1), .val (.ref b102), .val (.int (13 : Int32)), .unset, .unset, .unset] [])) _
      refine XS.aloadN X156.here hx rfl (hb hby at_134) rfl rfl ?_
      show Steps p.tables e below (T156.setTop (mkF m 135 #[.val (.int p0), .val (.int p1), .val (.ref b102), .val (.int (13 : Int32)), .unset, .unset, .unset] [(.ref b102)])) _
      refine XS.iloadN X156.here hx rfl (hb hby at_135) rfl ?_
      show Steps p.tables e below (T156.setTop (mkF m 136 #[.val (.int p0), .val (.int p1), .val (.ref b102), .val (.int (13 : Int32)), .unset, .unset, .unset] [(.int (13 : Int32)), (.ref b102)])) _
      refine X156.aaload hx (j := (13 : Int32)) (v := (.ref w_BENEFICIARY_INFORMATION)) (by rw [e156]; exact Ar234.1) (State.isArrayOf_alike hZ.alike Ar234.2.1) rfl Ar234.2.2 hin234 hat234 (g := (mkF m 136 #[.val (.int p0), .val (.int p1), .val (.ref b102), .val (.int (13 : Int32)), .unset, .unset, .unset] [(.int (13 : Int32)), (.ref b102)])) rfl rfl (hb hby at_136) _ ?_
      show Steps p.tables e below (T156.setTop (mkF m 137 #[.val (.int p0), .val (.int p1), .val (.ref b102), .val (.int (13 : Int32)), .unset, .unset, .unset] [(.ref w_BENEFICIARY_INFORMATION)])) _
      refine XS.astore X156.here hx rfl (hb hby at_137) rfl rfl (l' := #[.val (.int p0), .val (.int p1), .val (.ref b102), .val (.int (13 : Int32)), .val (.ref w_BENEFICIARY_INFORMATION), .unset, .unset]) rfl ?_
      show Steps p.tables e below (T156.setTop (mkF m 139 #[.val (.int p0), .val (.int p1), .val (.ref b102), .val (.int (13 : Int32)), .val (.ref w_BENEFICIARY_INFORMATION), .unset, .unset] [])) _
      refine XS.aload X156.here hx rfl (hb hby at_139) rfl rfl ?_
      show Steps p.tables e below (T156.setTop (mkF m 141 #[.val (.int p0), .val (.int p1), .val (.ref b102), .val (.int (13 : Int32)), .val (.ref w_BENEFICIARY_INFORMATION), .unset, .unset] [(.ref w_BENEFICIARY_INFORMATION)])) _
      refine XS.iloadN X156.here hx rfl (hb hby at_141) rfl ?_
      exact kt
    (try clear hat234); (try clear hin234); (try clear G234); (try clear H234_); (try clear N234_); (try clear S234); (try clear q234); (try clear Ar234); (try clear cl234)
    by_cases hl236 : p1 < (2 : Int32)
    · skip
      obtain ⟨cq237, kq237, q237a, q237b, q237c⟩ := isOf hZ e156 ((E_BENEFICIARY_INFORMATION.ext EX156))
      obtain ⟨_, _, ⟨T237, L237, k237, n237⟩, -, X237, ⟨Lc237, hQ237, l237, y237, z237⟩, st237⟩ := X156.virtualBack hx (y := (⟨"com/example/parley/parley/message/AttributeType", "accepts", "(I)Z"⟩ : MethodName)) (z := (⟨"com/example/parley/parley/message/AttributeType", "accepts", "(I)Z"⟩ : MethodName)) hown (mvT hZ (hw _ (List.mem_of_getElem? (i := 41) rfl))) (mvT hZ (hw _ (List.mem_of_getElem? (i := 42) rfl))) (notFace_of_selects (args := #[]) (mvT hZ (hw _ (List.mem_of_getElem? (i := 44) rfl)))) (mvT hZ (hw _ (List.mem_of_getElem? (i := 44) rfl))) (mvT hZ (hw _ (List.mem_of_getElem? (i := 43) rfl))) (by decide) (backOf (W := 0) (rm_acc_GROUPED l Z a0 hw [] w_BENEFICIARY_INFORMATION p1 h156 n0 (Nat.le_trans Z0 EX156.1) w_GROUPED (F_BENEFICIARY_INFORMATION_shape.ext EX156) (E_GROUPED.ext EX156) (F_GROUPED_ordinal.ext EX156) (0 : Int32) (if_pos hl236)) hZ (hw _ (List.mem_of_getElem? (i := 45) rfl)) (hw _ (List.mem_of_getElem? (i := 3) rfl)) (by decide) (by decide)) q237a q237c (g := (mkF m 142 #[.val (.int p0), .val (.int p1), .val (.ref b102), .val (.int (13 : Int32)), .val (.ref w_BENEFICIARY_INFORMATION), .unset, .unset] [(.int p1), (.ref w_BENEFICIARY_INFORMATION)])) rfl (by rw [hml]; rfl) (Steps.refl _) (argsL := [(.int p1)]) (rest := []) (lenOf pd_33 rfl) rfl (by show 2 * 0 + _ ≤ _; exact Nat.le_of_eq rfl) (hb hby at_142) (fun _ _ => ⟨rfl, e156, (by decide : 1 + 0 ≤ _), (by decide : 18 + 0 ≤ _)⟩)
      dsimp only [Pt.U, Pt.locs, Pt.cells, Pt.slots] at X237 l237 y237 z237 st237 hQ237
      subst l237 y237 z237
      obtain ⟨rfl, N237q, e237⟩ := hQ237
      have N237 := Fr.app N156 N237q
      obtain ⟨fs, hr, hrun, hended, hW, hsame⟩ := X237.leave (v := some (.int (1 : Int32))) (fun h => by rw [Bd.returns] at h; cases h)
      refine ⟨_, _, ck235 _ ?_, hrun, hended, _, _, rfl, ?_, ⟨_, rfl⟩, hW, hsame.mono (by decide) (by decide)⟩
      · show Steps p.tables e below (T156.setTop (mkF m 142 #[.val (.int p0), .val (.int p1), .val (.ref b102), .val (.int (13 : Int32)), .val (.ref w_BENEFICIARY_INFORMATION), .unset, .unset] [(.int p1), (.ref w_BENEFICIARY_INFORMATION)])) _
        refine st237.trans ?_
        show Steps p.tables e below (T237.setTop (mkF m 145 #[.val (.int p0), .val (.int p1), .val (.ref b102), .val (.int (13 : Int32)), .val (.ref w_BENEFICIARY_INFORMATION), .unset, .unset] [(.int (0 : Int32))])) _
        refine XS.istore X237.here hx rfl (hb hby at_145) rfl (l' := #[.val (.int p0), .val (.int p1), .val (.ref b102), .val (.int (13 : Int32)), .val (.ref w_BENEFICIARY_INFORMATION), .val (.int (0 : Int32)), .unset]) rfl ?_
        show Steps p.tables e below (T237.setTop (mkF m 147 #[.val (.int p0), .val (.int p1), .val (.ref b102), .val (.int (13 : Int32)), .val (.ref w_BENEFICIARY_INFORMATION), .val (.int (0 : Int32)), .unset] [])) _
        refine XS.iloadN X237.here hx rfl (hb hby at_147) rfl ?_
        show Steps p.tables e below (T237.setTop (mkF m 148 #[.val (.int p0), .val (.int p1), .val (.ref b102), .val (.int (13 : Int32)), .val (.ref w_BENEFICIARY_INFORMATION), .val (.int (0 : Int32)), .unset] [(.int (13 : Int32))])) _
        refine XS.iconst X237.here hx rfl (hb hby at_148) ?_
        show Steps p.tables e below (T237.setTop (mkF m 149 #[.val (.int p0), .val (.int p1), .val (.ref b102), .val (.int (13 : Int32)), .val (.ref w_BENEFICIARY_INFORMATION), .val (.int (0 : Int32)), .unset] [(.int (5 : Int32)), (.int (13 : Int32))])) _
        refine XS.icmpYes X237.here hx rfl (pc0 := 149) (pc' := 167) rfl (hb hby at_149) rfl (flt (by decide : ¬ ((13 : Int32) < (5 : Int32)))).2.1 (by decide) (by decide) ?_
        show Steps p.tables e below (T237.setTop (mkF m 167 #[.val (.int p0), .val (.int p1), .val (.ref b102), .val (.int (13 : Int32)), .val (.ref w_BENEFICIARY_INFORMATION), .val (.int (0 : Int32)), .unset] [])) _
        refine XS.iloadN X237.here hx rfl (hb hby at_167) rfl ?_
        show Steps p.tables e below (T237.setTop (mkF m 168 #[.val (.int p0), .val (.int p1), .val (.ref b102), .val (.int (13 : Int32)), .val (.ref w_BENEFICIARY_INFORMATION), .val (.int (0 : Int32)), .unset] [(.int (13 : Int32))])) _
        refine XS.iconst X237.here hx rfl (hb hby at_168) ?_
        show Steps p.tables e below (T237.setTop (mkF m 169 #[.val (.int p0), .val (.int p1), .val (.ref b102), .val (.int (13 : Int32)), .val (.ref w_BENEFICIARY_INFORMATION), .val (.int (0 : Int32)), .unset] [(.int (5 : Int32)), (.int (13 : Int32))])) _
        refine XS.icmpYes X237.here hx rfl (pc0 := 169) (pc' := 187) rfl (hb hby at_169) rfl (feq (by decide : ¬ ((13 : Int32) = (5 : Int32)))).2 (by decide) (by decide) ?_
        show Steps p.tables e below (T237.setTop (mkF m 187 #[.val (.int p0), .val (.int p1), .val (.ref b102), .val (.int (13 : Int32)), .val (.ref w_BENEFICIARY_INFORMATION), .val (.int (0 : Int32)), .unset] [])) _
        refine XS.iloadN X237.here hx rfl (hb hby at_187) rfl ?_
        show Steps p.tables e below (T237.setTop (mkF m 188 #[.val (.int p0), .val (.int p1), .val (.ref b102), .val (.int (13 : Int32)), .val (.ref w_BENEFICIARY_INFORMATION), .val (.int (0 : Int32)), .unset] [(.int (13 : Int32))])) _
        refine XS.bipush X237.here hx rfl (hb hby at_188) ?_
        show Steps p.tables e below (T237.setTop (mkF m 190 #[.val (.int p0), .val (.int p1), .val (.ref b102), .val (.int (13 : Int32)), .val (.ref w_BENEFICIARY_INFORMATION), .val (.int (0 : Int32)), .unset] [(.int (13 : Int32)), (.int (13 : Int32))])) _
        refine XS.icmpYes X237.here hx rfl (pc0 := 190) (pc' := 205) rfl (hb hby at_190) rfl (flt (by decide : ¬ ((13 : Int32) < (13 : Int32)))).2.1 (by decide) (by decide) ?_
        show Steps p.tables e below (T237.setTop (mkF m 205 #[.val (.int p0), .val (.int p1), .val (.ref b102), .val (.int (13 : Int32)), .val (.ref w_BENEFICIARY_INFORMATION), .val (.int (0 : Int32)), .unset] [])) _
        refine XS.iloadN X237.here hx rfl (hb hby at_205) rfl ?_
        show Steps p.tables e below (T237.setTop (mkF m 206 #[.val (.int p0), .val (.int p1), .val (.ref b102), .val (.int (13 : Int32)), .val (.ref w_BENEFICIARY_INFORMATION), .val (.int (0 : Int32)), .unset] [(.int p1)])) _
        refine XS.iconst X237.here hx rfl (hb hby at_206) ?_
        show Steps p.tables e below (T237.setTop (mkF m 207 #[.val (.int p0), .val (.int p1), .val (.ref b102), .val (.int (13 : Int32)), .val (.ref w_BENEFICIARY_INFORMATION), .val (.int (0 : Int32)), .unset] [(.int (2 : Int32)), (.int p1)])) _
        refine XS.icmpYes X237.here hx rfl (pc0 := 207) (pc' := 214) rfl (hb hby at_207) rfl (tlt hl236).1 (by decide) (by decide) ?_
        show Steps p.tables e below (T237.setTop (mkF m 214 #[.val (.int p0), .val (.int p1), .val (.ref b102), .val (.int (13 : Int32)), .val (.ref w_BENEFICIARY_INFORMATION), .val (.int (0 : Int32)), .unset] [])) _
        refine XS.iconst X237.here hx rfl (hb hby at_214) ?_
        show Steps p.tables e below (T237.setTop (mkF m 215 #[.val (.int p0), .val (.int p1), .val (.ref b102), .val (.int (13 : Int32)), .val (.ref w_BENEFICIARY_INFORMATION), .val (.int (0 : Int32)), .unset] [(.int (0 : Int32))])) _
        refine XS.istore X237.here hx rfl (hb hby at_215) rfl (l' := #[.val (.int p0), .val (.int p1), .val (.ref b102), .val (.int (13 : Int32)), .val (.ref w_BENEFICIARY_INFORMATION), .val (.int (0 : Int32)), .val (.int (0 : Int32))]) rfl ?_
        show Steps p.tables e below (T237.setTop (mkF m 217 #[.val (.int p0), .val (.int p1), .val (.ref b102), .val (.int (13 : Int32)), .val (.ref w_BENEFICIARY_INFORMATION), .val (.int (0 : Int32)), .val (.int (0 : Int32))] [])) _
        refine XS.iload X237.here hx rfl (hb hby at_217) rfl ?_
        show Steps p.tables e below (T237.setTop (mkF m 219 #[.val (.int p0), .val (.int p1), .val (.ref b102), .val (.int (13 : Int32)), .val (.ref w_BENEFICIARY_INFORMATION), .val (.int (0 : Int32)), .val (.int (0 : Int32))] [(.int (0 : Int32))])) _
        refine XS.iload X237.here hx rfl (hb hby at_219) rfl ?_
        show Steps p.tables e below (T237.setTop (mkF m 221 #[.val (.int p0), .val (.int p1), .val (.ref b102), .val (.int (13 : Int32)), .val (.ref w_BENEFICIARY_INFORMATION), .val (.int (0 : Int32)), .val (.int (0 : Int32))] [(.int (0 : Int32)), (.int (0 : Int32))])) _
        refine XS.icmpNo X237.here hx rfl (hb hby at_221) rfl (teq (by decide : (0 : Int32) = (0 : Int32))).2 ?_
        show Steps p.tables e below (T237.setTop (mkF m 224 #[.val (.int p0), .val (.int p1), .val (.ref b102), .val (.int (13 : Int32)), .val (.ref w_BENEFICIARY_INFORMATION), .val (.int (0 : Int32)), .val (.int (0 : Int32))] [])) _
        refine XS.iconst X237.here hx rfl (hb hby at_224) ?_
        show Steps p.tables e below (T237.setTop (mkF m 225 #[.val (.int p0), .val (.int p1), .val (.ref b102), .val (.int (13 : Int32)), .val (.ref w_BENEFICIARY_INFORMATION), .val (.int (0 : Int32)), .val (.int (0 : Int32))] [(.int (1 : Int32))])) _
        refine XS.goto X237.here hx rfl (pc0 := 225) (pc' := 229) rfl (hb hby at_225) (by decide) (by decide) ?_
        show Steps p.tables e below (T237.setTop (mkF m 229 #[.val (.int p0), .val (.int p1), .val (.ref b102), .val (.int (13 : Int32)), .val (.ref w_BENEFICIARY_INFORMATION), .val (.int (0 : Int32)), .val (.int (0 : Int32))] [(.int (1 : Int32))])) _
        exact retN X237 hx (t := .boolean) Bd.returns (by simp) (hb hby at_229) hr
      · show own_Made (some (.int 1)) n0 _ T237.heap _
        rw [e237]
        exact ⟨rfl, N237, trivial⟩
    · skip
      obtain ⟨cq238, kq238, q238a, q238b, q238c⟩ := isOf hZ e156 ((E_BENEFICIARY_INFORMATION.ext EX156))
      obtain ⟨_, _, ⟨T238, L238, k238, n238⟩, -, X238, ⟨Lc238, hQ238, l238, y238, z238⟩, st238⟩ := X156.virtualBack hx (y := (⟨"com/example/parley/parley/message/AttributeType", "accepts", "(I)Z"⟩ : MethodName)) (z := (⟨"com/example/parley/parley/message/AttributeType", "accepts", "(I)Z"⟩ : MethodName)) hown (mvT hZ (hw _ (List.mem_of_getElem? (i := 41) rfl))) (mvT hZ (hw _ (List.mem_of_getElem? (i := 42) rfl))) (notFace_of_selects (args := #[]) (mvT hZ (hw _ (List.mem_of_getElem? (i := 44) rfl)))) (mvT hZ (hw _ (List.mem_of_getElem? (i := 44) rfl))) (mvT hZ (hw _ (List.mem_of_getElem? (i := 43) rfl))) (by decide) (backOf (W := 0) (rm_acc_GROUPED l Z a0 hw [] w_BENEFICIARY_INFORMATION p1 h156 n0 (Nat.le_trans Z0 EX156.1) w_GROUPED (F_BENEFICIARY_INFORMATION_shape.ext EX156) (E_GROUPED.ext EX156) (F_GROUPED_ordinal.ext EX156) (1 : Int32) (if_neg hl236)) hZ (hw _ (List.mem_of_getElem? (i := 45) rfl)) (hw _ (List.mem_of_getElem? (i := 3) rfl)) (by decide) (by decide)) q238a q238c (g := (mkF m 142 #[.val (.int p0), .val (.int p1), .val (.ref b102), .val (.int (13 : Int32)), .val (.ref w_BENEFICIARY_INFORMATION), .unset, .unset] [(.int p1), (.ref w_BENEFICIARY_INFORMATION)])) rfl (by rw [hml]; rfl) (Steps.refl _) (argsL := [(.int p1)]) (rest := []) (lenOf pd_33 rfl) rfl (by show 2 * 0 + _ ≤ _; exact Nat.le_of_eq rfl) (hb hby at_142) (fun _ _ => ⟨rfl, e156, (by decide : 1 + 0 ≤ _), (by decide : 18 + 0 ≤ _)⟩)
      dsimp only [Pt.U, Pt.locs, Pt.cells, Pt.slots] at X238 l238 y238 z238 st238 hQ238
      subst l238 y238 z238
      obtain ⟨rfl, N238q, e238⟩ := hQ238
      have N238 := Fr.app N156 N238q
      obtain ⟨fs, hr, hrun, hended, hW, hsame⟩ := X238.leave (v := some (.int (1 : Int32))) (fun h => by rw [Bd.returns] at h; cases h)
      refine ⟨_, _, ck235 _ ?_, hrun, hended, _, _, rfl, ?_, ⟨_, rfl⟩, hW, hsame.mono (by decide) (by decide)⟩
      · show Steps p.tables e below (T156.setTop (mkF m 142 #[.val (.int p0), .val (.int p1), .val (.ref b102), .val (.int (13 : Int32)), .val (.ref w_BENEFICIARY_INFORMATION), .unset, .unset] [(.int p1), (.ref w_BENEFICIARY_INFORMATION)])) _
        refine st238.trans ?_
        show Steps p.tables e below (T238.setTop (mkF m 145 #[.val (.int p0), .val (.int p1), .val (.ref b102), .val (.int (13 : Int32)), .val (.ref w_BENEFICIARY_INFORMATION), .unset, .unset] [(.int (1 : Int32))])) _
        refine XS.istore X238.here hx rfl (hb hby at_145) rfl (l' := #[.val (.int p0), .val (.int p1), .val (.ref b102), .val (.int (13 : Int32)), .val (.ref w_BENEFICIARY_INFORMATION), .val (.int (1 : Int32)), .unset]) rfl ?_
        show Steps p.tables e below (T238.setTop (mkF m 147 #[.val (.int p0), .val (.int p1), .val (.ref b102), .val (.int (13 : Int32)), .val (.ref w_BENEFICIARY_INFORMATION), .val (.int (1 : Int32)), .unset] [])) _
        refine XS.iloadN X238.here hx rfl (hb hby at_147) rfl ?_
        show Steps p.tables e below (T238.setTop (mkF m 148 #[.val (.int p0), .val (.int p1), .val (.ref b102), .val (.int (13 : Int32)), .val (.ref w_BENEFICIARY_INFORMATION), .val (.int (1 : Int32)), .unset] [(.int (13 : Int32))])) _
        refine XS.iconst X238.here hx rfl (hb hby at_148) ?_
        show Steps p.tables e below (T238.setTop (mkF m 149 #[.val (.int p0), .val (.int p1), .val (.ref b102), .val (.int (13 : Int32)), .val (.ref w_BENEFICIARY_INFORMATION), .val (.int (1 : Int32)), .unset] [(.int (5 : Int32)), (.int (13 : Int32))])) _
        refine XS.icmpYes X238.here hx rfl (pc0 := 149) (pc' := 167) rfl (hb hby at_149) rfl (flt (by decide : ¬ ((13 : Int32) < (5 : Int32)))).2.1 (by decide) (by decide) ?_
        show Steps p.tables e below (T238.setTop (mkF m 167 #[.val (.int p0), .val (.int p1), .val (.ref b102), .val (.int (13 : Int32)), .val (.ref w_BENEFICIARY_INFORMATION), .val (.int (1 : Int32)), .unset] [])) _
        refine XS.iloadN X238.here hx rfl (hb hby at_167) rfl ?_
        show Steps p.tables e below (T238.setTop (mkF m 168 #[.val (.int p0), .val (.int p1), .val (.ref b102), .val (.int (13 : Int32)), .val (.ref w_BENEFICIARY_INFORMATION), .val (.int (1 : Int32)), .unset] [(.int (13 : Int32))])) _
        refine XS.iconst X238.here hx rfl (hb hby at_168) ?_
        show Steps p.tables e below (T238.setTop (mkF m 169 #[.val (.int p0), .val (.int p1), .val (.ref b102), .val (.int (13 : Int32)), .val (.ref w_BENEFICIARY_INFORMATION), .val (.int (1 : Int32)), .unset] [(.int (5 : Int32)), (.int (13 : Int32))])) _
        refine XS.icmpYes X238.here hx rfl (pc0 := 169) (pc' := 187) rfl (hb hby at_169) rfl (feq (by decide : ¬ ((13 : Int32) = (5 : Int32)))).2 (by decide) (by decide) ?_
        show Steps p.tables e below (T238.setTop (mkF m 187 #[.val (.int p0), .val (.int p1), .val (.ref b102), .val (.int (13 : Int32)), .val (.ref w_BENEFICIARY_INFORMATION), .val (.int (1 : Int32)), .unset] [])) _
        refine XS.iloadN X238.here hx rfl (hb hby at_187) rfl ?_
        show Steps p.tables e below (T238.setTop (mkF m 188 #[.val (.int p0), .val (.int p1), .val (.ref b102), .val (.int (13 : Int32)), .val (.ref w_BENEFICIARY_INFORMATION), .val (.int (1 : Int32)), .unset] [(.int (13 : Int32))])) _
        refine XS.bipush X238.here hx rfl (hb hby at_188) ?_
        show Steps p.tables e below (T238.setTop (mkF m 190 #[.val (.int p0), .val (.int p1), .val (.ref b102), .val (.int (13 : Int32)), .val (.ref w_BENEFICIARY_INFORMATION), .val (.int (1 : Int32)), .unset] [(.int (13 : Int32)), (.int (13 : Int32))])) _
        refine XS.icmpYes X238.here hx rfl (pc0 := 190) (pc' := 205) rfl (hb hby at_190) rfl (flt (by decide : ¬ ((13 : Int32) < (13 : Int32)))).2.1 (by decide) (by decide) ?_
        show Steps p.tables e below (T238.setTop (mkF m 205 #[.val (.int p0), .val (.int p1), .val (.ref b102), .val (.int (13 : Int32)), .val (.ref w_BENEFICIARY_INFORMATION), .val (.int (1 : Int32)), .unset] [])) _
        refine XS.iloadN X238.here hx rfl (hb hby at_205) rfl ?_
        show Steps p.tables e below (T238.setTop (mkF m 206 #[.val (.int p0), .val (.int p1), .val (.ref b102), .val (.int (13 : Int32)), .val (.ref w_BENEFICIARY_INFORMATION), .val (.int (1 : Int32)), .unset] [(.int p1)])) _
        refine XS.iconst X238.here hx rfl (hb hby at_206) ?_
        show Steps p.tables e below (T238.setTop (mkF m 207 #[.val (.int p0), .val (.int p1), .val (.ref b102), .val (.int (13 : Int32)), .val (.ref w_BENEFICIARY_INFORMATION), .val (.int (1 : Int32)), .unset] [(.int (2 : Int32)), (.int p1)])) _
        refine XS.icmpNo X238.here hx rfl (hb hby at_207) rfl (flt hl236).1 ?_
        show Steps p.tables e below (T238.setTop (mkF m 210 #[.val (.int p0), .val (.int p1), .val (.ref b102), .val (.int (13 : Int32)), .val (.ref w_BENEFICIARY_INFORMATION), .val (.int (1 : Int32)), .unset] [])) _
        refine XS.iconst X238.here hx rfl (hb hby at_210) ?_
        show Steps p.tables e below (T238.setTop (mkF m 211 #[.val (.int p0), .val (.int p1), .val (.ref b102), .val (.int (13 : Int32)), .val (.ref w_BENEFICIARY_INFORMATION), .val (.int (1 : Int32)), .unset] [(.int (1 : Int32))])) _
        refine XS.goto X238.here hx rfl (pc0 := 211) (pc' := 215) rfl (hb hby at_211) (by decide) (by decide) ?_
        show Steps p.tables e below (T238.setTop (mkF m 215 #[.val (.int p0), .val (.int p1), .val (.ref b102), .val (.int (13 : Int32)), .val (.ref w_BENEFICIARY_INFORMATION), .val (.int (1 : Int32)), .unset] [(.int (1 : Int32))])) _
        refine XS.istore X238.here hx rfl (hb hby at_215) rfl (l' := #[.val (.int p0), .val (.int p1), .val (.ref b102), .val (.int (13 : Int32)), .val (.ref w_BENEFICIARY_INFORMATION), .val (.int (1 : Int32)), .val (.int (1 : Int32))]) rfl ?_
        show Steps p.tables e below (T238.setTop (mkF m 217 #[.val (.int p0), .val (.int p1), .val (.ref b102), .val (.int (13 : Int32)), .val (.ref w_BENEFICIARY_INFORMATION), .val (.int (1 : Int32)), .val (.int (1 : Int32))] [])) _
        refine XS.iload X238.here hx rfl (hb hby at_217) rfl ?_
        show Steps p.tables e below (T238.setTop (mkF m 219 #[.val (.int p0), .val (.int p1), .val (.ref b102), .val (.int (13 : Int32)), .val (.ref w_BENEFICIARY_INFORMATION), .val (.int (1 : Int32)), .val (.int (1 : Int32))] [(.int (1 : Int32))])) _
        refine XS.iload X238.here hx rfl (hb hby at_219) rfl ?_
        show Steps p.tables e below (T238.setTop (mkF m 221 #[.val (.int p0), .val (.int p1), .val (.ref b102), .val (.int (13 : Int32)), .val (.ref w_BENEFICIARY_INFORMATION), .val (.int (1 : Int32)), .val (.int (1 : Int32))] [(.int (1 : Int32)), (.int (1 : Int32))])) _
        refine XS.icmpNo X238.here hx rfl (hb hby at_221) rfl (teq (by decide : (1 : Int32) = (1 : Int32))).2 ?_
        show Steps p.tables e below (T238.setTop (mkF m 224 #[.val (.int p0), .val (.int p1), .val (.ref b102), .val (.int (13 : Int32)), .val (.ref w_BENEFICIARY_INFORMATION), .val (.int (1 : Int32)), .val (.int (1 : Int32))] [])) _
        refine XS.iconst X238.here hx rfl (hb hby at_224) ?_
        show Steps p.tables e below (T238.setTop (mkF m 225 #[.val (.int p0), .val (.int p1), .val (.ref b102), .val (.int (13 : Int32)), .val (.ref w_BENEFICIARY_INFORMATION), .val (.int (1 : Int32)), .val (.int (1 : Int32))] [(.int (1 : Int32))])) _
        refine XS.goto X238.here hx rfl (pc0 := 225) (pc' := 229) rfl (hb hby at_225) (by decide) (by decide) ?_
        show Steps p.tables e below (T238.setTop (mkF m 229 #[.val (.int p0), .val (.int p1), .val (.ref b102), .val (.int (13 : Int32)), .val (.ref w_BENEFICIARY_INFORMATION), .val (.int (1 : Int32)), .val (.int (1 : Int32))] [(.int (1 : Int32))])) _
        exact retN X238 hx (t := .boolean) Bd.returns (by simp) (hb hby at_229) hr
      · show own_Made (some (.int 1)) n0 _ T238.heap _
        rw [e238]
        exact ⟨rfl, N238, trivial⟩
  · -- (14 : Int32)
    obtain ⟨cl239, Ar239, q239, S239, N239_, H239_, G239⟩ := V156
    have hin239 : ¬ ((14 : Int32) < 0 ∨ cl239.slots.size ≤ ((14 : Int32)).toNatClampNeg) := inb_of S239 ⟨by decide, by decide⟩
    have hat239 : cl239.slots[((14 : Int32)).toNatClampNeg]? = some (.ref w_FLOOR_REQUEST_INFORMATION) := Has.at H239_ hin239 rfl
    have ck240 : ∀ t, Steps p.tables e below (T156.setTop (mkF m 142 #[.val (.int p0), .val (.int p1), .val (.ref b102), .val (.int (14 : Int32)), .val (.ref w_FLOOR_REQUEST_INFORMATION), .unset, .unset] [(.int p1), (.ref w_FLOOR_REQUEST_INFORMATION)])) t → Steps p.tables e below (s₁.setTop (entryFrame m #[(.int p0), (.int p1)] maxLocals)) t := by
      intro t kt
      refine ck157 _ ?_
      show Steps p.tables e below (T156.setTop (mkF m 133 #[.val (.int p0), .val (.int p1), .val (.ref b102), .unset, .unset, .unset, .unset] [(.int ((p0 &&& (2147483647 : Int32)) % (18 : Int32)))])) _
      rw [hv172]
      show Steps p.tables e below (T156.setTop (mkF m 133 #[.val (.int p0), .val (.int p1), .val (.ref b102), .unset, .unset, .unset, .unset] [(.int (14 : Int32))])) _
      refine XS.istoreN X156.here hx rfl (hb hby at_133) rfl (l' := #[.val (.int p0), .val (.int p1), .val (.ref b102), .val (.int (14 : Int32)), .unset, .unset, .unset]) rfl ?_
      show Steps p.tables e below (T156.setTop (mkF m 134 #[.val (.int p0), .val (.int p1), .val (.ref b102), .val (.int (14 : Int32)), .unset, .unset, .unset] [])) _
      refine XS.aloadN X156.here hx rfl (hb hby at_134) rfl rfl ?_
      show Steps p.tables e below (T156.setTop (mkF m 135 #[.val (.int p0), .val (.int p1), .val (.ref b102), .val (.int (14 : Int32)), .unset, .unset, .unset] [(.ref b102)])) _
      refine XS.iloadN X156.here hx rfl (hb hby at_135) rfl ?_
      show Steps p.tables e below (T156.setTop (mkF m 136 #[.val (.int p0), .val (.int p1), .val (.ref b102), .val (.int (14 : Int32)), .unset, .unset, .unset] [(.int (14 : Int32)), (.ref b102)])) _
      refine X156.aaload hx (j := (14 : Int32)) (v := (.ref w_FLOOR_REQUEST_INFORMATION)) (by rw [e156]; exact Ar239.1) (State.isArrayOf_alike hZ.alike Ar239.2.1) rfl Ar239.2.2 hin239 hat239 (g := (mkF m 136 #[.val (.int p0), .val (.int p1), .val (.ref b102), .val (.int (14 : Int32)), .unset, .unset, .unset] [(.int (14 : Int32)), (.ref b102)])) rfl rfl (hb hby at_136) _ ?_
      show Steps p.tables e below (T156.setTop (mkF m 137 #[.val (.int p0), .val (.int p1), .val (.ref b102), .val (.int (14 : Int32)), .unset, .unset, .unset] [(.ref w_FLOOR_REQUEST_INFORMATION)])) _
      refine XS.astore X156.here hx rfl (hb hby at_137) rfl rfl (l' := #[.val (.int p0), .val (.int p1), .val (.ref b102), .val (.int (14 : Int32)), .val (.ref w_FLOOR_REQUEST_INFORMATION), .unset, .unset]) rfl ?_
      show Steps p.tables e below (T156.setTop (mkF m 139 #[.val (.int p0), .val (.int p1), .val (.ref b102), .val (.int (14 : Int32)), .val (.ref w_FLOOR_REQUEST_INFORMATION), .unset, .unset] [])) _
      refine XS.aload X156.here hx rfl (hb hby at_139) rfl rfl ?_
      show Steps p.tables e below (T156.setTop (mkF m 141 #[.val (.int p0), .val (.int p1), .val (.ref b102), .val (.int (14 : Int32)), .val (.ref w_FLOOR_REQUEST_INFORMATION), .unset, .unset] [(.ref w_FLOOR_REQUEST_INFORMATION)])) _
      refine XS.iloadN X156.here hx rfl (hb hby at_141) rfl ?_
      exact kt
    (try clear hat239); (try clear hin239); (try clear G239); (try clear H239_); (try clear N239_); (try clear S239); (try clear q239); (try clear Ar239); (try clear cl239)
    by_cases hl241 : p1 < (2 : Int32)
    · skip
      obtain ⟨cq242, kq242, q242a, q242b, q242c⟩ := isOf hZ e156 ((E_FLOOR_REQUEST_INFORMATION.ext EX156))
      obtain ⟨_, _, ⟨T242, L242, k242, n242⟩, -, X242, ⟨Lc242, hQ242, l242, y242, z242⟩, st242⟩ := X156.virtualBack hx (y := (⟨"com/example/parley/parley/message/AttributeType", "accepts", "(I)Z"⟩ : MethodName)) (z := (⟨"com/example/parley/parley/message/AttributeType", "accepts", "(I)Z"⟩ : MethodName)) hown (mvT hZ (hw _ (List.mem_of_getElem? (i := 41) rfl))) (mvT hZ (hw _ (List.mem_of_getElem? (i := 42) rfl))) (notFace_of_selects (args := #[]) (mvT hZ (hw _ (List.mem_of_getElem? (i := 44) rfl)))) (mvT hZ (hw _ (List.mem_of_getElem? (i := 44) rfl))) (mvT hZ (hw _ (List.mem_of_getElem? (i := 43) rfl))) (by decide) (backOf (W := 0) (rm_acc_GROUPED l Z a0 hw [] w_FLOOR_REQUEST_INFORMATION p1 h156 n0 (Nat.le_trans Z0 EX156.1) w_GROUPED (F_FLOOR_REQUEST_INFORMATION_shape.ext EX156) (E_GROUPED.ext EX156) (F_GROUPED_ordinal.ext EX156) (0 : Int32) (if_pos hl241)) hZ (hw _ (List.mem_of_getElem? (i := 45) rfl)) (hw _ (List.mem_of_getElem? (i := 3) rfl)) (by decide) (by decide)) q242a q242c (g := (mkF m 142 #[.val (.int p0), .val (.int p1), .val (.ref b102), .val (.int (14 : Int32)), .val (.ref w_FLOOR_REQUEST_INFORMATION), .unset, .unset] [(.int p1), (.ref w_FLOOR_REQUEST_INFORMATION)])) rfl (by rw [hml]; rfl) (Steps.refl _) (argsL := [(.int p1)]) (rest := []) (lenOf pd_33 rfl) rfl (by show 2 * 0 + _ ≤ _; exact Nat.le_of_eq rfl) (hb hby at_142) (fun _ _ => ⟨rfl, e156, (by decide : 1 + 0 ≤ _), (by decide : 18 + 0 ≤ _)⟩)
      dsimp only [Pt.U, Pt.locs, Pt.cells, Pt.slots] at X242 l242 y242 z242 st242 hQ242
      subst l242 y242 z242
      obtain ⟨rfl, N242q, e242⟩ := hQ242
      have N242 := Fr.app N156 N242q
      obtain ⟨fs, hr, hrun, hended, hW, hsame⟩ := X242.leave (v := some (.int (1 : Int32))) (fun h => by rw [Bd.returns] at h; cases h)
      refine ⟨_, _, ck240 _ ?_, hrun, hended, _, _, rfl, ?_, ⟨_, rfl⟩, hW, hsame.mono (by decide) (by decide)⟩
      · show Steps p.tables e below (T156.setTop (mkF m 142 #[.val (.int p0), .val (.int p1), .val (.ref b102), .val (.int (14 : Int32)), .val (.ref w_FLOOR_REQUEST_INFORMATION), .unset, .unset] [(.int p1), (.ref w_FLOOR_REQUEST_INFORMATION)])) _
        refine st242.trans ?_
        show Steps p.tables e below (T242.setTop (mkF m 145 #[.val (.int p0), .val (.int p1), .val (.ref b102), .val (.int (14 : Int32)), .val (.ref w_FLOOR_REQUEST_INFORMATION), .unset, .unset] [(.int (0 : Int32))])) _
        refine XS.istore X242.here hx rfl (hb hby at_145) rfl (l' := #[.val (.int p0), .val (.int p1), .val (.ref b102), .val (.int (14 : Int32)), .val (.ref w_FLOOR_REQUEST_INFORMATION), .val (.int (0 : Int32)), .unset]) rfl ?_
        show Steps p.tables e below (T242.setTop (mkF m 147 #[.val (.int p0), .val (.int p1), .val (.ref b102), .val (.int (14 : Int32)), .val (.ref w_FLOOR_REQUEST_INFORMATION), .val (.int (0 : Int32)), .unset] [])) _
        refine XS.iloadN X242.here hx rfl (hb hby at_147) rfl ?_
        show Steps p.tables e below (T242.setTop (mkF m 148 #[.val (.int p0), .val (.int p1), .val (.ref b102), .val (.int (14 : Int32)), .val (.ref w_FLOOR_REQUEST_INFORMATION), .val (.int (0 : Int32)), .unset] [(.int (14 : Int32))])) _
        refine XS.iconst X242.here hx rfl (hb hby at_148) ?_
        show Steps p.tables e below (T242.setTop (mkF m 149 #[.val (.int p0), .val (.int p1), .val (.ref b102), .val (.int (14 : Int32)), .val (.ref w_FLOOR_REQUEST_INFORMATION), .val (.int (0 : Int32)), .unset] [(.int (5 : Int32)), (.int (14 : Int32))])) _
        refine XS.icmpYes X242.here hx rfl (pc0 := 149) (pc' := 167) rfl (hb hby at_149) rfl (flt (by decide : ¬ ((14 : Int32) < (5 : Int32)))).2.1 (by decide) (by decide) ?_
        show Steps p.tables e below (T242.setTop (mkF m 167 #[.val (.int p0), .val (.int p1), .val (.ref b102), .val (.int (14 : Int32)), .val (.ref w_FLOOR_REQUEST_INFORMATION), .val (.int (0 : Int32)), .unset] [])) _
        refine XS.iloadN X242.here hx rfl (hb hby at_167) rfl ?_
        show Steps p.tables e below (T242.setTop (mkF m 168 #[.val (.int p0), .val (.int p1), .val (.ref b102), .val (.int (14 : Int32)), .val (.ref w_FLOOR_REQUEST_INFORMATION), .val (.int (0 : Int32)), .unset] [(.int (14 : Int32))])) _
        refine XS.iconst X242.here hx rfl (hb hby at_168) ?_
        show Steps p.tables e below (T242.setTop (mkF m 169 #[.val (.int p0), .val (.int p1), .val (.ref b102), .val (.int (14 : Int32)), .val (.ref w_FLOOR_REQUEST_INFORMATION), .val (.int (0 : Int32)), .unset] [(.int (5 : Int32)), (.int (14 : Int32))])) _
        refine XS.icmpYes X242.here hx rfl (pc0 := 169) (pc' := 187) rfl (hb hby at_169) rfl (feq (by decide : ¬ ((14 : Int32) = (5 : Int32)))).2 (by decide) (by decide) ?_
        show Steps p.tables e below (T242.setTop (mkF m 187 #[.val (.int p0), .val (.int p1), .val (.ref b102), .val (.int (14 : Int32)), .val (.ref w_FLOOR_REQUEST_INFORMATION), .val (.int (0 : Int32)), .unset] [])) _
        refine XS.iloadN X242.here hx rfl (hb hby at_187) rfl ?_
        show Steps p.tables e below (T242.setTop (mkF m 188 #[.val (.int p0), .val (.int p1), .val (.ref b102), .val (.int (14 : Int32)), .val (.ref w_FLOOR_REQUEST_INFORMATION), .val (.int (0 : Int32)), .unset] [(.int (14 : Int32))])) _
        refine XS.bipush X242.here hx rfl (hb hby at_188) ?_
        show Steps p.tables e below (T242.setTop (mkF m 190 #[.val (.int p0), .val (.int p1), .val (.ref b102), .val (.int (14 : Int32)), .val (.ref w_FLOOR_REQUEST_INFORMATION), .val (.int (0 : Int32)), .unset] [(.int (13 : Int32)), (.int (14 : Int32))])) _
        refine XS.icmpYes X242.here hx rfl (pc0 := 190) (pc' := 205) rfl (hb hby at_190) rfl (flt (by decide : ¬ ((14 : Int32) < (13 : Int32)))).2.1 (by decide) (by decide) ?_
        show Steps p.tables e below (T242.setTop (mkF m 205 #[.val (.int p0), .val (.int p1), .val (.ref b102), .val (.int (14 : Int32)), .val (.ref w_FLOOR_REQUEST_INFORMATION), .val (.int (0 : Int32)), .unset] [])) _
        refine XS.iloadN X242.here hx rfl (hb hby at_205) rfl ?_
        show Steps p.tables e below (T242.setTop (mkF m 206 #[.val (.int p0), .val (.int p1), .val (.ref b102), .val (.int (14 : Int32)), .val (.ref w_FLOOR_REQUEST_INFORMATION), .val (.int (0 : Int32)), .unset] [(.int p1)])) _
        refine XS.iconst X242.here hx rfl (hb hby at_206) ?_
        show Steps p.tables e below (T242.setTop (mkF m 207 #[.val (.int p0), .val (.int p1), .val (.ref b102), .val (.int (14 : Int32)), .val (.ref w_FLOOR_REQUEST_INFORMATION), .val (.int (0 : Int32)), .unset] [(.int (2 : Int32)), (.int p1)])) _
        refine XS.icmpYes X242.here hx rfl (pc0 := 207) (pc' := 214) rfl (hb hby at_207) rfl (tlt hl241).1 (by decide) (by decide) ?_
        show Steps p.tables e below (T242.setTop (mkF m 214 #[.val (.int p0), .val (.int p1), .val (.ref b102), .val (.int (14 : Int32)), .val (.ref w_FLOOR_REQUEST_INFORMATION), .val (.int (0 : Int32)), .unset] [])) _
        refine XS.iconst X242.here hx rfl (hb hby at_214) ?_
        show Steps p.tables e below (T242.setTop (mkF m 215 #[.val (.int p0), .val (.int p1), .val (.ref b102), .val (.int (14 : Int32)), .val (.ref w_FLOOR_REQUEST_INFORMATION), .val (.int (0 : Int32)), .unset] [(.int (0 : Int32))])) _
        refine XS.istore X242.here hx rfl (hb hby at_215) rfl (l' := #[.val (.int p0), .val (.int p1), .val (.ref b102), .val (.int (14 : Int32)), .val (.ref w_FLOOR_REQUEST_INFORMATION), .val (.int (0 : Int32)), .val (.int (0 : Int32))]) rfl ?_
        show Steps p.tables e below (T242.setTop (mkF m 217 #[.val (.int p0), .val (.int p1), .val (.ref b102), .val (.int (14 : Int32)), .val (.ref w_FLOOR_REQUEST_INFORMATION), .val (.int (0 : Int32)), .val (.int (0 : Int32))] [])) _
        refine XS.iload X242.here hx rfl (hb hby at_217) rfl ?_
        show Steps p.tables e below (T242.setTop (mkF m 219 #[.val (.int p0), .val (.int p1), .val (.ref b102), .val (.int (14 : Int32)), .val (.ref w_FLOOR_REQUEST_INFORMATION), .val (.int (0 : Int32)), .val (.int (0 : Int32))] [(.int (0 : Int32))])) _
        refine XS.iload X242.here hx rfl (hb hby at_219) rfl ?_
        show Steps p.tables e below (T242.setTop (mkF m 221 #[.val (.int p0), .val (.int p1), .val (.ref b102), .val (.int (14 : Int32)), .val (.ref w_FLOOR_REQUEST_INFORMATION), .val (.int (0 : Int32)), .val (.int (0 : Int32))] [(.int (0 : Int32)), (.int (0 : Int32))])) _
        refine XS.icmpNo X242.here hx rfl (hb hby at_221) rfl (teq (by decide : (0 : Int32) = (0 : Int32))).2 ?_
        show Steps p.tables e below (T242.setTop (mkF m 224 #[.val (.int p0), .val (.int p1), .val (.ref b102), .val (.int (14 : Int32)), .val (.ref w_FLOOR_REQUEST_INFORMATION), .val (.int (0 : Int32)), .val (.int (0 : Int32))] [])) _
        refine XS.iconst X242.here hx rfl (hb hby at_224) ?_
        show Steps p.tables e below (T242.setTop (mkF m 225 #[.val (.int p0), .val (.int p1), .val (.ref b102), .val (.int (14 : Int32)), .val (.ref w_FLOOR_REQUEST_INFORMATION), .val (.int (0 : Int32)), .val (.int (0 : Int32))] [(.int (1 : Int32))])) _
        refine XS.goto X242.here hx rfl (pc0 := 225) (pc' := 229) rfl (hb hby at_225) (by decide) (by decide) ?_
        show Steps p.tables e below (T242.setTop (mkF m 229 #[.val (.int p0), .val (.int p1), .val (.ref b102), .val (.int (14 : Int32)), .val (.ref w_FLOOR_REQUEST_INFORMATION), .val (.int (0 : Int32)), .val (.int (0 : Int32))] [(.int (1 : Int32))])) _
        exact retN X242 hx (t := .boolean) Bd.returns (by simp) (hb hby at_229) hr
      · show own_Made (some (.int 1)) n0 _ T242.heap _
        rw [e242]
        exact ⟨rfl, N242, trivial⟩
    · skip
      obtain ⟨cq243, kq243, q243a, q243b, q243c⟩ := isOf hZ e156 ((E_FLOOR_REQUEST_INFORMATION.ext EX156))
      obtain ⟨_, _, ⟨T243, L243, k243, n243⟩, -, X243, ⟨Lc243, hQ243, l243, y243, z243⟩, st243⟩ := X156.virtualBack hx (y := (⟨"com/example/parley/parley/message/AttributeType", "accepts", "(I)Z"⟩ : MethodName)) (z := (⟨"com/example/parley/parley/message/AttributeType", "accepts", "(I)Z"⟩ : MethodName)) hown (mvT hZ (hw _ (List.mem_of_getElem? (i := 41) rfl))) (mvT hZ (hw _ (List.mem_of_getElem? (i := 42) rfl))) (notFace_of_selects (args := #[]) (mvT hZ (hw _ (List.mem_of_getElem? (i := 44) rfl)))) (mvT hZ (hw _ (List.mem_of_getElem? (i := 44) rfl))) (mvT hZ (hw _ (List.mem_of_getElem? (i := 43) rfl))) (by decide) (backOf (W := 0) (rm_acc_GROUPED l Z a0 hw [] w_FLOOR_REQUEST_INFORMATION p1 h156 n0 (Nat.le_trans Z0 EX156.1) w_GROUPED (F_FLOOR_REQUEST_INFORMATION_shape.ext EX156) (E_GROUPED.ext EX156) (F_GROUPED_ordinal.ext EX156) (1 : Int32) (if_neg hl241)) hZ (hw _ (List.mem_of_getElem? (i := 45) rfl)) (hw _ (List.mem_of_getElem? (i := 3) rfl)) (by decide) (by decide)) q243a q243c (g := (mkF m 142 #[.val (.int p0), .val (.int p1), .val (.ref b102), .val (.int (14 : Int32)), .val (.ref w_FLOOR_REQUEST_INFORMATION), .unset, .unset] [(.int p1), (.ref w_FLOOR_REQUEST_INFORMATION)])) rfl (by rw [hml]; rfl) (Steps.refl _) (argsL := [(.int p1)]) (rest := []) (lenOf pd_33 rfl) rfl (by show 2 * 0 + _ ≤ _; exact Nat.le_of_eq rfl) (hb hby at_142) (fun _ _ => ⟨rfl, e156, (by decide : 1 + 0 ≤ _), (by decide : 18 + 0 ≤ _)⟩)
      dsimp only [Pt.U, Pt.locs, Pt.cells, Pt.slots] at X243 l243 y243 z243 st243 hQ243
      subst l243 y243 z243
      obtain ⟨rfl, N243q, e243⟩ := hQ243
      have N243 := Fr.app N156 N243q
      obtain ⟨fs, hr, hrun, hended, hW, hsame⟩ := X243.leave (v := some (.int (1 : Int32))) (fun h => by rw [Bd.returns] at h; cases h)
      refine ⟨_, _, ck240 _ ?_, hrun, hended, _, _, rfl, ?_, ⟨_, rfl⟩, hW, hsame.mono (by decide) (by decide)⟩
      · show Steps p.tables e below (T156.setTop (mkF m 142 #[.val (.int p0), .val (.int p1), .val (.ref b102), .val (.int (14 : Int32)), .val (.ref w_FLOOR_REQUEST_INFORMATION), .unset, .unset] [(.int p1), (.ref w_FLOOR_REQUEST_INFORMATION)])) _
        refine st243.trans ?_
        show Steps p.tables e below (T243.setTop (mkF m 145 #[.val (.int p0), .val (.int p1), .val (.ref b102), .val (.int (14 : Int32)), .val (.ref w_FLOOR_REQUEST_INFORMATION), .unset, .unset] [(.int (1 : Int32))])) _
        refine XS.istore X243.here hx rfl (hb hby at_145) rfl (l' := #[.val (.int p0), .val (.int p1), .val (.ref b102), .val (.int (14 : Int32)), .val (.ref w_FLOOR_REQUEST_INFORMATION), .val (.int (1 : Int32)), .unset]) rfl ?_
        show Steps p.tables e below (T243.setTop (mkF m 147 #[.val (.int p0), .val (.int p1), .val (.ref b102), .val (.int (14 : Int32)), .val (.ref w_FLOOR_REQUEST_INFORMATION), .val (.int (1 : Int32)), .unset] [])) _
        refine XS.iloadN X243.here hx rfl (hb hby at_147) rfl ?_
        show Steps p.tables e below (T243.setTop (mkF m 148 #[.val (.int p0), .val (.int p1), .val (.ref b102), .val (.int (14 : Int32)), .val (.ref w_FLOOR_REQUEST_INFORMATION), .val (.int (1 : Int32)), .unset] [(.int (14 : Int32))])) _
        refine XS.iconst X243.here hx rfl (hb hby at_148) ?_
        show Steps p.tables e below (T243.setTop (mkF m 149 #[.val (.int p0), .val (.int p1), .val (.ref b102), .val (.int (14 : Int32)), .val (.ref w_FLOOR_REQUEST_INFORMATION), .val (.int (1 : Int32)), .unset] [(.int (5 : Int32)), (.int (14 : Int32))])) _
        refine XS.icmpYes X243.here hx rfl (pc0 := 149) (pc' := 167) rfl (hb hby at_149) rfl (flt (by decide : ¬ ((14 : Int32) < (5 : Int32)))).2.1 (by decide) (by decide) ?_
        show Steps p.tables e below (T243.setTop (mkF m 167 #[.val (.int p0), .val (.int p1), .val (.ref b102), .val (.int (14 : Int32)), .val (.ref w_FLOOR_REQUEST_INFORMATION), .val (.int (1 : Int32)), .unset] [])) _
        refine XS.iloadN X243.here hx rfl (hb hby at_167) rfl ?_
        show Steps p.tables e below (T243.setTop (mkF m 168 #[.val (.int p0), .val (.int p1), .val (.ref b102), .val (.int (14 : Int32)), .val (.ref w_FLOOR_REQUEST_INFORMATION), .val (.int (1 : Int32)), .unset] [(.int (14 : Int32))])) _
        refine XS.iconst X243.here hx rfl (hb hby at_168) ?_
        show Steps p.tables e below (T243.setTop (mkF m 169 #[.val (.int p0), .val (.int p1), .val (.ref b102), .val (.int (14 : Int32)), .val (.ref w_FLOOR_REQUEST_INFORMATION), .val (.int (1 : Int32)), .unset] [(.int (5 : Int32)), (.int (14 : Int32))])) _
        refine XS.icmpYes X243.here hx rfl (pc0 := 169) (pc' := 187) rfl (hb hby at_169) rfl (feq (by decide : ¬ ((14 : Int32) = (5 : Int32)))).2 (by decide) (by decide) ?_
        show Steps p.tables e below (T243.setTop (mkF m 187 #[.val (.int p0), .val (.int p1), .val (.ref b102), .val (.int (14 : Int32)), .val (.ref w_FLOOR_REQUEST_INFORMATION), .val (.int (1 : Int32)), .unset] [])) _
        refine XS.iloadN X243.here hx rfl (hb hby at_187) rfl ?_
        show Steps p.tables e below (T243.setTop (mkF m 188 #[.val (.int p0), .val (.int p1), .val (.ref b102), .val (.int (14 : Int32)), .val (.ref w_FLOOR_REQUEST_INFORMATION), .val (.int (1 : Int32)), .unset] [(.int (14 : Int32))])) _
        refine XS.bipush X243.here hx rfl (hb hby at_188) ?_
        show Steps p.tables e below (T243.setTop (mkF m 190 #[.val (.int p0), .val (.int p1), .val (.ref b102), .val (.int (14 : Int32)), .val (.ref w_FLOOR_REQUEST_INFORMATION), .val (.int (1 : Int32)), .unset] [(.int (13 : Int32)), (.int (14 : Int32))])) _
        refine XS.icmpYes X243.here hx rfl (pc0 := 190) (pc' := 205) rfl (hb hby at_190) rfl (flt (by decide : ¬ ((14 : Int32) < (13 : Int32)))).2.1 (by decide) (by decide) ?_
        show Steps p.tables e below (T243.setTop (mkF m 205 #[.val (.int p0), .val (.int p1), .val (.ref b102), .val (.int (14 : Int32)), .val (.ref w_FLOOR_REQUEST_INFORMATION), .val (.int (1 : Int32)), .unset] [])) _
        refine XS.iloadN X243.here hx rfl (hb hby at_205) rfl ?_
        show Steps p.tables e below (T243.setTop (mkF m 206 #[.val (.int p0), .val (.int p1), .val (.ref b102), .val (.int (14 : Int32)), .val (.ref w_FLOOR_REQUEST_INFORMATION), .val (.int (1 : Int32)), .unset] [(.int p1)])) _
        refine XS.iconst X243.here hx rfl (hb hby at_206) ?_
        show Steps p.tables e below (T243.setTop (mkF m 207 #[.val (.int p0), .val (.int p1), .val (.ref b102), .val (.int (14 : Int32)), .val (.ref w_FLOOR_REQUEST_INFORMATION), .val (.int (1 : Int32)), .unset] [(.int (2 : Int32)), (.int p1)])) _
        refine XS.icmpNo X243.here hx rfl (hb hby at_207) rfl (flt hl241).1 ?_
        show Steps p.tables e below (T243.setTop (mkF m 210 #[.val (.int p0), .val (.int p1), .val (.ref b102), .val (.int (14 : Int32)), .val (.ref w_FLOOR_REQUEST_INFORMATION), .val (.int (1 : Int32)), .unset] [])) _
        refine XS.iconst X243.here hx rfl (hb hby at_210) ?_
        show Steps p.tables e below (T243.setTop (mkF m 211 #[.val (.int p0), .val (.int p1), .val (.ref b102), .val (.int (14 : Int32)), .val (.ref w_FLOOR_REQUEST_INFORMATION), .val (.int (1 : Int32)), .unset] [(.int (1 : Int32))])) _
        refine XS.goto X243.here hx rfl (pc0 := 211) (pc' := 215) rfl (hb hby at_211) (by decide) (by decide) ?_
        show Steps p.tables e below (T243.setTop (mkF m 215 #[.val (.int p0), .val (.int p1), .val (.ref b102), .val (.int (14 : Int32)), .val (.ref w_FLOOR_REQUEST_INFORMATION), .val (.int (1 : Int32)), .unset] [(.int (1 : Int32))])) _
        refine XS.istore X243.here hx rfl (hb hby at_215) rfl (l' := #[.val (.int p0), .val (.int p1), .val (.ref b102), .val (.int (14 : Int32)), .val (.ref w_FLOOR_REQUEST_INFORMATION), .val (.int (1 : Int32)), .val (.int (1 : Int32))]) rfl ?_
        show Steps p.tables e below (T243.setTop (mkF m 217 #[.val (.int p0), .val (.int p1), .val (.ref b102), .val (.int (14 : Int32)), .val (.ref w_FLOOR_REQUEST_INFORMATION), .val (.int (1 : Int32)), .val (.int (1 : Int32))] [])) _
        refine XS.iload X243.here hx rfl (hb hby at_217) rfl ?_
        show Steps p.tables e below (T243.setTop (mkF m 219 #[.val (.int p0), .val (.int p1), .val (.ref b102), .val (.int (14 : Int32)), .val (.ref w_FLOOR_REQUEST_INFORMATION), .val (.int (1 : Int32)), .val (.int (1 : Int32))] [(.int (1 : Int32))])) _
        refine XS.iload X243.here hx rfl (hb hby at_219) rfl ?_
        show Steps p.tables e below (T243.setTop (mkF m 221 #[.val (.int p0), .val (.int p1), .val (.ref b102), .val (.int (14 : Int32)), .val (.ref w_FLOOR_REQUEST_INFORMATION), .val (.int (1 : Int32)), .val (.int (1 : Int32))] [(.int (1 : Int32)), (.int (1 : Int32))])) _
        refine XS.icmpNo X243.here hx rfl (hb hby at_221) rfl (teq (by decide : (1 : Int32) = (1 : Int32))).2 ?_
        show Steps p.tables e below (T243.setTop (mkF m 224 #[.val (.int p0), .val (.int p1), .val (.ref b102), .val (.int (14 : Int32)), .val (.ref w_FLOOR_REQUEST_INFORMATION), .val (.int (1 : Int32)), .val (.int (1 : Int32))] [])) _
        refine XS.iconst X243.here hx rfl (hb hby at_224) ?_
        show Steps p.tables e below (T243.setTop (mkF m 225 #[.val (.int p0), .val (.int p1), .val (.ref b102), .val (.int (14 : Int32)), .val (.ref w_FLOOR_REQUEST_INFORMATION), .val (.int (1 : Int32)), .val (.int (1 : Int32))] [(.int (1 : Int32))])) _
        refine XS.goto X243.here hx rfl (pc0 := 225) (pc' := 229) rfl (hb hby at_225) (by decide) (by decide) ?_
        show Steps p.tables e below (T243.setTop (mkF m 229 #[.val (.int p0), .val (.int p1), .val (.ref b102), .val (.int (14 : Int32)), .val (.ref w_FLOOR_REQUEST_INFORMATION), .val (.int (1 : Int32)), .val (.int (1 : Int32))] [(.int (1 : Int32))])) _
        exact retN X243 hx (t := .boolean) Bd.returns (by simp) (hb hby at_229) hr
      · show own_Made (some (.int 1)) n0 _ T243.heap _
        rw [e243]
        exact ⟨rfl, N243, trivial⟩
  · -- (15 : Int32)
    obtain ⟨cl244, Ar244, q244, S244, N244_, H244_, G244⟩ := V156
    have hin244 : ¬ ((15 : Int32) < 0 ∨ cl244.slots.size ≤ ((15 : Int32)).toNatClampNeg) := inb_of S244 ⟨by decide, by decide⟩
    have hat244 : cl244.slots[((15 : Int32)).toNatClampNeg]? = some (.ref w_REQUESTED_BY_INFORMATION) := Has.at H244_ hin244 rfl
    have ck245 : ∀ t, Steps p.tables e below (T156.setTop (mkF m 142 #[.val (.int p0), .val (.int p1), .val (.ref b102), .val (.int (15 : Int32)), .val (.ref w_REQUESTED_BY_INFORMATION), .unset, .unset] [(.int p1), (.ref w_REQUESTED_BY_INFORMATION)])) t → Steps p.tables e below (s₁.setTop (entryFrame m #[(.int p0), (.int p1)] maxLocals)) t := by
      intro t kt
      refine ck157 _ ?_
      show Steps p.tables e below (T156.setTop (mkF m 133 #[.val (.int p0), .val (.int p1), .val (.ref b102), .unset, .unset, .unset, .unset] [(.int ((p0 &&& (2147483647 : Int32)) % (18 : Int32)))])) _
      rw [hv173]
      show Steps p.tables e below (T156.setTop (mkF m 133 #[.val (.int p0), .val (.int p1), .val (.ref b102), .unset, .unset, .unset, .unset] [(.int (15 : Int32))])) _
      refine XS.istoreN X156.here hx rfl (hb hby at_133) rfl (l' := #[.val (.int p0), .val (.int p1), .val (.ref b102), .val (.int (15 : Int32)), .unset, .unset, .unset]) rfl ?_
      show Steps p.tables e below (T156.setTop (mkF m 134 #[.val (.int p0), .val (.int p1), .val (.ref b102), .val (.int (15 : Int32)), .unset, .unset, .unset] [])) _
      refine XS.aloadN X156.here hx rfl (hb hby at_134) rfl rfl ?_
      show Steps p.tables e below (T156.setTop (mkF m 135 #[.val (.int p0), .val (.int p1), .val (.ref b102), .val (.int (15 : Int32)), .unset, .unset, .unset] [(.ref b102)])) _
      refine XS.iloadN X156.here hx rfl (hb hby at_135) rfl ?_
      show Steps p.tables e below (T156.setTop (mkF m 136 #[.val (.int p0), .val (.int p1), .val (.ref b102), .val (.int (15 : Int32)), .unset, .unset, .unset] [(.int (15 : Int32)), (.ref b102)])) _
      refine X156.aaload hx (j := (15 : Int32)) (v := (.ref w_REQUESTED_BY_INFORMATION)) (by rw [e156]; exact Ar244.1) (State.isArrayOf_alike hZ.alike Ar244.2.1) rfl Ar244.2.2 hin244 hat244 (g := (mkF m 136 #[.val (.int p0), .val (.int p1), .val (.ref b102), .val (.int (15 : Int32)), .unset, .unset, .unset] [(.int (15 : Int32)), (.ref b102)])) rfl rfl (hb hby at_136) _ ?_
      show Steps p.tables e below (T156.setTop (mkF m 137 #[.val (.int p0), .val (.int p1), .val (.ref b102), .val (.int (15 : Int32)), .unset, .unset, .unset] [(.ref w_REQUESTED_BY_INFORMATION)])) _
      refine XS.astore X156.here hx rfl (hb hby at_137) rfl rfl (l' := #[.val (.int p0), .val (.int p1), .val (.ref b102), .val (.int (15 : Int32)), .val (.ref w_REQUESTED_BY_INFORMATION), .unset, .unset]) rfl ?_
      show Steps p.tables e below (T156.setTop (mkF m 139 #[.val (.int p0), .val (.int p1), .val (.ref b102), .val (.int (15 : Int32)), .val (.ref w_REQUESTED_BY_INFORMATION), .unset, .unset] [])) _
      refine XS.aload X156.here hx rfl (hb hby at_139) rfl rfl ?_
      show Steps p.tables e below (T156.setTop (mkF m 141 #[.val (.int p0), .val (.int p1), .val (.ref b102), .val (.int (15 : Int32)), .val (.ref w_REQUESTED_BY_INFORMATION), .unset, .unset] [(.ref w_REQUESTED_BY_INFORMATION)])) _
      refine XS.iloadN X156.here hx rfl (hb hby at_141) rfl ?_
      exact kt
    (try clear hat244); (try clear hin244); (try clear G244); (try clear H244_); (try clear N244_); (try clear S244); (try clear q244); (try clear Ar244); (try clear cl244)
    by_cases hl246 : p1 < (2 : Int32)
    · skip
      obtain ⟨cq247, kq247, q247a, q247b, q247c⟩ := isOf hZ e156 ((E_REQUESTED_BY_INFORMATION.ext EX156))
      obtain ⟨_, _, ⟨T247, L247, k247, n247⟩, -, X247, ⟨Lc247, hQ247, l247, y247, z247⟩, st247⟩ := X156.virtualBack hx (y := (⟨"com/example/parley/parley/message/AttributeType", "accepts", "(I)Z"⟩ : MethodName)) (z := (⟨"com/example/parley/parley/message/AttributeType", "accepts", "(I)Z"⟩ : MethodName)) hown (mvT hZ (hw _ (List.mem_of_getElem? (i := 41) rfl))) (mvT hZ (hw _ (List.mem_of_getElem? (i := 42) rfl))) (notFace_of_selects (args := #[]) (mvT hZ (hw _ (List.mem_of_getElem? (i := 44) rfl)))) (mvT hZ (hw _ (List.mem_of_getElem? (i := 44) rfl))) (mvT hZ (hw _ (List.mem_of_getElem? (i := 43) rfl))) (by decide) (backOf (W := 0) (rm_acc_GROUPED l Z a0 hw [] w_REQUESTED_BY_INFORMATION p1 h156 n0 (Nat.le_trans Z0 EX156.1) w_GROUPED (F_REQUESTED_BY_INFORMATION_shape.ext EX156) (E_GROUPED.ext EX156) (F_GROUPED_ordinal.ext EX156) (0 : Int32) (if_pos hl246)) hZ (hw _ (List.mem_of_getElem? (i := 45) rfl)) (hw _ (List.mem_of_getElem? (i := 3) rfl)) (by decide) (by decide)) q247a q247c (g := (mkF m 142 #[.val (.int p0), .val (.int p1), .val (.ref b102), .val (.int (15 : Int32)), .val (.ref w_REQUESTED_BY_INFORMATION), .unset, .unset] [(.int p1), (.ref w_REQUESTED_BY_INFORMATION)])) rfl (by rw [hml]; rfl) (Steps.refl _) (argsL := [(.int p1)]) (rest := []) (lenOf pd_33 rfl) rfl (by show 2 * 0 + _ ≤ _; exact Nat.le_of_eq rfl) (hb hby at_142) (fun _ _ => ⟨rfl, e156, (by decide : 1 + 0 ≤ _), (by decide : 18 + 0 ≤ _)⟩)
      dsimp only [Pt.U, Pt.locs, Pt.cells, Pt.slots] at X247 l247 y247 z247 st247 hQ247
      subst l247 y247 z247
      obtain ⟨rfl, N247q, e247⟩ := hQ247
      have N247 := Fr.app N156 N247q
      obtain ⟨fs, hr, hrun, hended, hW, hsame⟩ := X247.leave (v := some (.int (1 : Int32))) (fun h => by rw [Bd.returns] at h; cases h)
      refine ⟨_, _, ck245 _ ?_, hrun, hended, _, _, rfl, ?_, ⟨_, rfl⟩, hW, hsame.mono (by decide) (by decide)⟩
      · show Steps p.tables e below (T156.setTop (mkF m 142 #[.val (.int p0), .val (.int p1), .val (.ref b102), .val (.int (15 : Int32)), .val (.ref w_REQUESTED_BY_INFORMATION), .unset, .unset] [(.int p1), (.ref w_REQUESTED_BY_INFORMATION)])) _
        refine st247.trans ?_
        show Steps p.tables e below (T247.setTop (mkF m 145 #[.val (.int p0), .val (.int p1), .val (.ref b102), .val (.int (15 : Int32)), .val (.ref w_REQUESTED_BY_INFORMATION), .unset, .unset] [(.int (0 : Int32))])) _
        refine XS.istore X247.here hx rfl (hb hby at_145) rfl (l' := #[.val (.int p0), .val (.int p1), .val (.ref b102), .val (.int (15 : Int32)), .val (.ref w_REQUESTED_BY_INFORMATION), .val (.int (0 : Int32)), .unset]) rfl ?_
        show Steps p.tables e below (T247.setTop (mkF m 147 #[.val (.int p0), .val (.int p1), .val (.ref b102), .val (.int (15 : Int32)), .val (.ref w_REQUESTED_BY_INFORMATION), .val (.int (0 : Int32)), .unset] [])) _
        refine XS.iloadN X247.here hx rfl (hb hby at_147) rfl ?_
        show Steps p.tables e below (T247.setTop (mkF m 148 #[.val (.int p0), .val (.int p1), .val (.ref b102), .val (.int (15 : Int32)), .val (.ref w_REQUESTED_BY_INFORMATION), .val (.int (0 : Int32)), .unset] [(.int (15 : Int32))])) _
        refine XS.iconst X247.here hx rfl (hb hby at_148) ?_
        show Steps p.tables e below (T247.setTop (mkF m 149 #[.val (.int p0), .val (.int p1), .val (.ref b102), .val (.int (15 : Int32)), .val (.ref w_REQUESTED_BY_INFORMATION), .val (.int (0 : Int32)), .unset] [(.int (5 : Int32)), (.int (15 : Int32))])) _
        refine XS.icmpYes X247.here hx rfl (pc0 := 149) (pc' := 167) rfl (hb hby at_149) rfl (flt (by decide : ¬ ((15 : Int32) < (5 : Int32)))).2.1 (by decide) (by decide) ?_
        show Steps p.tables e below (T247.setTop (mkF m 167 #[.val (.int p0), .val (.int p1), .val (.ref b102), .val (.int (15 : Int32)), .val (.ref w_REQUESTED_BY_INFORMATION), .val (.int (0 : Int32)), .unset] [])) _
        refine XS.iloadN X247.here hx rfl (hb hby at_167) rfl ?_
        show Steps p.tables e below (T247.setTop (mkF m 168 #[.val (.int p0), .val (.int p1), .val (.ref b102), .val (.int (15 : Int32)), .val (.ref w_REQUESTED_BY_INFORMATION), .val (.int (0 : Int32)), .unset] [(.int (15 : Int32))])) _
        refine XS.iconst X247.here hx rfl (hb hby at_168) ?_
        show Steps p.tables e below (T247.setTop (mkF m 169 #[.val (.int p0), .val (.int p1), .val (.ref b102), .val (.int (15 : Int32)), .val (.ref w_REQUESTED_BY_INFORMATION), .val (.int (0 : Int32)), .unset] [(.int (5 : Int32)), (.int (15 : Int32))])) _
        refine XS.icmpYes X247.here hx rfl (pc0 := 169) (pc' := 187) rfl (hb hby at_169) rfl (feq (by decide : ¬ ((15 : Int32) = (5 : Int32)))).2 (by decide) (by decide) ?_
        show Steps p.tables e below (T247.setTop (mkF m 187 #[.val (.int p0), .val (.int p1), .val (.ref b102), .val (.int (15 : Int32)), .val (.ref w_REQUESTED_BY_INFORMATION), .val (.int (0 : Int32)), .unset] [])) _
        refine XS.iloadN X247.here hx rfl (hb hby at_187) rfl ?_
        show Steps p.tables e below (T247.setTop (mkF m 188 #[.val (.int p0), .val (.int p1), .val (.ref b102), .val (.int (15 : Int32)), .val (.ref w_REQUESTED_BY_INFORMATION), .val (.int (0 : Int32)), .unset] [(.int (15 : Int32))])) _
        refine XS.bipush X247.here hx rfl (hb hby at_188) ?_
        show Steps p.tables e below (T247.setTop (mkF m 190 #[.val (.int p0), .val (.int p1), .val (.ref b102), .val (.int (15 : Int32)), .val (.ref w_REQUESTED_BY_INFORMATION), .val (.int (0 : Int32)), .unset] [(.int (13 : Int32)), (.int (15 : Int32))])) _
        refine XS.icmpYes X247.here hx rfl (pc0 := 190) (pc' := 205) rfl (hb hby at_190) rfl (flt (by decide : ¬ ((15 : Int32) < (13 : Int32)))).2.1 (by decide) (by decide) ?_
        show Steps p.tables e below (T247.setTop (mkF m 205 #[.val (.int p0), .val (.int p1), .val (.ref b102), .val (.int (15 : Int32)), .val (.ref w_REQUESTED_BY_INFORMATION), .val (.int (0 : Int32)), .unset] [])) _
        refine XS.iloadN X247.here hx rfl (hb hby at_205) rfl ?_
        show Steps p.tables e below (T247.setTop (mkF m 206 #[.val (.int p0), .val (.int p1), .val (.ref b102), .val (.int (15 : Int32)), .val (.ref w_REQUESTED_BY_INFORMATION), .val (.int (0 : Int32)), .unset] [(.int p1)])) _
        refine XS.iconst X247.here hx rfl (hb hby at_206) ?_
        show Steps p.tables e below (T247.setTop (mkF m 207 #[.val (.int p0), .val (.int p1), .val (.ref b102), .val (.int (15 : Int32)), .val (.ref w_REQUESTED_BY_INFORMATION), .val (.int (0 : Int32)), .unset] [(.int (2 : Int32)), (.int p1)])) _
        refine XS.icmpYes X247.here hx rfl (pc0 := 207) (pc' := 214) rfl (hb hby at_207) rfl (tlt hl246).1 (by decide) (by decide) ?_
        show Steps p.tables e below (T247.setTop (mkF m 214 #[.val (.int p0), .val (.int p1), .val (.ref b102), .val (.int (15 : Int32)), .val (.ref w_REQUESTED_BY_INFORMATION), .val (.int (0 : Int32)), .unset] [])) _
        refine XS.iconst X247.here hx rfl (hb hby at_214) ?_
        show Steps p.tables e below (T247.setTop (mkF m 215 #[.val (.int p0), .val (.int p1), .val (.ref b102), .val (.int (15 : Int32)), .val (.ref w_REQUESTED_BY_INFORMATION), .val (.int (0 : Int32)), .unset] [(.int (0 : Int32))])) _
        refine XS.istore X247.here hx rfl (hb hby at_215) rfl (l' := #[.val (.int p0), .val (.int p1), .val (.ref b102), .val (.int (15 : Int32)), .val (.ref w_REQUESTED_BY_INFORMATION), .val (.int (0 : Int32)), .val (.int (0 : Int32))]) rfl ?_
        show Steps p.tables e below (T247.setTop (mkF m 217 #[.val (.int p0), .val (.int p1), .val (.ref b102), .val (.int (15 : Int32)), .val (.ref w_REQUESTED_BY_INFORMATION), .val (.int (0 : Int32)), .val (.int (0 : Int32))] [])) _
        refine XS.iload X247.here hx rfl (hb hby at_217) rfl ?_
        show Steps p.tables e below (T247.setTop (mkF m 219 #[.val (.int p0), .val (.int p1), .val (.ref b102), .val (.int (15 : Int32)), .val (.ref w_REQUESTED_BY_INFORMATION), .val (.int (0 : Int32)), .val (.int (0 : Int32))] [(.int (0 : Int32))])) _
        refine XS.iload X247.here hx rfl (hb hby at_219) rfl ?_
        show Steps p.tables e below (T247.setTop (mkF m 221 #[.val (.int p0), .val (.int p1), .val (.ref b102), .val (.int (15 : Int32)), .val (.ref w_REQUESTED_BY_INFORMATION), .val (.int (0 : Int32)), .val (.int (0 : Int32))] [(.int (0 : Int32)), (.int (0 : Int32))])) _
        refine XS.icmpNo X247.here hx rfl (hb hby at_221) rfl (teq (by decide : (0 : Int32) = (0 : Int32))).2 ?_
        show Steps p.tables e below (T247.setTop (mkF m 224 #[.val (.int p0), .val (.int p1), .val (.ref b102), .val (.int (15 : Int32)), .val (.ref w_REQUESTED_BY_INFORMATION), .val (.int (0 : Int32)), .val (.int (0 : Int32))] [])) _
        refine XS.iconst X247.here hx rfl (hb hby at_224) ?_
        show Steps p.tables e below (T247.setTop (mkF m 225 #[.val (.int p0), .val (.int p1), .val (.ref b102), .val (.int (15 : Int32)), .val (.ref w_REQUESTED_BY_INFORMATION), .val (.int (0 : Int32)), .val (.int (0 : Int32))] [(.int (1 : Int32))])) _
        refine XS.goto X247.here hx rfl (pc0 := 225) (pc' := 229) rfl (hb hby at_225) (by decide) (by decide) ?_
        show Steps p.tables e below (T247.setTop (mkF m 229 #[.val (.int p0), .val (.int p1), .val (.ref b102), .val (.int (15 : Int32)), .val (.ref w_REQUESTED_BY_INFORMATION), .val (.int (0 : Int32)), .val (.int (0 : Int32))] [(.int (1 : Int32))])) _
        exact retN X247 hx (t := .boolean) Bd.returns (by simp) (hb hby at_229) hr
      · show own_Made (some (.int 1)) n0 _ T247.heap _
        rw [e247]
        exact ⟨rfl, N247, trivial⟩
    · skip
      obtain ⟨cq248, kq248, q248a, q248b, q248c⟩ := isOf hZ e156 ((E_REQUESTED_BY_INFORMATION.ext EX156))
      obtain ⟨_, _, ⟨T248, L248, k248, n248⟩, -, X248, ⟨Lc248, hQ248, l248, y248, z248⟩, st248⟩ := X156.virtualBack hx (y := (⟨"com/example/parley/parley/message/AttributeType", "accepts", "(I)Z"⟩ : MethodName)) (z := (⟨"com/example/parley/parley/message/AttributeType", "accepts", "(I)Z"⟩ : MethodName)) hown (mvT hZ (hw _ (List.mem_of_getElem? (i := 41) rfl))) (mvT hZ (hw _ (List.mem_of_getElem? (i := 42) rfl))) (notFace_of_selects (args := #[]) (mvT hZ (hw _ (List.mem_of_getElem? (i := 44) rfl)))) (mvT hZ (hw _ (List.mem_of_getElem? (i := 44) rfl))) (mvT hZ (hw _ (List.mem_of_getElem? (i := 43) rfl))) (by decide) (backOf (W := 0) (rm_acc_GROUPED l Z a0 hw [] w_REQUESTED_BY_INFORMATION p1 h156 n0 (Nat.le_trans Z0 EX156.1) w_GROUPED (F_REQUESTED_BY_INFORMATION_shape.ext EX156) (E_GROUPED.ext EX156) (F_GROUPED_ordinal.ext EX156) (1 : Int32) (if_neg hl246)) hZ (hw _ (List.mem_of_getElem? (i := 45) rfl)) (hw _ (List.mem_of_getElem? (i := 3) rfl)) (by decide) (by decide)) q248a q248c (g := (mkF m 142 #[.val (.int p0), .val (.int p1), .val (.ref b102), .val (.int (15 : Int32)), .val (.ref w_REQUESTED_BY_INFORMATION), .unset, .unset] [(.int p1), (.ref w_REQUESTED_BY_INFORMATION)])) rfl (by rw [hml]; rfl) (Steps.refl _) (argsL := [(.int p1)]) (rest := []) (lenOf pd_33 rfl) rfl (by show 2 * 0 + _ ≤ _; exact Nat.le_of_eq rfl) (hb hby at_142) (fun _ _ => ⟨rfl, e156, (by decide : 1 + 0 ≤ _), (by decide : 18 + 0 ≤ _)⟩)
      dsimp only [Pt.U, Pt.locs, Pt.cells, Pt.slots] at X248 l248 y248 z248 st248 hQ248
      subst l248 y248 z248
      obtain ⟨rfl, N248q, e248⟩ := hQ248
      have N248 := Fr.app N156 N248q
      obtain ⟨fs, hr, hrun, hended, hW, hsame⟩ := X248.leave (v := some (.int (1 : Int32))) (fun h => by rw [Bd.returns] at h; cases h)
      refine ⟨_, _, ck245 _ ?_, hrun, hended, _, _, rfl, ?_, ⟨_, rfl⟩, hW, hsame.mono (by decide) (by decide)⟩
      · show Steps p.tables e below (T156.setTop (mkF m 142 #[.val (.int p0), .val (.int p1), .val (.ref b102), .val (.int (15 : Int32)), .val (.ref w_REQUESTED_BY_INFORMATION), .unset, .unset] [(.int p1), (.ref w_REQUESTED_BY_INFORMATION)])) _
        refine st248.trans ?_
        show Steps p.tables e below (T248.setTop (mkF m 145 #[.val (.int p0), .val (.int p1), .val (.ref b102), .val (.int (15 : Int32)), .val (.ref w_REQUESTED_BY_INFORMATION), .unset, .unset] [(.int (1 : Int32))])) _
        refine XS.istore X248.here hx rfl (hb hby at_145) rfl (l' := #[.val (.int p0), .val (.int p1), .val (.ref b102), .val (.int (15 : Int32)), .val (.ref w_REQUESTED_BY_INFORMATION), .val (.int (1 : Int32)), .unset]) rfl ?_
        show Steps p.tables e below (T248.setTop (mkF m 147 #[.val (.int p0), .val (.int p1), .val (.ref b102), .val (.int (15 : Int32)), .val (.ref w_REQUESTED_BY_INFORMATION), .val (.int (1 : Int32)), .unset] [])) _
        refine XS.iloadN X248.here hx rfl (hb hby at_147) rfl ?_
        show Steps p.tables e below (T248.setTop (mkF m 148 #[.val (.int p0), .val (.int p1), .val (.ref b102), .val (.int (15 : Int32)), .val (.ref w_REQUESTED_BY_INFORMATION), .val (.int (1 : Int32)), .unset] [(.int (15 : Int32))])) _
        refine XS.iconst X248.here hx rfl (hb hby at_148) ?_
        show Steps p.tables e below (T248.setTop (mkF m 149 #[.val (.int p0), .val (.int p1), .val (.ref b102), .val (.int (15 : Int32)), .val (.ref w_REQUESTED_BY_INFORMATION), .val (.int (1 : Int32)), .unset] [(.int (5 : Int32)), (.int (15 : Int32))])) _
        refine XS.icmpYes X248.here hx rfl (pc0 := 149) (pc' := 167) rfl (hb hby at_149) rfl (flt (by decide : ¬ ((15 : Int32) < (5 : Int32)))).2.1 (by decide) (by decide) ?_
        show Steps p.tables e below (T248.setTop (mkF m 167 #[.val (.int p0), .val (.int p1), .val (.ref b102), .val (.int (15 : Int32)), .val (.ref w_REQUESTED_BY_INFORMATION), .val (.int (1 : Int32)), .unset] [])) _
        refine XS.iloadN X248.here hx rfl (hb hby at_167) rfl ?_
        show Steps p.tables e below (T248.setTop (mkF m 168 #[.val (.int p0), .val (.int p1), .val (.ref b102), .val (.int (15 : Int32)), .val (.ref w_REQUESTED_BY_INFORMATION), .val (.int (1 : Int32)), .unset] [(.int (15 : Int32))])) _
        refine XS.iconst X248.here hx rfl (hb hby at_168) ?_
        show Steps p.tables e below (T248.setTop (mkF m 169 #[.val (.int p0), .val (.int p1), .val (.ref b102), .val (.int (15 : Int32)), .val (.ref w_REQUESTED_BY_INFORMATION), .val (.int (1 : Int32)), .unset] [(.int (5 : Int32)), (.int (15 : Int32))])) _
        refine XS.icmpYes X248.here hx rfl (pc0 := 169) (pc' := 187) rfl (hb hby at_169) rfl (feq (by decide : ¬ ((15 : Int32) = (5 : Int32)))).2 (by decide) (by decide) ?_
        show Steps p.tables e below (T248.setTop (mkF m 187 #[.val (.int p0), .val (.int p1), .val (.ref b102), .val (.int (15 : Int32)), .val (.ref w_REQUESTED_BY_INFORMATION), .val (.int (1 : Int32)), .unset] [])) _
        refine XS.iloadN X248.here hx rfl (hb hby at_187) rfl ?_
        show Steps p.tables e below (T248.setTop (mkF m 188 #[.val (.int p0), .val (.int p1), .val (.ref b102), .val (.int (15 : Int32)), .val (.ref w_REQUESTED_BY_INFORMATION), .val (.int (1 : Int32)), .unset] [(.int (15 : Int32))])) _
        refine XS.bipush X248.here hx rfl (hb hby at_188) ?_
        show Steps p.tables e below (T248.setTop (mkF m 190 #[.val (.int p0), .val (.int p1), .val (.ref b102), .val (.int (15 : Int32)), .val (.ref w_REQUESTED_BY_INFORMATION), .val (.int (1 : Int32)), .unset] [(.int (13 : Int32)), (.int (15 : Int32))])) _
        refine XS.icmpYes X248.here hx rfl (pc0 := 190) (pc' := 205) rfl (hb hby at_190) rfl (flt (by decide : ¬ ((15 : Int32) < (13 : Int32)))).2.1 (by decide) (by decide) ?_
        show Steps p.tables e below (T248.setTop (mkF m 205 #[.val (.int p0), .val (.int p1), .val (.ref b102), .val (.int (15 : Int32)), .val (.ref w_REQUESTED_BY_INFORMATION), .val (.int (1 : Int32)), .unset] [])) _
        refine XS.iloadN X248.here hx rfl (hb hby at_205) rfl ?_
        show Steps p.tables e below (T248.setTop (mkF m 206 #[.val (.int p0), .val (.int p1), .val (.ref b102), .val (.int (15 : Int32)), .val (.ref w_REQUESTED_BY_INFORMATION), .val (.int (1 : Int32)), .unset] [(.int p1)])) _
        refine XS.iconst X248.here hx rfl (hb hby at_206) ?_
        show Steps p.tables e below (T248.setTop (mkF m 207 #[.val (.int p0), .val (.int p1), .val (.ref b102), .val (.int (15 : Int32)), .val (.ref w_REQUESTED_BY_INFORMATION), .val (.int (1 : Int32)), .unset] [(.int (2 : Int32)), (.int p1)])) _
        refine XS.icmpNo X248.here hx rfl (hb hby at_207) rfl (flt hl246).1 ?_
        show Steps p.tables e below (T248.setTop (mkF m 210 #[.val (.int p0), .val (.int p1), .val (.ref b102), .val (.int (15 : Int32)), .val (.ref w_REQUESTED_BY_INFORMATION), .val (.int (1 : Int32)), .unset] [])) _
        refine XS.iconst X248.here hx rfl (hb hby at_210) ?_
        show Steps p.tables e below (T248.setTop (mkF m 211 #[.val (.int p0), .val (.int p1), .val (.ref b102), .val (.int (15 : Int32)), .val (.ref w_REQUESTED_BY_INFORMATION), .val (.int (1 : Int32)), .unset] [(.int (1 : Int32))])) _
        refine XS.goto X248.here hx rfl (pc0 := 211) (pc' := 215) rfl (hb hby at_211) (by decide) (by decide) ?_
        show Steps p.tables e below (T248.setTop (mkF m 215 #[.val (.int p0), .val (.int p1), .val (.ref b102), .val (.int (15 : Int32)), .val (.ref w_REQUESTED_BY_INFORMATION), .val (.int (1 : Int32)), .unset] [(.int (1 : Int32))])) _
        refine XS.istore X248.here hx rfl (hb hby at_215) rfl (l' := #[.val (.int p0), .val (.int p1), .val (.ref b102), .val (.int (15 : Int32)), .val (.ref w_REQUESTED_BY_INFORMATION), .val (.int (1 : Int32)), .val (.int (1 : Int32))]) rfl ?_
        show Steps p.tables e below (T248.setTop (mkF m 217 #[.val (.int p0), .val (.int p1), .val (.ref b102), .val (.int (15 : Int32)), .val (.ref w_REQUESTED_BY_INFORMATION), .val (.int (1 : Int32)), .val (.int (1 : Int32))] [])) _
        refine XS.iload X248.here hx rfl (hb hby at_217) rfl ?_
        show Steps p.tables e below (T248.setTop (mkF m 219 #[.val (.int p0), .val (.int p1), .val (.ref b102), .val (.int (15 : Int32)), .val (.ref w_REQUESTED_BY_INFORMATION), .val (.int (1 : Int32)), .val (.int (1 : Int32))] [(.int (1 : Int32))])) _
        refine XS.iload X248.here hx rfl (hb hby at_219) rfl ?_
        show Steps p.tables e below (T248.setTop (mkF m 221 #[.val (.int p0), .val (.int p1), .val (.ref b102), .val (.int (15 : Int32)), .val (.ref w_REQUESTED_BY_INFORMATION), .val (.int (1 : Int32)), .val (.int (1 : Int32))] [(.int (1 : Int32)), (.int (1 : Int32))])) _
        refine XS.icmpNo X248.here hx rfl (hb hby at_221) rfl (teq (by decide : (1 : Int32) = (1 : Int32))).2 ?_
        show Steps p.tables e below (T248.setTop (mkF m 224 #[.val (.int p0), .val (.int p1), .val (.ref b102), .val (.int (15 : Int32)), .val (.ref w_REQUESTED_BY_INFORMATION), .val (.int (1 : Int32)), .val (.int (1 : Int32))] [])) _
        refine XS.iconst X248.here hx rfl (hb hby at_224) ?_
        show Steps p.tables e below (T248.setTop (mkF m 225 #[.val (.int p0), .val (.int p1), .val (.ref b102), .val (.int (15 : Int32)), .val (.ref w_REQUESTED_BY_INFORMATION), .val (.int (1 : Int32)), .val (.int (1 : Int32))] [(.int (1 : Int32))])) _
        refine XS.goto X248.here hx rfl (pc0 := 225) (pc' := 229) rfl (hb hby at_225) (by decide) (by decide) ?_
        show Steps p.tables e below (T248.setTop (mkF m 229 #[.val (.int p0), .val (.int p1), .val (.ref b102), .val (.int (15 : Int32)), .val (.ref w_REQUESTED_BY_INFORMATION), .val (.int (1 : Int32)), .val (.int (1 : Int32))] [(.int (1 : Int32))])) _
        exact retN X248 hx (t := .boolean) Bd.returns (by simp) (hb hby at_229) hr
      · show own_Made (some (.int 1)) n0 _ T248.heap _
        rw [e248]
        exact ⟨rfl, N248, trivial⟩
  · -- (16 : Int32)
    obtain ⟨cl249, Ar249, q249, S249, N249_, H249_, G249⟩ := V156
    have hin249 : ¬ ((16 : Int32) < 0 ∨ cl249.slots.size ≤ ((16 : Int32)).toNatClampNeg) := inb_of S249 ⟨by decide, by decide⟩
    have hat249 : cl249.slots[((16 : Int32)).toNatClampNeg]? = some (.ref w_FLOOR_REQUEST_STATUS) := Has.at H249_ hin249 rfl
    have ck250 : ∀ t, Steps p.tables e below (T156.setTop (mkF m 142 #[.val (.int p0), .val (.int p1), .val (.ref b102), .val (.int (16 : Int32)), .val (.ref w_FLOOR_REQUEST_STATUS), .unset, .unset] [(.int p1), (.ref w_FLOOR_REQUEST_STATUS)])) t → Steps p.tables e below (s₁.setTop (entryFrame m #[(.int p0), (.int p1)] maxLocals)) t := by
      intro t kt
      refine ck157 _ ?_
      show Steps p.tables e below (T156.setTop (mkF m 133 #[.val (.int p0), .val (.int p1), .val (.ref b102), .unset, .unset, .unset, .unset] [(.int ((p0 &&& (2147483647 : Int32)) % (18 : Int32)))])) _
      rw [hv174]
      show Steps p.tables e below (T156.setTop (mkF m 133 #[.val (.int p0), .val (.int p1), .val (.ref b102), .unset, .unset, .unset, .unset] [(.int (16 : Int32))])) _
      refine XS.istoreN X156.here hx rfl (hb hby at_133) rfl (l' := #[.val (.int p0), .val (.int p1), .val (.ref b102), .val (.int (16 : Int32)), .unset, .unset, .unset]) rfl ?_
      show Steps p.tables e below (T156.setTop (mkF m 134 #[.val (.int p0), .val (.int p1), .val (.ref b102), .val (.int (16 : Int32)), .unset, .unset, .unset] [])) _
      refine XS.aloadN X156.here hx rfl (hb hby at_134) rfl rfl ?_
      show Steps p.tables e below (T156.setTop (mkF m 135 #[.val (.int p0), .val (.int p1), .val (.ref b102), .val (.int (16 : Int32)), .unset, .unset, .unset] [(.ref b102)])) _
      refine XS.iloadN X156.here hx rfl (hb hby at_135) rfl ?_
      show Steps p.tables e below (T156.setTop (mkF m 136 #[.val (.int p0), .val (.int p1), .val (.ref b102), .val (.int (16 : Int32)), .unset, .unset, .unset] [(.int (16 : Int32)), (.ref b102)])) _
      refine X156.aaload hx (j := (16 : Int32)) (v := (.ref w_FLOOR_REQUEST_STATUS)) (by rw [e156]; exact Ar249.1) (State.isArrayOf_alike hZ.alike Ar249.2.1) rfl Ar249.2.2 hin249 hat249 (g := (mkF m 136 #[.val (.int p0), .val (.int p1), .val (.ref b102), .val (.int (16 : Int32)), .unset, .unset, .unset] [(.int (16 : Int32)), (.ref b102)])) rfl rfl (hb hby at_136) _ ?_
      show Steps p.tables e below (T156.setTop (mkF m 137 #[.val (.int p0), .val (.int p1), .val (.ref b102), .val (.int (16 : Int32)), .unset, .unset, .unset] [(.ref w_FLOOR_REQUEST_STATUS)])) _
      refine XS.astore X156.here hx rfl (hb hby at_137) rfl rfl (l' := #[.val (.int p0), .val (.int p1), .val (.ref b102), .val (.int (16 : Int32)), .val (.ref w_FLOOR_REQUEST_STATUS), .unset, .unset]) rfl ?_
      show Steps p.tables e below (T156.setTop (mkF m 139 #[.val (.int p0), .val (.int p1), .val (.ref b102), .val (.int (16 : Int32)), .val (.ref w_FLOOR_REQUEST_STATUS), .unset, .unset] [])) _
      refine XS.aload X156.here hx rfl (hb hby at_139) rfl rfl ?_
      show Steps p.tables e below (T156.setTop (mkF m 141 #[.val (.int p0), .val (.int p1), .val (.ref b102), .val (.int (16 : Int32)), .val (.ref w_FLOOR_REQUEST_STATUS), .unset, .unset] [(.ref w_FLOOR_REQUEST_STATUS)])) _
      refine XS.iloadN X156.here hx rfl (hb hby at_141) rfl ?_
      exact kt
    (try clear hat249); (try clear hin249); (try clear G249); (try clear H249_); (try clear N249_); (try clear S249); (try clear q249); (try clear Ar249); (try clear cl249)
    by_cases hl251 : p1 < (2 : Int32)
    · skip
      obtain ⟨cq252, kq252, q252a, q252b, q252c⟩ := isOf hZ e156 ((E_FLOOR_REQUEST_STATUS.ext EX156))
      obtain ⟨_, _, ⟨T252, L252, k252, n252⟩, -, X252, ⟨Lc252, hQ252, l252, y252, z252⟩, st252⟩ := X156.virtualBack hx (y := (⟨"com/example/parley/parley/message/AttributeType", "accepts", "(I)Z"⟩ : MethodName)) (z := (⟨"com/example/parley/parley/message/AttributeType", "accepts", "(I)Z"⟩ : MethodName)) hown (mvT hZ (hw _ (List.mem_of_getElem? (i := 41) rfl))) (mvT hZ (hw _ (List.mem_of_getElem? (i := 42) rfl))) (notFace_of_selects (args := #[]) (mvT hZ (hw _ (List.mem_of_getElem? (i := 44) rfl)))) (mvT hZ (hw _ (List.mem_of_getElem? (i := 44) rfl))) (mvT hZ (hw _ (List.mem_of_getElem? (i := 43) rfl))) (by decide) (backOf (W := 0) (rm_acc_GROUPED l Z a0 hw [] w_FLOOR_REQUEST_STATUS p1 h156 n0 (Nat.le_trans Z0 EX156.1) w_GROUPED (F_FLOOR_REQUEST_STATUS_shape.ext EX156) (E_GROUPED.ext EX156) (F_GROUPED_ordinal.ext EX156) (0 : Int32) (if_pos hl251)) hZ (hw _ (List.mem_of_getElem? (i := 45) rfl)) (hw _ (List.mem_of_getElem? (i := 3) rfl)) (by decide) (by decide)) q252a q252c (g := (mkF m 142 #[.val (.int p0), .val (.int p1), .val (.ref b102), .val (.int (16 : Int32)), .val (.ref w_FLOOR_REQUEST_STATUS), .unset, .unset] [(.int p1), (.ref w_FLOOR_REQUEST_STATUS)])) rfl (by rw [hml]; rfl) (Steps.refl _) (argsL := [(.int p1)]) (rest := []) (lenOf pd_33 rfl) rfl (by show 2 * 0 + _ ≤ _; exact Nat.le_of_eq rfl) (hb hby at_142) (fun _ _ => ⟨rfl, e156, (by decide : 1 + 0 ≤ _), (by decide : 18 + 0 ≤ _)⟩)
      dsimp only [Pt.U, Pt.locs, Pt.cells, Pt.slots] at X252 l252 y252 z252 st252 hQ252
      subst l252 y252 z252
      obtain ⟨rfl, N252q, e252⟩ := hQ252
      have N252 := Fr.app N156 N252q
      obtain ⟨fs, hr, hrun, hended, hW, hsame⟩ := X252.leave (v := some (.int (1 : Int32))) (fun h => by rw [Bd.returns] at h; cases h)
      refine ⟨_, _, ck250 _ ?_, hrun, hended, _, _, rfl, ?_, ⟨_, rfl⟩, hW, hsame.mono (by decide) (by decide)⟩
      · show Steps p.tables e below (T156.setTop (mkF m 142 #[.val (.int p0), .val (.int p1), .val (.ref b102), .val (.int (16 : Int32)), .val (.ref w_FLOOR_REQUEST_STATUS), .unset, .unset] [(.int p1), (.ref w_FLOOR_REQUEST_STATUS)])) _
        refine st252.trans ?_
        show Steps p.tables e below (T252.setTop (mkF m 145 #[.val (.int p0), .val (.int p1), .val (.ref b102), .val (.int (16 : Int32)), .val (.ref w_FLOOR_REQUEST_STATUS), .unset, .unset] [(.int (0 : Int32))])) _
        refine XS.istore X252.here hx rfl (hb hby at_145) rfl (l' := #[.val (.int p0), .val (.int p1), .val (.ref b102), .val (.int (16 : Int32)), .val (.ref w_FLOOR_REQUEST_STATUS), .val (.int (0 : Int32)), .unset]) rfl ?_
        show Steps p.tables e below (T252.setTop (mkF m 147 #[.val (.int p0), .val (.int p1), .val (.ref b102), .val (.int (16 : Int32)), .val (.ref w_FLOOR_REQUEST_STATUS), .val (.int (0 : Int32)), .unset] [])) _
        refine XS.iloadN X252.here hx rfl (hb hby at_147) rfl ?_
        show Steps p.tables e below (T252.setTop (mkF m 148 #[.val (.int p0), .val (.int p1), .val (.ref b102), .val (.int (16 : Int32)), .val (.ref w_FLOOR_REQUEST_STATUS), .val (.int (0 : Int32)), .unset] [(.int (16 : Int32))])) _
        refine XS.iconst X252.here hx rfl (hb hby at_148) ?_
        show Steps p.tables e below (T252.setTop (mkF m 149 #[.val (.int p0), .val (.int p1), .val (.ref b102), .val (.int (16 : Int32)), .val (.ref w_FLOOR_REQUEST_STATUS), .val (.int (0 : Int32)), .unset] [(.int (5 : Int32)), (.int (16 : Int32))])) _
        refine XS.icmpYes X252.here hx rfl (pc0 := 149) (pc' := 167) rfl (hb hby at_149) rfl (flt (by decide : ¬ ((16 : Int32) < (5 : Int32)))).2.1 (by decide) (by decide) ?_
        show Steps p.tables e below (T252.setTop (mkF m 167 #[.val (.int p0), .val (.int p1), .val (.ref b102), .val (.int (16 : Int32)), .val (.ref w_FLOOR_REQUEST_STATUS), .val (.int (0 : Int32)), .unset] [])) _
        refine XS.iloadN X252.here hx rfl (hb hby at_167) rfl ?_
        show Steps p.tables e below (T252.setTop (mkF m 168 #[.val (.int p0), .val (.int p1), .val (.ref b102), .val (.int (16 : Int32)), .val (.ref w_FLOOR_REQUEST_STATUS), .val (.int (0 : Int32)), .unset] [(.int (16 : Int32))])) _
        refine XS.iconst X252.here hx rfl (hb hby at_168) ?_
        show Steps p.tables e below (T252.setTop (mkF m 169 #[.val (.int p0), .val (.int p1), .val (.ref b102), .val (.int (16 : Int32)), .val (.ref w_FLOOR_REQUEST_STATUS), .val (.int (0 : Int32)), .unset] [(.int (5 : Int32)), (.int (16 : Int32))])) _
        refine XS.icmpYes X252.here hx rfl (pc0 := 169) (pc' := 187) rfl (hb hby at_169) rfl (feq (by decide : ¬ ((16 : Int32) = (5 : Int32)))).2 (by decide) (by decide) ?_
        show Steps p.tables e below (T252.setTop (mkF m 187 #[.val (.int p0), .val (.int p1), .val (.ref b102), .val (.int (16 : Int32)), .val (.ref w_FLOOR_REQUEST_STATUS), .val (.int (0 : Int32)), .unset] [])) _
        refine XS.iloadN X252.here hx rfl (hb hby at_187) rfl ?_
        show Steps p.tables e below (T252.setTop (mkF m 188 #[.val (.int p0), .val (.int p1), .val (.ref b102), .val (.int (16 : Int32)), .val (.ref w_FLOOR_REQUEST_STATUS), .val (.int (0 : Int32)), .unset] [(.int (16 : Int32))])) _
        refine XS.bipush X252.here hx rfl (hb hby at_188) ?_
        show Steps p.tables e below (T252.setTop (mkF m 190 #[.val (.int p0), .val (.int p1), .val (.ref b102), .val (.int (16 : Int32)), .val (.ref w_FLOOR_REQUEST_STATUS), .val (.int (0 : Int32)), .unset] [(.int (13 : Int32)), (.int (16 : Int32))])) _
        refine XS.icmpYes X252.here hx rfl (pc0 := 190) (pc' := 205) rfl (hb hby at_190) rfl (flt (by decide : ¬ ((16 : Int32) < (13 : Int32)))).2.1 (by decide) (by decide) ?_
        show Steps p.tables e below (T252.setTop (mkF m 205 #[.val (.int p0), .val (.int p1), .val (.ref b102), .val (.int (16 : Int32)), .val (.ref w_FLOOR_REQUEST_STATUS), .val (.int (0 : Int32)), .unset] [])) _
        refine XS.iloadN X252.here hx rfl (hb hby at_205) rfl ?_
        show Steps p.tables e below (T252.setTop (mkF m 206 #[.val (.int p0), .val (.int p1), .val (.ref b102), .val (.int (16 : Int32)), .val (.ref w_FLOOR_REQUEST_STATUS), .val (.int (0 : Int32)), .unset] [(.int p1)])) _
        refine XS.iconst X252.here hx rfl (hb hby at_206) ?_
        show Steps p.tables e below (T252.setTop (mkF m 207 #[.val (.int p0), .val (.int p1), .val (.ref b102), .val (.int (16 : Int32)), .val (.ref w_FLOOR_REQUEST_STATUS), .val (.int (0 : Int32)), .unset] [(.int (2 : Int32)), (.int p1)])) _
        refine XS.icmpYes X252.here hx rfl (pc0 := 207) (pc' := 214) rfl (hb hby at_207) rfl (tlt hl251).1 (by decide) (by decide) ?_
        show Steps p.tables e below (T252.setTop (mkF m 214 #[.val (.int p0), .val (.int p1), .val (.ref b102), .val (.int (16 : Int32)), .val (.ref w_FLOOR_REQUEST_STATUS), .val (.int (0 : Int32)), .unset] [])) _
        refine XS.iconst X252.here hx rfl (hb hby at_214) ?_
        show Steps p.tables e below (T252.setTop (mkF m 215 #[.val (.int p0), .val (.int p1), .val (.ref b102), .val (.int (16 : Int32)), .val (.ref w_FLOOR_REQUEST_STATUS), .val (.int (0 : Int32)), .unset] [(.int (0 : Int32))])) _
        refine XS.istore X252.here hx rfl (hb hby at_215) rfl (l' := #[.val (.int p0), .val (.int p1), .val (.ref b102), .val (.int (16 : Int32)), .val (.ref w_FLOOR_REQUEST_STATUS), .val (.int (0 : Int32)), .val (.int (0 : Int32))]) rfl ?_
        show Steps p.tables e below (T252.setTop (mkF m 217 #[.val (.int p0), .val (.int p1), .val (.ref b102), .val (.int (16 : Int32)), .val (.ref w_FLOOR_REQUEST_STATUS), .val (.int (0 : Int32)), .val (.int (0 : Int32))] [])) _
        refine XS.iload X252.here hx rfl (hb hby at_217) rfl ?_
        show Steps p.tables e below (T252.setTop (mkF m 219 #[.val (.int p0), .val (.int p1), .val (.ref b102), .val (.int (16 : Int32)), .val (.ref w_FLOOR_REQUEST_STATUS), .val (.int (0 : Int32)), .val (.int (0 : Int32))] [(.int (0 : Int32))])) _
        refine XS.iload X252.here hx rfl (hb hby at_219) rfl ?_
        show Steps p.tables e below (T252.setTop (mkF m 221 #[.val (.int p0), .val (.int p1), .val (.ref b102), .val (.int (16 : Int32)), .val (.ref w_FLOOR_REQUEST_STATUS), .val (.int (0 : Int32)), .val (.int (0 : Int32))] [(.int (0 : Int32)), (.int (0 : Int32))])) _
        refine XS.icmpNo X252.here hx rfl (hb hby at_221) rfl (teq (by decide : (0 : Int32) = (0 : Int32))).2 ?_
        show Steps p.tables e below (T252.setTop (mkF m 224 #[.val (.int p0), .val (.int p1), .val (.ref b102), .val (.int (16 : Int32)), .val (.ref w_FLOOR_REQUEST_STATUS), .val (.int (0 : Int32)), .val (.int (0 : Int32))] [])) _
        refine XS.iconst X252.here hx rfl (hb hby at_224) ?_
        show Steps p.tables e below (T252.setTop (mkF m 225 #[.val (.int p0), .val (.int p1), .val (.ref b102), .val (.int (16 : Int32)), .val (.ref w_FLOOR_REQUEST_STATUS), .val (.int (0 : Int32)), .val (.int (0 : Int32))] [(.int (1 : Int32))])) _
        refine XS.goto X252.here hx rfl (pc0 := 225) (pc' := 229) rfl (hb hby at_225) (by decide) (by decide) ?_
        show Steps p.tables e below (T252.setTop (mkF m 229 #[.val (.int p0), .val (.int p1), .val (.ref b102), .val (.int (16 : Int32)), .val (.ref w_FLOOR_REQUEST_STATUS), .val (.int (0 : Int32)), .val (.int (0 : Int32))] [(.int (1 : Int32))])) _
        exact retN X252 hx (t := .boolean) Bd.returns (by simp) (hb hby at_229) hr
      · show own_Made (some (.int 1)) n0 _ T252.heap _
        rw [e252]
        exact ⟨rfl, N252, trivial⟩
    · skip
      obtain ⟨cq253, kq253, q253a, q253b, q253c⟩ := isOf hZ e156 ((E_FLOOR_REQUEST_STATUS.ext EX156))
      obtain ⟨_, _, ⟨T253, L253, k253, n253⟩, -, X253, ⟨Lc253, hQ253, l253, y253, z253⟩, st253⟩ := X156.virtualBack hx (y := (⟨"com/example/parley/parley/message/AttributeType", "accepts", "(I)Z"⟩ : MethodName)) (z := (⟨"com/example/parley/parley/message/AttributeType", "accepts", "(I)Z"⟩ : MethodName)) hown (mvT hZ (hw _ (List.mem_of_getElem? (i := 41) rfl))) (mvT hZ (hw _ (List.mem_of_getElem? (i := 42) rfl))) (notFace_of_selects (args := #[]) (mvT hZ (hw _ (List.mem_of_getElem? (i := 44) rfl)))) (mvT hZ (hw _ (List.mem_of_getElem? (i := 44) rfl))) (mvT hZ (hw _ (List.mem_of_getElem? (i := 43) rfl))) (by decide) (backOf (W := 0) (rm_acc_GROUPED l Z a0 hw [] w_FLOOR_REQUEST_STATUS p1 h156 n0 (Nat.le_trans Z0 EX156.1) w_GROUPED (F_FLOOR_REQUEST_STATUS_shape.ext EX156) (E_GROUPED.ext EX156) (F_GROUPED_ordinal.ext EX156) (1 : Int32) (if_neg hl251)) hZ (hw _ (List.mem_of_getElem? (i := 45) rfl)) (hw _ (List.mem_of_getElem? (i := 3) rfl)) (by decide) (by decide)) q253a q253c (g := (mkF m 142 #[.val (.int p0), .val (.int p1), .val (.ref b102), .val (.int (16 : Int32)), .val (.ref w_FLOOR_REQUEST_STATUS), .unset, .unset] [(.int p1), (.ref w_FLOOR_REQUEST_STATUS)])) rfl (by rw [hml]; rfl) (Steps.refl _) (argsL := [(.int p1)]) (rest := []) (lenOf pd_33 rfl) rfl (by show 2 * 0 + _ ≤ _; exact Nat.le_of_eq rfl) (hb hby at_142) (fun _ _ => ⟨rfl, e156, (by decide : 1 + 0 ≤ _), (by decide : 18 + 0 ≤ _)⟩)
      dsimp only [Pt.U, Pt.locs, Pt.cells, Pt.slots] at X253 l253 y253 z253 st253 hQ253
      subst l253 y253 z253
      obtain ⟨rfl, N253q, e253⟩ := hQ253
      have N253 := Fr.app N156 N253q
      obtain ⟨fs, hr, hrun, hended, hW, hsame⟩ := X253.leave (v := some (.int (1 : Int32))) (fun h => by rw [Bd.returns] at h; cases h)
      refine ⟨_, _, ck250 _ ?_, hrun, hended, _, _, rfl, ?_, ⟨_, rfl⟩, hW, hsame.mono (by decide) (by decide)⟩
      · show Steps p.tables e below (T156.setTop (mkF m 142 #[.val (.int p0), .val (.int p1), .val (.ref b102), .val (.int (16 : Int32)), .val (.ref w_FLOOR_REQUEST_STATUS), .unset, .unset] [(.int p1), (.ref w_FLOOR_REQUEST_STATUS)])) _
        refine st253.trans ?_
        show Steps p.tables e below (T253.setTop (mkF m 145 #[.val (.int p0), .val (.int p1), .val (.ref b102), .val (.int (16 : Int32)), .val (.ref w_FLOOR_REQUEST_STATUS), .unset, .unset] [(.int (1 : Int32))])) _
        refine XS.istore X253.here hx rfl (hb hby at_145) rfl (l' := #[.val (.int p0), .val (.int p1), .val (.ref b102), .val (.int (16 : Int32)), .val (.ref w_FLOOR_REQUEST_STATUS), .val (.int (1 : Int32)), .unset]) rfl ?_
        show Steps p.tables e below (T253.setTop (mkF m 147 #[.val (.int p0), .val (.int p1), .val (.ref b102), .val (.int (16 : Int32)), .val (.ref w_FLOOR_REQUEST_STATUS), .val (.int (1 : Int32)), .unset] [])) _
        refine XS.iloadN X253.here hx rfl (hb hby at_147) rfl ?_
        show Steps p.tables e below (T253.setTop (mkF m 148 #[.val (.int p0), .val (.int p1), .val (.ref b102), .val (.int (16 : Int32)), .val (.ref w_FLOOR_REQUEST_STATUS), .val (.int (1 : Int32)), .unset] [(.int (16 : Int32))])) _
        refine XS.iconst X253.here hx rfl (hb hby at_148) ?_
        show Steps p.tables e below (T253.setTop (mkF m 149 #[.val (.int p0), .val (.int p1), .val (.ref b102), .val (.int (16 : Int32)), .val (.ref w_FLOOR_REQUEST_STATUS), .val (.int (1 : Int32)), .unset] [(.int (5 : Int32)), (.int (16 : Int32))])) _
        refine XS.icmpYes X253.here hx rfl (pc0 := 149) (pc' := 167) rfl (hb hby at_149) rfl (flt (by decide : ¬ ((16 : Int32) < (5 : Int32)))).2.1 (by decide) (by decide) ?_
        show Steps p.tables e below (T253.setTop (mkF m 167 #[.val (.int p0), .val (.int p1), .val (.ref b102), .val (.int (16 : Int32)), .val (.ref w_FLOOR_REQUEST_STATUS), .val (.int (1 : Int32)), .unset] [])) _
        refine XS.iloadN X253.here hx rfl (hb hby at_167) rfl ?_
        show Steps p.tables e below (T253.setTop (mkF m 168 #[.val (.int p0), .val (.int p1), .val (.ref b102), .val (.int (16 : Int32)), .val (.ref w_FLOOR_REQUEST_STATUS), .val (.int (1 : Int32)), .unset] [(.int (16 : Int32))])) _
        refine XS.iconst X253.here hx rfl (hb hby at_168) ?_
        show Steps p.tables e below (T253.setTop (mkF m 169 #[.val (.int p0), .val (.int p1), .val (.ref b102), .val (.int (16 : Int32)), .val (.ref w_FLOOR_REQUEST_STATUS), .val (.int (1 : Int32)), .unset] [(.int (5 : Int32)), (.int (16 : Int32))])) _
        refine XS.icmpYes X253.here hx rfl (pc0 := 169) (pc' := 187) rfl (hb hby at_169) rfl (feq (by decide : ¬ ((16 : Int32) = (5 : Int32)))).2 (by decide) (by decide) ?_
        show Steps p.tables e below (T253.setTop (mkF m 187 #[.val (.int p0), .val (.int p1), .val (.ref b102), .val (.int (16 : Int32)), .val (.ref w_FLOOR_REQUEST_STATUS), .val (.int (1 : Int32)), .unset] [])) _
        refine XS.iloadN X253.here hx rfl (hb hby at_187) rfl ?_
        show Steps p.tables e below (T253.setTop (mkF m 188 #[.val (.int p0), .val (.int p1), .val (.ref b102), .val (.int (16 : Int32)), .val (.ref w_FLOOR_REQUEST_STATUS), .val (.int (1 : Int32)), .unset] [(.int (16 : Int32))])) _
        refine XS.bipush X253.here hx rfl (hb hby at_188) ?_
        show Steps p.tables e below (T253.setTop (mkF m 190 #[.val (.int p0), .val (.int p1), .val (.ref b102), .val (.int (16 : Int32)), .val (.ref w_FLOOR_REQUEST_STATUS), .val (.int (1 : Int32)), .unset] [(.int (13 : Int32)), (.int (16 : Int32))])) _
        refine XS.icmpYes X253.here hx rfl (pc0 := 190) (pc' := 205) rfl (hb hby at_190) rfl (flt (by decide : ¬ ((16 : Int32) < (13 : Int32)))).2.1 (by decide) (by decide) ?_
        show Steps p.tables e below (T253.setTop (mkF m 205 #[.val (.int p0), .val (.int p1), .val (.ref b102), .val (.int (16 : Int32)), .val (.ref w_FLOOR_REQUEST_STATUS), .val (.int (1 : Int32)), .unset] [])) _
        refine XS.iloadN X253.here hx rfl (hb hby at_205) rfl ?_
        show Steps p.tables e below (T253.setTop (mkF m 206 #[.val (.int p0), .val (.int p1), .val (.ref b102), .val (.int (16 : Int32)), .val (.ref w_FLOOR_REQUEST_STATUS), .val (.int (1 : Int32)), .unset] [(.int p1)])) _
        refine XS.iconst X253.here hx rfl (hb hby at_206) ?_
        show Steps p.tables e below (T253.setTop (mkF m 207 #[.val (.int p0), .val (.int p1), .val (.ref b102), .val (.int (16 : Int32)), .val (.ref w_FLOOR_REQUEST_STATUS), .val (.int (1 : Int32)), .unset] [(.int (2 : Int32)), (.int p1)])) _
        refine XS.icmpNo X253.here hx rfl (hb hby at_207) rfl (flt hl251).1 ?_
        show Steps p.tables e below (T253.setTop (mkF m 210 #[.val (.int p0), .val (.int p1), .val (.ref b102), .val (.int (16 : Int32)), .val (.ref w_FLOOR_REQUEST_STATUS), .val (.int (1 : Int32)), .unset] [])) _
        refine XS.iconst X253.here hx rfl (hb hby at_210) ?_
        show Steps p.tables e below (T253.setTop (mkF m 211 #[.val (.int p0), .val (.int p1), .val (.ref b102), .val (.int (16 : Int32)), .val (.ref w_FLOOR_REQUEST_STATUS), .val (.int (1 : Int32)), .unset] [(.int (1 : Int32))])) _
        refine XS.goto X253.here hx rfl (pc0 := 211) (pc' := 215) rfl (hb hby at_211) (by decide) (by decide) ?_
        show Steps p.tables e below (T253.setTop (mkF m 215 #[.val (.int p0), .val (.int p1), .val (.ref b102), .val (.int (16 : Int32)), .val (.ref w_FLOOR_REQUEST_STATUS), .val (.int (1 : Int32)), .unset] [(.int (1 : Int32))])) _
        refine XS.istore X253.here hx rfl (hb hby at_215) rfl (l' := #[.val (.int p0), .val (.int p1), .val (.ref b102), .val (.int (16 : Int32)), .val (.ref w_FLOOR_REQUEST_STATUS), .val (.int (1 : Int32)), .val (.int (1 : Int32))]) rfl ?_
        show Steps p.tables e below (T253.setTop (mkF m 217 #[.val (.int p0), .val (.int p1), .val (.ref b102), .val (.int (16 : Int32)), .val (.ref w_FLOOR_REQUEST_STATUS), .val (.int (1 : Int32)), .val (.int (1 : Int32))] [])) _
        refine XS.iload X253.here hx rfl (hb hby at_217) rfl ?_
        show Steps p.tables e below (T253.setTop (mkF m 219 #[.val (.int p0), .val (.int p1), .val (.ref b102), .val (.int (16 : Int32)), .val (.ref w_FLOOR_REQUEST_STATUS), .val (.int (1 : Int32)), .val (.int (1 : Int32))] [(.int (1 : Int32))])) _
        refine XS.iload X253.here hx rfl (hb hby at_219) rfl ?_
        show Steps p.tables e below (T253.setTop (mkF m 221 #[.val (.int p0), .val (.int p1), .val (.ref b102), .val (.int (16 : Int32)), .val (.ref w_FLOOR_REQUEST_STATUS), .val (.int (1 : Int32)), .val (.int (1 : Int32))] [(.int (1 : Int32)), (.int (1 : Int32))])) _
        refine XS.icmpNo X253.here hx rfl (hb hby at_221) rfl (teq (by decide : (1 : Int32) = (1 : Int32))).2 ?_
        show Steps p.tables e below (T253.setTop (mkF m 224 #[.val (.int p0), .val (.int p1), .val (.ref b102), .val (.int (16 : Int32)), .val (.ref w_FLOOR_REQUEST_STATUS), .val (.int (1 : Int32)), .val (.int (1 : Int32))] [])) _
        refine XS.iconst X253.here hx rfl (hb hby at_224) ?_
        show Steps p.tables e below (T253.setTop (mkF m 225 #[.val (.int p0), .val (.int p1), .val (.ref b102), .val (.int (16 : Int32)), .val (.ref w_FLOOR_REQUEST_STATUS), .val (.int (1 : Int32)), .val (.int (1 : Int32))] [(.int (1 : Int32))])) _
        refine XS.goto X253.here hx rfl (pc0 := 225) (pc' := 229) rfl (hb hby at_225) (by decide) (by decide) ?_
        show Steps p.tables e below (T253.setTop (mkF m 229 #[.val (.int p0), .val (.int p1), .val (.ref b102), .val (.int (16 : Int32)), .val (.ref w_FLOOR_REQUEST_STATUS), .val (.int (1 : Int32)), .val (.int (1 : Int32))] [(.int (1 : Int32))])) _
        exact retN X253 hx (t := .boolean) Bd.returns (by simp) (hb hby at_229) hr
      · show own_Made (some (.int 1)) n0 _ T253.heap _
        rw [e253]
        exact ⟨rfl, N253, trivial⟩
  · -- (17 : Int32)
    obtain ⟨cl254, Ar254, q254, S254, N254_, H254_, G254⟩ := V156
    have hin254 : ¬ ((17 : Int32) < 0 ∨ cl254.slots.size ≤ ((17 : Int32)).toNatClampNeg) := inb_of S254 ⟨by decide, by decide⟩
    have hat254 : cl254.slots[((17 : Int32)).toNatClampNeg]? = some (.ref w_OVERALL_REQUEST_STATUS) := Has.at H254_ hin254 rfl
    have ck255 : ∀ t, Steps p.tables e below (T156.setTop (mkF m 142 #[.val (.int p0), .val (.int p1), .val (.ref b102), .val (.int (17 : Int32)), .val (.ref w_OVERALL_REQUEST_STATUS), .unset, .unset] [(.int p1), (.ref w_OVERALL_REQUEST_STATUS)])) t → Steps p.tables e below (s₁.setTop (entryFrame m #[(.int p0), (.int p1)] maxLocals)) t := by
      intro t kt
      refine ck157 _ ?_
      show Steps p.tables e below (T156.setTop (mkF m 133 #[.val (.int p0), .val (.int p1), .val (.ref b102), .unset, .unset, .unset, .unset] [(.int ((p0 &&& (2147483647 : Int32)) % (18 : Int32)))])) _
      rw [hv175]
      show Steps p.tables e below (T156.setTop (mkF m 133 #[.val (.int p0), .val (.int p1), .val (.ref b102), .unset, .unset, .unset, .unset] [(.int (17 : Int32))])) _
      refine XS.istoreN X156.here hx rfl (hb hby at_133) rfl (l' := #[.val (.int p0), .val (.int p1), .val (.ref b102), .val (.int (17 : Int32)), .unset, .unset, .unset]) rfl ?_
      show Steps p.tables e below (T156.setTop (mkF m 134 #[.val (.int p0), .val (.int p1), .val (.ref b102), .val (.int (17 : Int32)), .unset, .unset, .unset] [])) _
      refine XS.aloadN X156.here hx rfl (hb hby at_134) rfl rfl ?_
      show Steps p.tables e below (T156.setTop (mkF m 135 #[.val (.int p0), .val (.int p1), .val (.ref b102), .val (.int (17 : Int32)), .unset, .unset, .unset] [(.ref b102)])) _
      refine XS.iloadN X156.here hx rfl (hb hby at_135) rfl ?_
      show Steps p.tables e below (T156.setTop (mkF m 136 #[.val (.int p0), .val (.int p1), .val (.ref b102), .val (.int (17 : Int32)), .unset, .unset, .unset] [(.int (17 : Int32)), (.ref b102)])) _
      refine X156.aaload hx (j := (17 : Int32)) (v := (.ref w_OVERALL_REQUEST_STATUS)) (by rw [e156]; exact Ar254.1) (State.isArrayOf_alike hZ.alike Ar254.2.1) rfl Ar254.2.2 hin254 hat254 (g := (mkF m 136 #[.val (.int p0), .val (.int p1), .val (.ref b102), .val (.int (17 : Int32)), .unset, .unset, .unset] [(.int (17 : Int32)), (.ref b102)])) rfl rfl (hb hby at_136) _ ?_
      show Steps p.tables e below (T156.setTop (mkF m 137 #[.val (.int p0), .val (.int p1), .val (.ref b102), .val (.int (17 : Int32)), .unset, .unset, .unset] [(.ref w_OVERALL_REQUEST_STATUS)])) _
      refine XS.astore X156.here hx rfl (hb hby at_137) rfl rfl (l' := #[.val (.int p0), .val (.int p1), .val (.ref b102), .val (.int (17 : Int32)), .val (.ref w_OVERALL_REQUEST_STATUS), .unset, .unset]) rfl ?_
      show Steps p.tables e below (T156.setTop (mkF m 139 #[.val (.int p0), .val (.int p1), .val (.ref b102), .val (.int (17 : Int32)), .val (.ref w_OVERALL_REQUEST_STATUS), .unset, .unset] [])) _
      refine XS.aload X156.here hx rfl (hb hby at_139) rfl rfl ?_
      show Steps p.tables e below (T156.setTop (mkF m 141 #[.val (.int p0), .val (.int p1), .val (.ref b102), .val (.int (17 : Int32)), .val (.ref w_OVERALL_REQUEST_STATUS), .unset, .unset] [(.ref w_OVERALL_REQUEST_STATUS)])) _
      refine XS.iloadN X156.here hx rfl (hb hby at_141) rfl ?_
      exact kt
    (try clear hat254); (try clear hin254); (try clear G254); (try clear H254_); (try clear N254_); (try clear S254); (try clear q254); (try clear Ar254); (try clear cl254)
    by_cases hl256 : p1 < (2 : Int32)
    · skip
      obtain ⟨cq257, kq257, q257a, q257b, q257c⟩ := isOf hZ e156 ((E_OVERALL_REQUEST_STATUS.ext EX156))
      obtain ⟨_, _, ⟨T257, L257, k257, n257⟩, -, X257, ⟨Lc257, hQ257, l257, y257, z257⟩, st257⟩ := X156.virtualBack hx (y := (⟨"com/example/parley/parley/message/AttributeType", "accepts", "(I)Z"⟩ : MethodName)) (z := (⟨"com/example/parley/parley/message/AttributeType", "accepts", "(I)Z"⟩ : MethodName)) hown (mvT hZ (hw _ (List.mem_of_getElem? (i := 41) rfl))) (mvT hZ (hw _ (List.mem_of_getElem? (i := 42) rfl))) (notFace_of_selects (args := #[]) (mvT hZ (hw _ (List.mem_of_getElem? (i := 44) rfl)))) (mvT hZ (hw _ (List.mem_of_getElem? (i := 44) rfl))) (mvT hZ (hw _ (List.mem_of_getElem? (i := 43) rfl))) (by decide) (backOf (W := 0) (rm_acc_GROUPED l Z a0 hw [] w_OVERALL_REQUEST_STATUS p1 h156 n0 (Nat.le_trans Z0 EX156.1) w_GROUPED (F_OVERALL_REQUEST_STATUS_shape.ext EX156) (E_GROUPED.ext EX156) (F_GROUPED_ordinal.ext EX156) (0 : Int32) (if_pos hl256)) hZ (hw _ (List.mem_of_getElem? (i := 45) rfl)) (hw _ (List.mem_of_getElem? (i := 3) rfl)) (by decide) (by decide)) q257a q257c (g := (mkF m 142 #[.val (.int p0), .val (.int p1), .val (.ref b102), .val (.int (17 : Int32)), .val (.ref w_OVERALL_REQUEST_STATUS), .unset, .unset] [(.int p1), (.ref w_OVERALL_REQUEST_STATUS)])) rfl (by rw [hml]; rfl) (Steps.refl _) (argsL := [(.int p1)]) (rest := []) (lenOf pd_33 rfl) rfl (by show 2 * 0 + _ ≤ _; exact Nat.le_of_eq rfl) (hb hby at_142) (fun _ _ => ⟨rfl, e156, (by decide : 1 + 0 ≤ _), (by decide : 18 + 0 ≤ _)⟩)
      dsimp only [Pt.U, Pt.locs, Pt.cells, Pt.slots] at X257 l257 y257 z257 st257 hQ257
      subst l257 y257 z257
      obtain ⟨rfl, N257q, e257⟩ := hQ257
      have N257 := Fr.app N156 N257q
      obtain ⟨fs, hr, hrun, hended, hW, hsame⟩ := X257.leave (v := some (.int (1 : Int32))) (fun h => by rw [Bd.returns] at h; cases h)
      refine ⟨_, _, ck255 _ ?_, hrun, hended, _, _, rfl, ?_, ⟨_, rfl⟩, hW, hsame.mono (by decide) (by decide)⟩
      · show Steps p.tables e below (T156.setTop (mkF m 142 #[.val (.int p0), .val (.int p1), .val (.ref b102), .val (.int (17 : Int32)), .val (.ref w_OVERALL_REQUEST_STATUS), .unset, .unset] [(.int p1), (.ref w_OVERALL_REQUEST_STATUS)])) _
        refine st257.trans ?_
        show Steps p.tables e below (T257.setTop (mkF m 145 #[.val (.int p0), .val (.int p1), .val (.ref b102), .val (.int (17 : Int32)), .val (.ref w_OVERALL_REQUEST_STATUS), .unset, .unset] [(.int (0 : Int32))])) _
        refine XS.istore X257.here hx rfl (hb hby at_145) rfl (l' := #[.val (.int p0), .val (.int p1), .val (.ref b102), .val (.int (17 : Int32)), .val (.ref w_OVERALL_REQUEST_STATUS), .val (.int (0 : Int32)), .unset]) rfl ?_
        show Steps p.tables e below (T257.setTop (mkF m 147 #[.val (.int p0), .val (.int p1), .val (.ref b102), .val (.int (17 : Int32)), .val (.ref w_OVERALL_REQUEST_STATUS), .val (.int (0 : Int32)), .unset] [])) _
        refine XS.iloadN X257.here hx rfl (hb hby at_147) rfl ?_
        show Steps p.tables e below (T257.setTop (mkF m 148 #[.val (.int p0), .val (.int p1), .val (.ref b102), .val (.int (17 : Int32)), .val (.ref w_OVERALL_REQUEST_STATUS), .val (.int (0 : Int32)), .unset] [(.int (17 : Int32))])) _
        refine XS.iconst X257.here hx rfl (hb hby at_148) ?_
        show Steps p.tables e below (T257.setTop (mkF m 149 #[.val (.int p0), .val (.int p1), .val (.ref b102), .val (.int (17 : Int32)), .val (.ref w_OVERALL_REQUEST_STATUS), .val (.int (0 : Int32)), .unset] [(.int (5 : Int32)), (.int (17 : Int32))])) _
        refine XS.icmpYes X257.here hx rfl (pc0 := 149) (pc' := 167) rfl (hb hby at_149) rfl (flt (by decide : ¬ ((17 : Int32) < (5 : Int32)))).2.1 (by decide) (by decide) ?_
        show Steps p.tables e below (T257.setTop (mkF m 167 #[.val (.int p0), .val (.int p1), .val (.ref b102), .val (.int (17 : Int32)), .val (.ref w_OVERALL_REQUEST_STATUS), .val (.int (0 : Int32)), .unset] [])) _
        refine XS.iloadN X257.here hx rfl (hb hby at_167) rfl ?_
        show Steps p.tables e below (T257.setTop (mkF m 168 #[.val (.int p0), .val (.int p1), .val (.ref b102), .val (.int (17 : Int32)), .val (.ref w_OVERALL_REQUEST_STATUS), .val (.int (0 : Int32)), .unset] [(.int (17 : Int32))])) _
        refine XS.iconst X257.here hx rfl (hb hby at_168) ?_
        show Steps p.tables e below (T257.setTop (mkF m 169 #[.val (.int p0), .val (.int p1), .val (.ref b102), .val (.int (17 : Int32)), .val (.ref w_OVERALL_REQUEST_STATUS), .val (.int (0 : Int32)), .unset] [(.int (5 : Int32)), (.int (17 : Int32))])) _
        refine XS.icmpYes X257.here hx rfl (pc0 := 169) (pc' := 187) rfl (hb hby at_169) rfl (feq (by decide : ¬ ((17 : Int32) = (5 : Int32)))).2 (by decide) (by decide) ?_
        show Steps p.tables e below (T257.setTop (mkF m 187 #[.val (.int p0), .val (.int p1), .val (.ref b102), .val (.int (17 : Int32)), .val (.ref w_OVERALL_REQUEST_STATUS), .val (.int (0 : Int32)), .unset] [])) _
        refine XS.iloadN X257.here hx rfl (hb hby at_187) rfl ?_
        show Steps p.tables e below (T257.setTop (mkF m 188 #[.val (.int p0), .val (.int p1), .val (.ref b102), .val (.int (17 : Int32)), .val (.ref w_OVERALL_REQUEST_STATUS), .val (.int (0 : Int32)), .unset] [(.int (17 : Int32))])) _
        refine XS.bipush X257.here hx rfl (hb hby at_188) ?_
        show Steps p.tables e below (T257.setTop (mkF m 190 #[.val (.int p0), .val (.int p1), .val (.ref b102), .val (.int (17 : Int32)), .val (.ref w_OVERALL_REQUEST_STATUS), .val (.int (0 : Int32)), .unset] [(.int (13 : Int32)), (.int (17 : Int32))])) _
        refine XS.icmpYes X257.here hx rfl (pc0 := 190) (pc' := 205) rfl (hb hby at_190) rfl (flt (by decide : ¬ ((17 : Int32) < (13 : Int32)))).2.1 (by decide) (by decide) ?_
        show Steps p.tables e below (T257.setTop (mkF m 205 #[.val (.int p0), .val (.int p1), .val (.ref b102), .val (.int (17 : Int32)), .val (.ref w_OVERALL_REQUEST_STATUS), .val (.int (0 : Int32)), .unset] [])) _
        refine XS.iloadN X257.here hx rfl (hb hby at_205) rfl ?_
        show Steps p.tables e below (T257.setTop (mkF m 206 #[.val (.int p0), .val (.int p1), .val (.ref b102), .val (.int (17 : Int32)), .val (.ref w_OVERALL_REQUEST_STATUS), .val (.int (0 : Int32)), .unset] [(.int p1)])) _
        refine XS.iconst X257.here hx rfl (hb hby at_206) ?_
        show Steps p.tables e below (T257.setTop (mkF m 207 #[.val (.int p0), .val (.int p1), .val (.ref b102), .val (.int (17 : Int32)), .val (.ref w_OVERALL_REQUEST_STATUS), .val (.int (0 : Int32)), .unset] [(.int (2 : Int32)), (.int p1)])) _
        refine XS.icmpYes X257.here hx rfl (pc0 := 207) (pc' := 214) rfl (hb hby at_207) rfl (tlt hl256).1 (by decide) (by decide) ?_
        show Steps p.tables e below (T257.setTop (mkF m 214 #[.val (.int p0), .val (.int p1), .val (.ref b102), .val (.int (17 : Int32)), .val (.ref w_OVERALL_REQUEST_STATUS), .val (.int (0 : Int32)), .unset] [])) _
        refine XS.iconst X257.here hx rfl (hb hby at_214) ?_
        show Steps p.tables e below (T257.setTop (mkF m 215 #[.val (.int p0), .val (.int p1), .val (.ref b102), .val (.int (17 : Int32)), .val (.ref w_OVERALL_REQUEST_STATUS), .val (.int (0 : Int32)), .unset] [(.int (0 : Int32))])) _
        refine XS.istore X257.here hx rfl (hb hby at_215) rfl (l' := #[.val (.int p0), .val (.int p1), .val (.ref b102), .val (.int (17 : Int32)), .val (.ref w_OVERALL_REQUEST_STATUS), .val (.int (0 : Int32)), .val (.int (0 : Int32))]) rfl ?_
        show Steps p.tables e below (T257.setTop (mkF m 217 #[.val (.int p0), .val (.int p1), .val (.ref b102), .val (.int (17 : Int32)), .val (.ref w_OVERALL_REQUEST_STATUS), .val (.int (0 : Int32)), .val (.int (0 : Int32))] [])) _
        refine XS.iload X257.here hx rfl (hb hby at_217) rfl ?_
        show Steps p.tables e below (T257.setTop (mkF m 219 #[.val (.int p0), .val (.int p1), .val (.ref b102), .val (.int (17 : Int32)), .val (.ref w_OVERALL_REQUEST_STATUS), .val (.int (0 : Int32)), .val (.int (0 : Int32))] [(.int (0 : Int32))])) _
        refine XS.iload X257.here hx rfl (hb hby at_219) rfl ?_
        show Steps p.tables e below (T257.setTop (mkF m 221 #[.val (.int p0), .val (.int p1), .val (.ref b102), .val (.int (17 : Int32)), .val (.ref w_OVERALL_REQUEST_STATUS), .val (.int (0 : Int32)), .val (.int (0 : Int32))] [(.int (0 : Int32)), (.int (0 : Int32))])) _
        refine XS.icmpNo X257.here hx rfl (hb hby at_221) rfl (teq (by decide : (0 : Int32) = (0 : Int32))).2 ?_
        show Steps p.tables e below (T257.setTop (mkF m 224 #[.val (.int p0), .val (.int p1), .val (.ref b102), .val (.int (17 : Int32)), .val (.ref w_OVERALL_REQUEST_STATUS), .val (.int (0 : Int32)), .val (.int (0 : Int32))] [])) _
        refine XS.iconst X257.here hx rfl (hb hby at_224) ?_
        show Steps p.tables e below (T257.setTop (mkF m 225 #[.val (.int p0), .val (.int p1), .val (.ref b102), .val (.int (17 : Int32)), .val (.ref w_OVERALL_REQUEST_STATUS), .val (.int (0 : Int32)), .val (.int (0 : Int32))] [(.int (1 : Int32))])) _
        refine XS.goto X257.here hx rfl (pc0 := 225) (pc' := 229) rfl (hb hby at_225) (by decide) (by decide) ?_
        show Steps p.tables e below (T257.setTop (mkF m 229 #[.val (.int p0), .val (.int p1), .val (.ref b102), .val (.int (17 : Int32)), .val (.ref w_OVERALL_REQUEST_STATUS), .val (.int (0 : Int32)), .val (.int (0 : Int32))] [(.int (1 : Int32))])) _
        exact retN X257 hx (t := .boolean) Bd.returns (by simp) (hb hby at_229) hr
      · show own_Made (some (.int 1)) n0 _ T257.heap _
        rw [e257]
        exact ⟨rfl, N257, trivial⟩
    · skip
      obtain ⟨cq258, kq258, q258a, q258b, q258c⟩ := isOf hZ e156 ((E_OVERALL_REQUEST_STATUS.ext EX156))
      obtain ⟨_, _, ⟨T258, L258, k258, n258⟩, -, X258, ⟨Lc258, hQ258, l258, y258, z258⟩, st258⟩ := X156.virtualBack hx (y := (⟨"com/example/parley/parley/message/AttributeType", "accepts", "(I)Z"⟩ : MethodName)) (z := (⟨"com/example/parley/parley/message/AttributeType", "accepts", "(I)Z"⟩ : MethodName)) hown (mvT hZ (hw _ (List.mem_of_getElem? (i := 41) rfl))) (mvT hZ (hw _ (List.mem_of_getElem? (i := 42) rfl))) (notFace_of_selects (args := #[]) (mvT hZ (hw _ (List.mem_of_getElem? (i := 44) rfl)))) (mvT hZ (hw _ (List.mem_of_getElem? (i := 44) rfl))) (mvT hZ (hw _ (List.mem_of_getElem? (i := 43) rfl))) (by decide) (backOf (W := 0) (rm_acc_GROUPED l Z a0 hw [] w_OVERALL_REQUEST_STATUS p1 h156 n0 (Nat.le_trans Z0 EX156.1) w_GROUPED (F_OVERALL_REQUEST_STATUS_shape.ext EX156) (E_GROUPED.ext EX156) (F_GROUPED_ordinal.ext EX156) (1 : Int32) (if_neg hl256)) hZ (hw _ (List.mem_of_getElem? (i := 45) rfl)) (hw _ (List.mem_of_getElem? (i := 3) rfl)) (by decide) (by decide)) q258a q258c (g := (mkF m 142 #[.val (.int p0), .val (.int p1), .val (.ref b102), .val (.int (17 : Int32)), .val (.ref w_OVERALL_REQUEST_STATUS), .unset, .unset] [(.int p1), (.ref w_OVERALL_REQUEST_STATUS)])) rfl (by rw [hml]; rfl) (Steps.refl _) (argsL := [(.int p1)]) (rest := []) (lenOf pd_33 rfl) rfl (by show 2 * 0 + _ ≤ _; exact Nat.le_of_eq rfl) (hb hby at_142) (fun _ _ => ⟨rfl, e156, (by decide : 1 + 0 ≤ _), (by decide : 18 + 0 ≤ _)⟩)
      dsimp only [Pt.U, Pt.locs, Pt.cells, Pt.slots] at X258 l258 y258 z258 st258 hQ258
      subst l258 y258 z258
      obtain ⟨rfl, N258q, e258⟩ := hQ258
      have N258 := Fr.app N156 N258q
      obtain ⟨fs, hr, hrun, hended, hW, hsame⟩ := X258.leave (v := some (.int (1 : Int32))) (fun h => by rw [Bd.returns] at h; cases h)
      refine ⟨_, _, ck255 _ ?_, hrun, hended, _, _, rfl, ?_, ⟨_, rfl⟩, hW, hsame.mono (by decide) (by decide)⟩
      · show Steps p.tables e below (T156.setTop (mkF m 142 #[.val (.int p0), .val (.int p1), .val (.ref b102), .val (.int (17 : Int32)), .val (.ref w_OVERALL_REQUEST_STATUS), .unset, .unset] [(.int p1), (.ref w_OVERALL_REQUEST_STATUS)])) _
        refine st258.trans ?_
        show Steps p.tables e below (T258.setTop (mkF m 145 #[.val (.int p0), .val (.int p1), .val (.ref b102), .val (.int (17 : Int32)), .val (.ref w_OVERALL_REQUEST_STATUS), .unset, .unset] [(.int (1 : Int32))])) _
        refine XS.istore X258.here hx rfl (hb hby at_145) rfl (l' := #[.val (.int p0), .val (.int p1), .val (.ref b102), .val (.int (17 : Int32)), .val (.ref w_OVERALL_REQUEST_STATUS), .val (.int (1 : Int32)), .unset]) rfl ?_
        show Steps p.tables e below (T258.setTop (mkF m 147 #[.val (.int p0), .val (.int p1), .val (.ref b102), .val (.int (17 : Int32)), .val (.ref w_OVERALL_REQUEST_STATUS), .val (.int (1 : Int32)), .unset] [])) _
        refine XS.iloadN X258.here hx rfl (hb hby at_147) rfl ?_
        show Steps p.tables e below (T258.setTop (mkF m 148 #[.val (.int p0), .val (.int p1), .val (.ref b102), .val (.int (17 : Int32)), .val (.ref w_OVERALL_REQUEST_STATUS), .val (.int (1 : Int32)), .unset] [(.int (17 : Int32))])) _
        refine XS.iconst X258.here hx rfl (hb hby at_148) ?_
        show Steps p.tables e below (T258.setTop (mkF m 149 #[.val (.int p0), .val (.int p1), .val (.ref b102), .val (.int (17 : Int32)), .val (.ref w_OVERALL_REQUEST_STATUS), .val (.int (1 : Int32)), .unset] [(.int (5 : Int32)), (.int (17 : Int32))])) _
        refine XS.icmpYes X258.here hx rfl (pc0 := 149) (pc' := 167) rfl (hb hby at_149) rfl (flt (by decide : ¬ ((17 : Int32) < (5 : Int32)))).2.1 (by decide) (by decide) ?_
        show Steps p.tables e below (T258.setTop (mkF m 167 #[.val (.int p0), .val (.int p1), .val (.ref b102), .val (.int (17 : Int32)), .val (.ref w_OVERALL_REQUEST_STATUS), .val (.int (1 : Int32)), .unset] [])) _
        refine XS.iloadN X258.here hx rfl (hb hby at_167) rfl ?_
        show Steps p.tables e below (T258.setTop (mkF m 168 #[.val (.int p0), .val (.int p1), .val (.ref b102), .val (.int (17 : Int32)), .val (.ref w_OVERALL_REQUEST_STATUS), .val (.int (1 : Int32)), .unset] [(.int (17 : Int32))])) _
        refine XS.iconst X258.here hx rfl (hb hby at_168) ?_
        show Steps p.tables e below (T258.setTop (mkF m 169 #[.val (.int p0), .val (.int p1), .val (.ref b102), .val (.int (17 : Int32)), .val (.ref w_OVERALL_REQUEST_STATUS), .val (.int (1 : Int32)), .unset] [(.int (5 : Int32)), (.int (17 : Int32))])) _
        refine XS.icmpYes X258.here hx rfl (pc0 := 169) (pc' := 187) rfl (hb hby at_169) rfl (feq (by decide : ¬ ((17 : Int32) = (5 : Int32)))).2 (by decide) (by decide) ?_
        show Steps p.tables e below (T258.setTop (mkF m 187 #[.val (.int p0), .val (.int p1), .val (.ref b102), .val (.int (17 : Int32)), .val (.ref w_OVERALL_REQUEST_STATUS), .val (.int (1 : Int32)), .unset] [])) _
        refine XS.iloadN X258.here hx rfl (hb hby at_187) rfl ?_
        show Steps p.tables e below (T258.setTop (mkF m 188 #[.val (.int p0), .val (.int p1), .val (.ref b102), .val (.int (17 : Int32)), .val (.ref w_OVERALL_REQUEST_STATUS), .val (.int (1 : Int32)), .unset] [(.int (17 : Int32))])) _
        refine XS.bipush X258.here hx rfl (hb hby at_188) ?_
        show Steps p.tables e below (T258.setTop (mkF m 190 #[.val (.int p0), .val (.int p1), .val (.ref b102), .val (.int (17 : Int32)), .val (.ref w_OVERALL_REQUEST_STATUS), .val (.int (1 : Int32)), .unset] [(.int (13 : Int32)), (.int (17 : Int32))])) _
        refine XS.icmpYes X258.here hx rfl (pc0 := 190) (pc' := 205) rfl (hb hby at_190) rfl (flt (by decide : ¬ ((17 : Int32) < (13 : Int32)))).2.1 (by decide) (by decide) ?_
        show Steps p.tables e below (T258.setTop (mkF m 205 #[.val (.int p0), .val (.int p1), .val (.ref b102), .val (.int (17 : Int32)), .val (.ref w_OVERALL_REQUEST_STATUS), .val (.int (1 : Int32)), .unset] [])) _
        refine XS.iloadN X258.here hx rfl (hb hby at_205) rfl ?_
        show Steps p.tables e below (T258.setTop (mkF m 206 #[.val (.int p0), .val (.int p1), .val (.ref b102), .val (.int (17 : Int32)), .val (.ref w_OVERALL_REQUEST_STATUS), .val (.int (1 : Int32)), .unset] [(.int p1)])) _
        refine XS.iconst X258.here hx rfl (hb hby at_206) ?_
        show Steps p.tables e below (T258.setTop (mkF m 207 #[.val (.int p0), .val (.int p1), .val (.ref b102), .val (.int (17 : Int32)), .val (.ref w_OVERALL_REQUEST_STATUS), .val (.int (1 : Int32)), .unset] [(.int (2 : Int32)), (.int p1)])) _
        refine XS.icmpNo X258.here hx rfl (hb hby at_207) rfl (flt hl256).1 ?_
        show Steps p.tables e below (T258.setTop (mkF m 210 #[.val (.int p0), .val (.int p1), .val (.ref b102), .val (.int (17 : Int32)), .val (.ref w_OVERALL_REQUEST_STATUS), .val (.int (1 : Int32)), .unset] [])) _
        refine XS.iconst X258.here hx rfl (hb hby at_210) ?_
        show Steps p.tables e below (T258.setTop (mkF m 211 #[.val (.int p0), .val (.int p1), .val (.ref b102), .val (.int (17 : Int32)), .val (.ref w_OVERALL_REQUEST_STATUS), .val (.int (1 : Int32)), .unset] [(.int (1 : Int32))])) _
        refine XS.goto X258.here hx rfl (pc0 := 211) (pc' := 215) rfl (hb hby at_211) (by decide) (by decide) ?_
        show Steps p.tables e below (T258.setTop (mkF m 215 #[.val (.int p0), .val (.int p1), .val (.ref b102), .val (.int (17 : Int32)), .val (.ref w_OVERALL_REQUEST_STATUS), .val (.int (1 : Int32)), .unset] [(.int (1 : Int32))])) _
        refine XS.istore X258.here hx rfl (hb hby at_215) rfl (l' := #[.val (.int p0), .val (.int p1), .val (.ref b102), .val (.int (17 : Int32)), .val (.ref w_OVERALL_REQUEST_STATUS), .val (.int (1 : Int32)), .val (.int (1 : Int32))]) rfl ?_
        show Steps p.tables e below (T258.setTop (mkF m 217 #[.val (.int p0), .val (.int p1), .val (.ref b102), .val (.int (17 : Int32)), .val (.ref w_OVERALL_REQUEST_STATUS), .val (.int (1 : Int32)), .val (.int (1 : Int32))] [])) _
        refine XS.iload X258.here hx rfl (hb hby at_217) rfl ?_
        show Steps p.tables e below (T258.setTop (mkF m 219 #[.val (.int p0), .val (.int p1), .val (.ref b102), .val (.int (17 : Int32)), .val (.ref w_OVERALL_REQUEST_STATUS), .val (.int (1 : Int32)), .val (.int (1 : Int32))] [(.int (1 : Int32))])) _
        refine XS.iload X258.here hx rfl (hb hby at_219) rfl ?_
        show Steps p.tables e below (T258.setTop (mkF m 221 #[.val (.int p0), .val (.int p1), .val (.ref b102), .val (.int (17 : Int32)), .val (.ref w_OVERALL_REQUEST_STATUS), .val (.int (1 : Int32)), .val (.int (1 : Int32))] [(.int (1 : Int32)), (.int (1 : Int32))])) _
        refine XS.icmpNo X258.here hx rfl (hb hby at_221) rfl (teq (by decide : (1 : Int32) = (1 : Int32))).2 ?_
        show Steps p.tables e below (T258.setTop (mkF m 224 #[.val (.int p0), .val (.int p1), .val (.ref b102), .val (.int (17 : Int32)), .val (.ref w_OVERALL_REQUEST_STATUS), .val (.int (1 : Int32)), .val (.int (1 : Int32))] [])) _
        refine XS.iconst X258.here hx rfl (hb hby at_224) ?_
        show Steps p.tables e below (T258.setTop (mkF m 225 #[.val (.int p0), .val (.int p1), .val (.ref b102), .val (.int (17 : Int32)), .val (.ref w_OVERALL_REQUEST_STATUS), .val (.int (1 : Int32)), .val (.int (1 : Int32))] [(.int (1 : Int32))])) _
        refine XS.goto X258.here hx rfl (pc0 := 225) (pc' := 229) rfl (hb hby at_225) (by decide) (by decide) ?_
        show Steps p.tables e below (T258.setTop (mkF m 229 #[.val (.int p0), .val (.int p1), .val (.ref b102), .val (.int (17 : Int32)), .val (.ref w_OVERALL_REQUEST_STATUS), .val (.int (1 : Int32)), .val (.int (1 : Int32))] [(.int (1 : Int32))])) _
        exact retN X258 hx (t := .boolean) Bd.returns (by simp) (hb hby at_229) hr
      · show own_Made (some (.int 1)) n0 _ T258.heap _
        rw [e258]
        exact ⟨rfl, N258, trivial⟩
set_option maxRecDepth 65536 in
set_option maxHeartbeats 40000000 in
theorem comes_1 {Post : Tables → Env → Array Value → State → Outcome → State → Prop} (hpost : ∀ tb e args s v u, (limb_1_1.after args s (.returned v) u = true ∧ limb_1_2.after args s (.returned v) u = true ∧ True) → FrameEnd s (.returned v) u (Jvm.fieldLocs frame_1_writes args s ++ Jvm.arrayLocs frame_1_arrays args s ++ Jvm.staticLocs frame_1_statics s) 16 128 → Post tb e args s (.returned v) u) :
    ArmFor flags0 classFile x code maxLocals ret World_1 tables_1 room_1 Calls_1 rest_1 Pre_1 Post := by
  intro l hfl _ _ p e ha hc hk s m args below hf hA hF happ hP
  obtain ⟨hcalls, hrest, hpre⟩ := hP
  obtain ⟨-, -, -, hnamed, -, -, -, hat⟩ := (Spec.applies_iff hf).mp happ
  obtain ⟨hg, hn⟩ := and_e (Cond.before_iff.mp (show (Jvm.Cond.and given_1 narrow_1).before args s = true from hpre))
  obtain ⟨gg0, hh0⟩ := and_e hg
  obtain ⟨gg1, hh1⟩ := and_e hh0
  obtain ⟨w0, w1, rfl⟩ : ∃ w0 w1 : Value, args = #[w0, w1] := by
    have hs : args.size = 2 := by simpa [Cond.value, given_1] using gg0
    obtain ⟨L⟩ := args
    match L, hs with
    | [w0, w1], _ => exact ⟨w0, w1, rfl⟩
  have hw := fun d (hd : d ∈ tables_1) => atoms_spec (ws := Jvm.Cond.code x code maxLocals ret :: tables_1) hat d (List.mem_cons_of_mem _ hd)
  have hfit : Fit s := fun {y c} hc i hi => by
    obtain ⟨ha, rfl⟩ := Array.getElem?_eq_some_iff.mp hc
    have q := List.all_eq_true.mp ((Array.all_eq_true_iff_forall_mem.mp hF) _ (Array.getElem_mem ha)) i (List.mem_range.mpr hi)
    simpa [Array.getElem?_eq_getElem hi] using q
  obtain ⟨i0, ei0⟩ := is_v gg1
  obtain rfl : w0 = (.int i0) := Option.some.inj ei0
  obtain ⟨i1, ei1⟩ := is_v hh1
  obtain rfl : w1 = (.int i1) := Option.some.inj ei1
  obtain ⟨g1, g2⟩ := and_e hn
  obtain ⟨g3, g4⟩ := and_e g2
  obtain ⟨g5, g6⟩ := and_e g4
  obtain ⟨g7, g8⟩ := and_e g6
  obtain ⟨g9, g10⟩ := and_e g8
  obtain ⟨g11, g12⟩ := and_e g10
  obtain ⟨g13, g14⟩ := and_e g12
  obtain ⟨g15, g16⟩ := and_e g14
  obtain ⟨g17, g18⟩ := and_e g16
  obtain ⟨g19, g20⟩ := and_e g18
  obtain ⟨g21, g22⟩ := and_e g20
  obtain ⟨g23, g24⟩ := and_e g22
  obtain ⟨g25, g26⟩ := and_e g24
  obtain ⟨g27, g28⟩ := and_e g26
  obtain ⟨g29, g30⟩ := and_e g28
  obtain ⟨g31, g32⟩ := and_e g30
  obtain ⟨g33, g34⟩ := and_e g32
  obtain ⟨g35, g36⟩ := and_e g34
  obtain ⟨g37, g38⟩ := and_e g36
  obtain ⟨g39, g40⟩ := and_e g38
  obtain ⟨g41, g42⟩ := and_e g40
  obtain ⟨g43, g44⟩ := and_e g42
  obtain ⟨g45, g46⟩ := and_e g44
  obtain ⟨g47, g48⟩ := and_e g46
  obtain ⟨g49, g50⟩ := and_e g48
  obtain ⟨g51, g52⟩ := and_e g50
  obtain ⟨g53, g54⟩ := and_e g52
  obtain ⟨g55, g56⟩ := and_e g54
  obtain ⟨g57, g58⟩ := and_e g56
  obtain ⟨g59, g60⟩ := and_e g58
  obtain ⟨g61, g62⟩ := and_e g60
  obtain ⟨g63, g64⟩ := and_e g62
  obtain ⟨g65, g66⟩ := and_e g64
  obtain ⟨g67, g68⟩ := and_e g66
  obtain ⟨g69, g70⟩ := and_e g68
  obtain ⟨g71, g72⟩ := and_e g70
  obtain ⟨g73, g74⟩ := and_e g72
  obtain ⟨g75, g76⟩ := and_e g74
  obtain ⟨g77, g78⟩ := and_e g76
  obtain ⟨g79, g80⟩ := and_e g78
  obtain ⟨g81, g82⟩ := and_e g80
  obtain ⟨g83, g84⟩ := and_e g82
  obtain ⟨g85, g86⟩ := and_e g84
  obtain ⟨w_BENEFICIARY_ID, ev_BENEFICIARY_ID⟩ := exa_v g1
  have E_BENEFICIARY_ID := Exa.start ev_BENEFICIARY_ID g1
  have S_BENEFICIARY_ID := Sta.start ev_BENEFICIARY_ID (Or.inr ⟨hw _ (List.mem_of_getElem? (i := 3) rfl), hw _ (List.mem_of_getElem? (i := 4) rfl)⟩)
  obtain ⟨w_FLOOR_ID, ev_FLOOR_ID⟩ := exa_v g3
  have E_FLOOR_ID := Exa.start ev_FLOOR_ID g3
  have S_FLOOR_ID := Sta.start ev_FLOOR_ID (Or.inr ⟨hw _ (List.mem_of_getElem? (i := 3) rfl), hw _ (List.mem_of_getElem? (i := 7) rfl)⟩)
  obtain ⟨w_FLOOR_REQUEST_ID, ev_FLOOR_REQUEST_ID⟩ := exa_v g5
  have E_FLOOR_REQUEST_ID := Exa.start ev_FLOOR_REQUEST_ID g5
  have S_FLOOR_REQUEST_ID := Sta.start ev_FLOOR_REQUEST_ID (Or.inr ⟨hw _ (List.mem_of_getElem? (i := 3) rfl), hw _ (List.mem_of_getElem? (i := 9) rfl)⟩)
  obtain ⟨w_PRIORITY, ev_PRIORITY⟩ := exa_v g7
  have E_PRIORITY := Exa.start ev_PRIORITY g7
  have S_PRIORITY := Sta.start ev_PRIORITY (Or.inr ⟨hw _ (List.mem_of_getElem? (i := 3) rfl), hw _ (List.mem_of_getElem? (i := 11) rfl)⟩)
  obtain ⟨w_REQUEST_STATUS, ev_REQUEST_STATUS⟩ := exa_v g9
  have E_REQUEST_STATUS := Exa.start ev_REQUEST_STATUS g9
  have S_REQUEST_STATUS := Sta.start ev_REQUEST_STATUS (Or.inr ⟨hw _ (List.mem_of_getElem? (i := 3) rfl), hw _ (List.mem_of_getElem? (i := 13) rfl)⟩)
  obtain ⟨w_ERROR_CODE, ev_ERROR_CODE⟩ := exa_v g11
  have E_ERROR_CODE := Exa.start ev_ERROR_CODE g11
  have S_ERROR_CODE := Sta.start ev_ERROR_CODE (Or.inr ⟨hw _ (List.mem_of_getElem? (i := 3) rfl), hw _ (List.mem_of_getElem? (i := 15) rfl)⟩)
  obtain ⟨w_ERROR_INFO, ev_ERROR_INFO⟩ := exa_v g13
  have E_ERROR_INFO := Exa.start ev_ERROR_INFO g13
  have S_ERROR_INFO := Sta.start ev_ERROR_INFO (Or.inr ⟨hw _ (List.mem_of_getElem? (i := 3) rfl), hw _ (List.mem_of_getElem? (i := 17) rfl)⟩)
  obtain ⟨w_PARTICIPANT_PROVIDED_INFO, ev_PARTICIPANT_PROVIDED_INFO⟩ := exa_v g15
  have E_PARTICIPANT_PROVIDED_INFO := Exa.start ev_PARTICIPANT_PROVIDED_INFO g15
  have S_PARTICIPANT_PROVIDED_INFO := Sta.start ev_PARTICIPANT_PROVIDED_INFO (Or.inr ⟨hw _ (List.mem_of_getElem? (i := 3) rfl), hw _ (List.mem_of_getElem? (i := 19) rfl)⟩)
  obtain ⟨w_STATUS_INFO, ev_STATUS_INFO⟩ := exa_v g17
  have E_STATUS_INFO := Exa.start ev_STATUS_INFO g17
  have S_STATUS_INFO := Sta.start ev_STATUS_INFO (Or.inr ⟨hw _ (List.mem_of_getElem? (i := 3) rfl), hw _ (List.mem_of_getElem? (i := 21) rfl)⟩)
  obtain ⟨w_SUPPORTED_ATTRIBUTES, ev_SUPPORTED_ATTRIBUTES⟩ := exa_v g19
  have E_SUPPORTED_ATTRIBUTES := Exa.start ev_SUPPORTED_ATTRIBUTES g19
  have S_SUPPORTED_ATTRIBUTES := Sta.start ev_SUPPORTED_ATTRIBUTES (Or.inr ⟨hw _ (List.mem_of_getElem? (i := 3) rfl), hw _ (List.mem_of_getElem? (i := 23) rfl)⟩)
  obtain ⟨w_SUPPORTED_PRIMITIVES, ev_SUPPORTED_PRIMITIVES⟩ := exa_v g21
  have E_SUPPORTED_PRIMITIVES := Exa.start ev_SUPPORTED_PRIMITIVES g21
  have S_SUPPORTED_PRIMITIVES := Sta.start ev_SUPPORTED_PRIMITIVES (Or.inr ⟨hw _ (List.mem_of_getElem? (i := 3) rfl), hw _ (List.mem_of_getElem? (i := 25) rfl)⟩)
  obtain ⟨w_USER_DISPLAY_NAME, ev_USER_DISPLAY_NAME⟩ := exa_v g23
  have E_USER_DISPLAY_NAME := Exa.start ev_USER_DISPLAY_NAME g23
  have S_USER_DISPLAY_NAME := Sta.start ev_USER_DISPLAY_NAME (Or.inr ⟨hw _ (List.mem_of_getElem? (i := 3) rfl), hw _ (List.mem_of_getElem? (i := 27) rfl)⟩)
  obtain ⟨w_USER_URI, ev_USER_URI⟩ := exa_v g25
  have E_USER_URI := Exa.start ev_USER_URI g25
  have S_USER_URI := Sta.start ev_USER_URI (Or.inr ⟨hw _ (List.mem_of_getElem? (i := 3) rfl), hw _ (List.mem_of_getElem? (i := 29) rfl)⟩)
  obtain ⟨w_BENEFICIARY_INFORMATION, ev_BENEFICIARY_INFORMATION⟩ := exa_v g27
  have E_BENEFICIARY_INFORMATION := Exa.start ev_BENEFICIARY_INFORMATION g27
  have S_BENEFICIARY_INFORMATION := Sta.start ev_BENEFICIARY_INFORMATION (Or.inr ⟨hw _ (List.mem_of_getElem? (i := 3) rfl), hw _ (List.mem_of_getElem? (i := 31) rfl)⟩)
  obtain ⟨w_FLOOR_REQUEST_INFORMATION, ev_FLOOR_REQUEST_INFORMATION⟩ := exa_v g29
  have E_FLOOR_REQUEST_INFORMATION := Exa.start ev_FLOOR_REQUEST_INFORMATION g29
  have S_FLOOR_REQUEST_INFORMATION := Sta.start ev_FLOOR_REQUEST_INFORMATION (Or.inr ⟨hw _ (List.mem_of_getElem? (i := 3) rfl), hw _ (List.mem_of_getElem? (i := 33) rfl)⟩)
  obtain ⟨w_REQUESTED_BY_INFORMATION, ev_REQUESTED_BY_INFORMATION⟩ := exa_v g31
  have E_REQUESTED_BY_INFORMATION := Exa.start ev_REQUESTED_BY_INFORMATION g31
  have S_REQUESTED_BY_INFORMATION := Sta.start ev_REQUESTED_BY_INFORMATION (Or.inr ⟨hw _ (List.mem_of_getElem? (i := 3) rfl), hw _ (List.mem_of_getElem? (i := 35) rfl)⟩)
  obtain ⟨w_FLOOR_REQUEST_STATUS, ev_FLOOR_REQUEST_STATUS⟩ := exa_v g33
  have E_FLOOR_REQUEST_STATUS := Exa.start ev_FLOOR_REQUEST_STATUS g33
  have S_FLOOR_REQUEST_STATUS := Sta.start ev_FLOOR_REQUEST_STATUS (Or.inr ⟨hw _ (List.mem_of_getElem? (i := 3) rfl), hw _ (List.mem_of_getElem? (i := 37) rfl)⟩)
  obtain ⟨w_OVERALL_REQUEST_STATUS, ev_OVERALL_REQUEST_STATUS⟩ := exa_v g35
  have E_OVERALL_REQUEST_STATUS := Exa.start ev_OVERALL_REQUEST_STATUS g35
  have S_OVERALL_REQUEST_STATUS := Sta.start ev_OVERALL_REQUEST_STATUS (Or.inr ⟨hw _ (List.mem_of_getElem? (i := 3) rfl), hw _ (List.mem_of_getElem? (i := 39) rfl)⟩)
  obtain ⟨w_SIXTEEN_BITS, ev_SIXTEEN_BITS⟩ := exa_v g37
  have E_SIXTEEN_BITS := Exa.start ev_SIXTEEN_BITS g37
  have S_SIXTEEN_BITS := Sta.start ev_SIXTEEN_BITS (Or.inr ⟨hw _ (List.mem_of_getElem? (i := 48) rfl), hw _ (List.mem_of_getElem? (i := 49) rfl)⟩)
  have F_SIXTEEN_BITS_ordinal := own_fld_eq ev_SIXTEEN_BITS g41
  obtain ⟨w_GROUPED, ev_GROUPED⟩ := exa_v g43
  have E_GROUPED := Exa.start ev_GROUPED g43
  have S_GROUPED := Sta.start ev_GROUPED (Or.inr ⟨hw _ (List.mem_of_getElem? (i := 48) rfl), hw _ (List.mem_of_getElem? (i := 59) rfl)⟩)
  have F_GROUPED_ordinal := own_fld_eq ev_GROUPED g47
  obtain ⟨w_OCTETS, ev_OCTETS⟩ := exa_v g53
  have E_OCTETS := Exa.start ev_OCTETS g53
  have S_OCTETS := Sta.start ev_OCTETS (Or.inr ⟨hw _ (List.mem_of_getElem? (i := 48) rfl), hw _ (List.mem_of_getElem? (i := 60) rfl)⟩)
  have F_OCTETS_ordinal := own_fld_eq ev_OCTETS g57
  obtain ⟨w_NON_EMPTY, ev_NON_EMPTY⟩ := exa_v g83
  have E_NON_EMPTY := Exa.start ev_NON_EMPTY g83
  have S_NON_EMPTY := Sta.start ev_NON_EMPTY (Or.inr ⟨hw _ (List.mem_of_getElem? (i := 48) rfl), hw _ (List.mem_of_getElem? (i := 61) rfl)⟩)
  have F_NON_EMPTY_ordinal := own_fld_eq ev_NON_EMPTY g86
  have F_BENEFICIARY_ID_shape := own_fld_ref ev_BENEFICIARY_ID ev_SIXTEEN_BITS g39
  have F_FLOOR_REQUEST_INFORMATION_shape := own_fld_ref ev_FLOOR_REQUEST_INFORMATION ev_GROUPED g45
  have F_REQUEST_STATUS_shape := own_fld_ref ev_REQUEST_STATUS ev_SIXTEEN_BITS g49
  have F_FLOOR_ID_shape := own_fld_ref ev_FLOOR_ID ev_SIXTEEN_BITS g51
  have F_ERROR_INFO_shape := own_fld_ref ev_ERROR_INFO ev_OCTETS g55
  have F_STATUS_INFO_shape := own_fld_ref ev_STATUS_INFO ev_OCTETS g59
  have F_USER_URI_shape := own_fld_ref ev_USER_URI ev_OCTETS g61
  have F_USER_DISPLAY_NAME_shape := own_fld_ref ev_USER_DISPLAY_NAME ev_OCTETS g63
  have F_PRIORITY_shape := own_fld_ref ev_PRIORITY ev_SIXTEEN_BITS g65
  have F_REQUESTED_BY_INFORMATION_shape := own_fld_ref ev_REQUESTED_BY_INFORMATION ev_GROUPED g67
  have F_SUPPORTED_ATTRIBUTES_shape := own_fld_ref ev_SUPPORTED_ATTRIBUTES ev_OCTETS g69
  have F_SUPPORTED_PRIMITIVES_shape := own_fld_ref ev_SUPPORTED_PRIMITIVES ev_OCTETS g71
  have F_FLOOR_REQUEST_ID_shape := own_fld_ref ev_FLOOR_REQUEST_ID ev_SIXTEEN_BITS g73
  have F_BENEFICIARY_INFORMATION_shape := own_fld_ref ev_BENEFICIARY_INFORMATION ev_GROUPED g75
  have F_PARTICIPANT_PROVIDED_INFO_shape := own_fld_ref ev_PARTICIPANT_PROVIDED_INFO ev_OCTETS g77
  have F_OVERALL_REQUEST_STATUS_shape := own_fld_ref ev_OVERALL_REQUEST_STATUS ev_GROUPED g79
  have F_FLOOR_REQUEST_STATUS_shape := own_fld_ref ev_FLOOR_REQUEST_STATUS ev_GROUPED g81
  have F_ERROR_CODE_shape := own_fld_ref ev_ERROR_CODE ev_NON_EMPTY g85
  have hW0 : own_W s s.heap w_BENEFICIARY_ID w_FLOOR_ID w_FLOOR_REQUEST_ID w_PRIORITY w_REQUEST_STATUS w_ERROR_CODE w_ERROR_INFO w_PARTICIPANT_PROVIDED_INFO w_STATUS_INFO w_SUPPORTED_ATTRIBUTES w_SUPPORTED_PRIMITIVES w_USER_DISPLAY_NAME w_USER_URI w_BENEFICIARY_INFORMATION w_FLOOR_REQUEST_INFORMATION w_REQUESTED_BY_INFORMATION w_FLOOR_REQUEST_STATUS w_OVERALL_REQUEST_STATUS w_SIXTEEN_BITS w_GROUPED w_OCTETS w_NON_EMPTY := ⟨S_BENEFICIARY_ID, E_BENEFICIARY_ID, F_BENEFICIARY_ID_shape, S_FLOOR_ID, E_FLOOR_ID, F_FLOOR_ID_shape, S_FLOOR_REQUEST_ID, E_FLOOR_REQUEST_ID, F_FLOOR_REQUEST_ID_shape, S_PRIORITY, E_PRIORITY, F_PRIORITY_shape, S_REQUEST_STATUS, E_REQUEST_STATUS, F_REQUEST_STATUS_shape, S_ERROR_CODE, E_ERROR_CODE, F_ERROR_CODE_shape, S_ERROR_INFO, E_ERROR_INFO, F_ERROR_INFO_shape, S_PARTICIPANT_PROVIDED_INFO, E_PARTICIPANT_PROVIDED_INFO, F_PARTICIPANT_PROVIDED_INFO_shape, S_STATUS_INFO, E_STATUS_INFO, F_STATUS_INFO_shape, S_SUPPORTED_ATTRIBUTES, E_SUPPORTED_ATTRIBUTES, F_SUPPORTED_ATTRIBUTES_shape, S_SUPPORTED_PRIMITIVES, E_SUPPORTED_PRIMITIVES, F_SUPPORTED_PRIMITIVES_shape, S_USER_DISPLAY_NAME, E_USER_DISPLAY_NAME, F_USER_DISPLAY_NAME_shape, S_USER_URI, E_USER_URI, F_USER_URI_shape, S_BENEFICIARY_INFORMATION, E_BENEFICIARY_INFORMATION, F_BENEFICIARY_INFORMATION_shape, S_FLOOR_REQUEST_INFORMATION, E_FLOOR_REQUEST_INFORMATION, F_FLOOR_REQUEST_INFORMATION_shape, S_REQUESTED_BY_INFORMATION, E_REQUESTED_BY_INFORMATION, F_REQUESTED_BY_INFORMATION_shape, S_FLOOR_REQUEST_STATUS, E_FLOOR_REQUEST_STATUS, F_FLOOR_REQUEST_STATUS_shape, S_OVERALL_REQUEST_STATUS, E_OVERALL_REQUEST_STATUS, F_OVERALL_REQUEST_STATUS_shape, S_SIXTEEN_BITS, E_SIXTEEN_BITS, F_SIXTEEN_BITS_ordinal, S_GROUPED, E_GROUPED, F_GROUPED_ordinal, S_OCTETS, E_OCTETS, F_OCTETS_ordinal, S_NON_EMPTY, E_NON_EMPTY, F_NON_EMPTY_ordinal⟩
  obtain ⟨n, o, h1, h2, h3, _, L, rfl, hQ0, hq⟩ := rm_law l s _ hw tables_1 i0 i1 s.heap s.heap.size (Nat.le_refl _) w_BENEFICIARY_ID w_FLOOR_ID w_FLOOR_REQUEST_ID w_PRIORITY w_REQUEST_STATUS w_ERROR_CODE w_ERROR_INFO w_PARTICIPANT_PROVIDED_INFO w_STATUS_INFO w_SUPPORTED_ATTRIBUTES w_SUPPORTED_PRIMITIVES w_USER_DISPLAY_NAME w_USER_URI w_BENEFICIARY_INFORMATION w_FLOOR_REQUEST_INFORMATION w_REQUESTED_BY_INFORMATION w_FLOOR_REQUEST_STATUS w_OVERALL_REQUEST_STATUS w_SIXTEEN_BITS w_GROUPED w_OCTETS w_NON_EMPTY hW0 p e ha hc hk s m _ below hf ((Spec.applies_iff_loose hf).mp happ).1 ⟨rfl, State.Warmed39.refl s, rfl⟩ trivial
  have N := hQ0.2.1
  obtain rfl := hQ0.1
  refine ⟨n, _, h1, h2, h3, hpost _ _ _ _ _ _ ⟨Cond.after_iff.mpr rfl, Cond.after_iff.mpr (eq_i res_at (Term.int_eval (1)) rfl), trivial⟩ ⟨hq.1, hq.2.1, (hq.2.2.sift fun y hy => Or.inr (N y hy)).mono (by decide) (by decide)⟩⟩
theorem main_1_1 : Claimed_1_1 := comes_1 fun _ _ _ _ _ _ h hF => ⟨h.1, hF⟩
theorem main_1_2 : Claimed_1_2 := comes_1 fun _ _ _ _ _ _ h hF => ⟨h.2.1, hF⟩
end Jvm.Pilot.@@N@@
namespace Jvm.Pilot.@@N@@
open Jvm Jvm.ClassFile Sem Op Lib Jvm.Free Jvm.Stand Jvm.Pilot.@@N@@.Jvm.D
/-! MADE BY PROGRAM (witnessworld.py) out of the Statement's table words and the real class files: 14 classes; the members and pool entries that the words name. The judged class is class 1, her method 1. -/
namespace start1
open Jvm.ClassFile
def u (s : String) : CpInfo := .utf8 (stringToUtf16 s)
/-- a pool by its gaps: so many unusable entries, then the entry; so many at the end -/
def gap : Nat → List CpInfo → List CpInfo
  | 0, r => r
  | n + 1, r => .unusable :: gap n r
def poolList (es : List (Nat × CpInfo)) (last : Nat) : List CpInfo := es.foldr (fun e r => gap e.1 (e.2 :: r)) (gap last [])
def pool (es : List (Nat × CpInfo)) (last : Nat) : Array CpInfo := ⟨poolList es last⟩
def fileOf (pool : Array CpInfo) (this : Nat) (attrs : Array Attribute := #[]) (ms : Array MethodInfo := #[]) (fl : Nat := 33) (sup : Nat := 0) (ifs : Array Nat := #[]) (fds : Array FieldInfo := #[]) : ClassFile where
  minorVersion := 0
  majorVersion := 65
  constantPool := pool
  accessFlags := fl
  thisClass := this
  superClass := sup
  interfaces := ifs
  fields := fds
  methods := ms
  attributes := attrs
def plain (name : String) (sup : Option ClassId) : Class where
  name := name
  kind := .ordinary
  loader := none
  accessFlags := 33
  super := sup
  interfaces := #[]
  cf := none
  fields := #[]
  methods := #[]
  instanceTypes := #[]
  staticTypes := #[]
  resolved := #[]
  callSites := []
  init := .initialized
  statics := none
  mirror := none

def pool0 : Array CpInfo := pool [(5, u "<init>"), (0, u "()V"), (1, .class_ 10), (1, u "java/lang/Object")] 113

def k0m0 : Method := { name := "<init>", desc := "()V", sig := { parameters := [], returnType := none }, accessFlags := 1, code := none }
/-- java/lang/Object -/
def k0 : Class := { plain "java/lang/Object" none with
  accessFlags := 33
  interfaces := #[]
  cf := some (fileOf pool0 8 #[] #[{ accessFlags := 1, nameIndex := 5, descriptorIndex := 6, attributes := #[] }] 33 0 #[] #[])
  fields := #[]
  methods := #[k0m0]
  instanceTypes := #[]
  staticTypes := #[]
  resolved := Array.replicate 124 none
  statics := none }

def pool1 : Array CpInfo := pool [(2, .class_ 4), (1, u "java/lang/Object"), (0, u "<init>"), (0, u "()V"), (0, .class_ 8), (0, u "com/example/parley/parley/message/AttributeType"), (0, .fieldref 7 10), (0, .nameAndType 11 12), (0, u "BENEFICIARY_ID"), (0, u "Lcom/example/parley/parley/message/AttributeType;"), (0, .fieldref 7 14), (0, .nameAndType 15 12), (0, u "FLOOR_ID"), (0, .fieldref 7 17), (0, .nameAndType 18 12), (0, u "FLOOR_REQUEST_ID"), (0, .fieldref 7 20), (0, .nameAndType 21 12), (0, u "PRIORITY"), (0, .fieldref 7 23), (0, .nameAndType 24 12), (0, u "REQUEST_STATUS"), (0, .fieldref 7 26), (0, .nameAndType 27 12), (0, u "ERROR_CODE"), (0, .fieldref 7 29), (0, .nameAndType 30 12), (0, u "ERROR_INFO"), (0, .fieldref 7 32), (0, .nameAndType 33 12), (0, u "PARTICIPANT_PROVIDED_INFO"), (0, .fieldref 7 35), (0, .nameAndType 36 12), (0, u "STATUS_INFO"), (0, .fieldref 7 38), (0, .nameAndType 39 12), (0, u "SUPPORTED_ATTRIBUTES"), (0, .fieldref 7 41), (0, .nameAndType 42 12), (0, u "SUPPORTED_PRIMITIVES"), (0, .fieldref 7 44), (0, .nameAndType 45 12), (0, u "USER_DISPLAY_NAME"), (0, .fieldref 7 47), (0, .nameAndType 48 12), (0, u "USER_URI"), (0, .fieldref 7 50), (0, .nameAndType 51 12), (0, u "BENEFICIARY_INFORMATION"), (0, .fieldref 7 53), (0, .nameAndType 54 12), (0, u "FLOOR_REQUEST_INFORMATION"), (0, .fieldref 7 56), (0, .nameAndType 57 12), (0, u "REQUESTED_BY_INFORMATION"), (0, .fieldref 7 59), (0, .nameAndType 60 12), (0, u "FLOOR_REQUEST_STATUS"), (0, .fieldref 7 62), (0, .nameAndType 63 12), (0, u "OVERALL_REQUEST_STATUS"), (0, .integer 2147483647), (0, .methodref 7 66), (0, .nameAndType 67 68), (0, u "accepts"), (0, u "(I)Z"), (0, .class_ 70), (0, u "com/example/parley/parley/message/AttributeTypeAcceptsPinLaw"), (2, u "law"), (0, u "(II)Z")] 5

def k1m0 : Method := { name := "<init>", desc := "()V", sig := { parameters := [], returnType := none }, accessFlags := 1, code := none }
def k1c1 : Code := { maxStack := 4, maxLocals := 7, code := code, exceptionTable := #[], attributes := #[] }
def k1m1 : Method := { name := "law", desc := "(II)Z", sig := { parameters := [.int, .int], returnType := some .boolean }, accessFlags := 9, code := some k1c1 }
/-- com/example/parley/parley/message/AttributeTypeAcceptsPinLaw -/
def k1 : Class := { plain "com/example/parley/parley/message/AttributeTypeAcceptsPinLaw" (some 0) with
  accessFlags := 49
  interfaces := #[]
  cf := some (fileOf pool1 69 #[] #[{ accessFlags := 1, nameIndex := 5, descriptorIndex := 6, attributes := #[] }, { accessFlags := 9, nameIndex := 73, descriptorIndex := 74, attributes := #[] }] 49 2 #[] #[])
  fields := #[]
  methods := #[k1m0, k1m1]
  instanceTypes := #[]
  staticTypes := #[]
  resolved := Array.replicate 80 none
  statics := none }

def pool2 : Array CpInfo := pool [(1, .class_ 2), (0, u "java/lang/constant/Constable"), (0, .class_ 4), (0, u "java/lang/Object")] 6

/-- java/lang/constant/Constable -/
def k2 : Class := { plain "java/lang/constant/Constable" (some 0) with
  accessFlags := 1537
  interfaces := #[]
  cf := some (fileOf pool2 1 #[] #[] 1537 3 #[] #[])
  fields := #[]
  methods := #[]
  instanceTypes := #[]
  staticTypes := #[]
  resolved := Array.replicate 11 none
  statics := none }

def pool3 : Array CpInfo := pool [(1, .class_ 2), (0, u "java/lang/Comparable"), (0, .class_ 4), (0, u "java/lang/Object")] 7

/-- java/lang/Comparable -/
def k3 : Class := { plain "java/lang/Comparable" (some 0) with
  accessFlags := 1537
  interfaces := #[]
  cf := some (fileOf pool3 1 #[] #[] 1537 3 #[] #[])
  fields := #[]
  methods := #[]
  instanceTypes := #[]
  staticTypes := #[]
  resolved := Array.replicate 12 none
  statics := none }

def pool4 : Array CpInfo := pool [(1, .class_ 2), (0, u "java/io/Serializable"), (0, .class_ 4), (0, u "java/lang/Object")] 2

/-- java/io/Serializable -/
def k4 : Class := { plain "java/io/Serializable" (some 0) with
  accessFlags := 1537
  interfaces := #[]
  cf := some (fileOf pool4 1 #[] #[] 1537 3 #[] #[])
  fields := #[]
  methods := #[]
  instanceTypes := #[]
  staticTypes := #[]
  resolved := Array.replicate 7 none
  statics := none }

def pool5 : Array CpInfo := pool [(2, .class_ 4), (1, u "java/lang/Enum"), (0, u "name"), (0, u "Ljava/lang/String;"), (0, .fieldref 2 8), (0, .nameAndType 9 10), (0, u "ordinal"), (0, u "I"), (1, .class_ 14), (1, u "java/lang/Object"), (4, u "hash"), (86, .class_ 108), (1, u "java/lang/Enum$EnumDesc"), (2, .class_ 112), (0, u "java/lang/constant/Constable"), (0, .class_ 114), (0, u "java/lang/Comparable"), (0, .class_ 116), (0, u "java/io/Serializable"), (9, u "()I")] 77

def k5c0 : Code := { maxStack := 1, maxLocals := 1, code := jdk_37_method_2_code, exceptionTable := #[], attributes := #[] }
def k5m0 : Method := { name := "ordinal", desc := "()I", sig := { parameters := [], returnType := some .int }, accessFlags := 17, code := some k5c0 }
/-- java/lang/Enum -/
def k5 : Class := { plain "java/lang/Enum" (some 0) with
  accessFlags := 1057
  interfaces := #[2, 3, 4]
  cf := some (fileOf pool5 2 #[.nestMembers #[106]] #[{ accessFlags := 17, nameIndex := 9, descriptorIndex := 126, attributes := #[] }] 1057 12 #[111, 113, 115] #[{ accessFlags := 18, nameIndex := 5, descriptorIndex := 6, attributes := #[] }, { accessFlags := 18, nameIndex := 9, descriptorIndex := 10, attributes := #[] }, { accessFlags := 2, nameIndex := 19, descriptorIndex := 10, attributes := #[] }])
  fields := #[{ name := "name", type := (.object "java/lang/String"), accessFlags := 18, slot := 0, constantValue := 0 }, { name := "ordinal", type := .int, accessFlags := 18, slot := 1, constantValue := 0 }, { name := "hash", type := .int, accessFlags := 2, slot := 2, constantValue := 0 }]
  methods := #[k5m0]
  instanceTypes := #[(.object "java/lang/String"), .int, .int]
  staticTypes := #[]
  resolved := Array.replicate 204 none
  statics := none }

def pool6 : Array CpInfo := pool [(1, .class_ 2), (0, u "com/example/parley/parley/message/AttributeType"), (2, u "BENEFICIARY_ID"), (0, u "Lcom/example/parley/parley/message/AttributeType;"), (2, u "FLOOR_ID"), (2, u "FLOOR_REQUEST_ID"), (2, u "PRIORITY"), (2, u "REQUEST_STATUS"), (2, u "ERROR_CODE"), (2, u "ERROR_INFO"), (2, u "PARTICIPANT_PROVIDED_INFO"), (2, u "STATUS_INFO"), (2, u "SUPPORTED_ATTRIBUTES"), (2, u "SUPPORTED_PRIMITIVES"), (2, u "USER_DISPLAY_NAME"), (2, u "USER_URI"), (2, u "BENEFICIARY_INFORMATION"), (2, u "FLOOR_REQUEST_INFORMATION"), (2, u "REQUESTED_BY_INFORMATION"), (2, u "FLOOR_REQUEST_STATUS"), (2, u "OVERALL_REQUEST_STATUS"), (2, u "$VALUES"), (0, u "[Lcom/example/parley/parley/message/AttributeType;"), (6, .class_ 70), (1, u "java/lang/Enum"), (8, u "code"), (0, u "I"), (0, .fieldref 1 82), (0, .nameAndType 83 84), (0, u "shape"), (0, u "Lcom/example/parley/parley/message/AttributeType$Shape;"), (1, .class_ 88), (1, u "com/example/parley/parley/message/AttributeType$Shape"), (1, .methodref 86 91), (0, .nameAndType 92 93), (0, u "ordinal"), (0, u "()I"), (66, u "accepts"), (0, u "(I)Z")] 33

def k6c0 : Code := { maxStack := 2, maxLocals := 2, code := prog_24_method_6_code, exceptionTable := #[], attributes := #[] }
def k6m0 : Method := { name := "accepts", desc := "(I)Z", sig := { parameters := [.int], returnType := some .boolean }, accessFlags := 0, code := some k6c0 }
/-- com/example/parley/parley/message/AttributeType -/
def k6 : Class := { plain "com/example/parley/parley/message/AttributeType" (some 5) with
  accessFlags := 16433
  interfaces := #[]
  cf := some (fileOf pool6 1 #[.nestMembers #[86]] #[{ accessFlags := 0, nameIndex := 160, descriptorIndex := 161, attributes := #[] }] 16433 68 #[] #[{ accessFlags := 16409, nameIndex := 5, descriptorIndex := 6, attributes := #[] }, { accessFlags := 16409, nameIndex := 9, descriptorIndex := 6, attributes := #[] }, { accessFlags := 16409, nameIndex := 12, descriptorIndex := 6, attributes := #[] }, { accessFlags := 16409, nameIndex := 15, descriptorIndex := 6, attributes := #[] }, { accessFlags := 16409, nameIndex := 18, descriptorIndex := 6, attributes := #[] }, { accessFlags := 16409, nameIndex := 21, descriptorIndex := 6, attributes := #[] }, { accessFlags := 16409, nameIndex := 24, descriptorIndex := 6, attributes := #[] }, { accessFlags := 16409, nameIndex := 27, descriptorIndex := 6, attributes := #[] }, { accessFlags := 16409, nameIndex := 30, descriptorIndex := 6, attributes := #[] }, { accessFlags := 16409, nameIndex := 33, descriptorIndex := 6, attributes := #[] }, { accessFlags := 16409, nameIndex := 36, descriptorIndex := 6, attributes := #[] }, { accessFlags := 16409, nameIndex := 39, descriptorIndex := 6, attributes := #[] }, { accessFlags := 16409, nameIndex := 42, descriptorIndex := 6, attributes := #[] }, { accessFlags := 16409, nameIndex := 45, descriptorIndex := 6, attributes := #[] }, { accessFlags := 16409, nameIndex := 48, descriptorIndex := 6, attributes := #[] }, { accessFlags := 16409, nameIndex := 51, descriptorIndex := 6, attributes := #[] }, { accessFlags := 16409, nameIndex := 54, descriptorIndex := 6, attributes := #[] }, { accessFlags := 16409, nameIndex := 57, descriptorIndex := 6, attributes := #[] }, { accessFlags := 18, nameIndex := 79, descriptorIndex := 80, attributes := #[] }, { accessFlags := 18, nameIndex := 83, descriptorIndex := 84, attributes := #[] }, { accessFlags := 4122, nameIndex := 60, descriptorIndex := 61, attributes := #[] }])
  fields := #[{ name := "BENEFICIARY_ID", type := (.object "com/example/parley/parley/message/AttributeType"), accessFlags := 16409, slot := 0, constantValue := 0 }, { name := "FLOOR_ID", type := (.object "com/example/parley/parley/message/AttributeType"), accessFlags := 16409, slot := 1, constantValue := 0 }, { name := "FLOOR_REQUEST_ID", type := (.object "com/example/parley/parley/message/AttributeType"), accessFlags := 16409, slot := 2, constantValue := 0 }, { name := "PRIORITY", type := (.object "com/example/parley/parley/message/AttributeType"), accessFlags := 16409, slot := 3, constantValue := 0 }, { name := "REQUEST_STATUS", type := (.object "com/example/parley/parley/message/AttributeType"), accessFlags := 16409, slot := 4, constantValue := 0 }, { name := "ERROR_CODE", type := (.object "com/example/parley/parley/message/AttributeType"), accessFlags := 16409, slot := 5, constantValue := 0 }, { name := "ERROR_INFO", type := (.object "com/example/parley/parley/message/AttributeType"), accessFlags := 16409, slot := 6, constantValue := 0 }, { name := "PARTICIPANT_PROVIDED_INFO", type := (.object "com/example/parley/parley/message/AttributeType"), accessFlags := 16409, slot := 7, constantValue := 0 }, { name := "STATUS_INFO", type := (.object "com/example/parley/parley/message/AttributeType"), accessFlags := 16409, slot := 8, constantValue := 0 }, { name := "SUPPORTED_ATTRIBUTES", type := (.object "com/example/parley/parley/message/AttributeType"), accessFlags := 16409, slot := 9, constantValue := 0 }, { name := "SUPPORTED_PRIMITIVES", type := (.object "com/example/parley/parley/message/AttributeType"), accessFlags := 16409, slot := 10, constantValue := 0 }, { name := "USER_DISPLAY_NAME", type := (.object "com/example/parley/parley/message/AttributeType"), accessFlags := 16409, slot := 11, constantValue := 0 }, { name := "USER_URI", type := (.object "com/example/parley/parley/message/AttributeType"), accessFlags := 16409, slot := 12, constantValue := 0 }, { name := "BENEFICIARY_INFORMATION", type := (.object "com/example/parley/parley/message/AttributeType"), accessFlags := 16409, slot := 13, constantValue := 0 }, { name := "FLOOR_REQUEST_INFORMATION", type := (.object "com/example/parley/parley/message/AttributeType"), accessFlags := 16409, slot := 14, constantValue := 0 }, { name := "REQUESTED_BY_INFORMATION", type := (.object "com/example/parley/parley/message/AttributeType"), accessFlags := 16409, slot := 15, constantValue := 0 }, { name := "FLOOR_REQUEST_STATUS", type := (.object "com/example/parley/parley/message/AttributeType"), accessFlags := 16409, slot := 16, constantValue := 0 }, { name := "OVERALL_REQUEST_STATUS", type := (.object "com/example/parley/parley/message/AttributeType"), accessFlags := 16409, slot := 17, constantValue := 0 }, { name := "code", type := .int, accessFlags := 18, slot := 3, constantValue := 0 }, { name := "shape", type := (.object "com/example/parley/parley/message/AttributeType$Shape"), accessFlags := 18, slot := 4, constantValue := 0 }, { name := "$VALUES", type := (.array (.object "com/example/parley/parley/message/AttributeType")), accessFlags := 4122, slot := 18, constantValue := 0 }]
  methods := #[k6m0]
  instanceTypes := #[(.object "java/lang/String"), .int, .int, .int, (.object "com/example/parley/parley/message/AttributeType$Shape")]
  staticTypes := #[(.object "com/example/parley/parley/message/AttributeType"), (.object "com/example/parley/parley/message/AttributeType"), (.object "com/example/parley/parley/message/AttributeType"), (.object "com/example/parley/parley/message/AttributeType"), (.object "com/example/parley/parley/message/AttributeType"), (.object "com/example/parley/parley/message/AttributeType"), (.object "com/example/parley/parley/message/AttributeType"), (.object "com/example/parley/parley/message/AttributeType"), (.object "com/example/parley/parley/message/AttributeType"), (.object "com/example/parley/parley/message/AttributeType"), (.object "com/example/parley/parley/message/AttributeType"), (.object "com/example/parley/parley/message/AttributeType"), (.object "com/example/parley/parley/message/AttributeType"), (.object "com/example/parley/parley/message/AttributeType"), (.object "com/example/parley/parley/message/AttributeType"), (.object "com/example/parley/parley/message/AttributeType"), (.object "com/example/parley/parley/message/AttributeType"), (.object "com/example/parley/parley/message/AttributeType"), (.array (.object "com/example/parley/parley/message/AttributeType"))]
  resolved := Array.replicate 195 none
  statics := some 0 }

def pool7 : Array CpInfo := pool [(1, .class_ 2), (0, u "com/example/parley/parley/message/AttributeType$Shape"), (2, u "SIXTEEN_BITS"), (0, u "Lcom/example/parley/parley/message/AttributeType$Shape;"), (2, u "NON_EMPTY"), (2, u "OCTETS"), (2, u "GROUPED"), (2, u "$VALUES"), (0, u "[Lcom/example/parley/parley/message/AttributeType$Shape;"), (6, .class_ 28), (1, u "java/lang/Enum"), (27, .class_ 57), (0, u "com/example/parley/parley/message/AttributeType")] 2

/-- com/example/parley/parley/message/AttributeType$Shape -/
def k7 : Class := { plain "com/example/parley/parley/message/AttributeType$Shape" (some 5) with
  accessFlags := 16432
  interfaces := #[]
  cf := some (fileOf pool7 1 #[.nestHost 56] #[] 16432 26 #[] #[{ accessFlags := 16409, nameIndex := 5, descriptorIndex := 6, attributes := #[] }, { accessFlags := 16409, nameIndex := 9, descriptorIndex := 6, attributes := #[] }, { accessFlags := 16409, nameIndex := 12, descriptorIndex := 6, attributes := #[] }, { accessFlags := 16409, nameIndex := 15, descriptorIndex := 6, attributes := #[] }, { accessFlags := 4122, nameIndex := 18, descriptorIndex := 19, attributes := #[] }])
  fields := #[{ name := "SIXTEEN_BITS", type := (.object "com/example/parley/parley/message/AttributeType$Shape"), accessFlags := 16409, slot := 0, constantValue := 0 }, { name := "NON_EMPTY", type := (.object "com/example/parley/parley/message/AttributeType$Shape"), accessFlags := 16409, slot := 1, constantValue := 0 }, { name := "OCTETS", type := (.object "com/example/parley/parley/message/AttributeType$Shape"), accessFlags := 16409, slot := 2, constantValue := 0 }, { name := "GROUPED", type := (.object "com/example/parley/parley/message/AttributeType$Shape"), accessFlags := 16409, slot := 3, constantValue := 0 }, { name := "$VALUES", type := (.array (.object "com/example/parley/parley/message/AttributeType$Shape")), accessFlags := 4122, slot := 4, constantValue := 0 }]
  methods := #[]
  instanceTypes := #[(.object "java/lang/String"), .int, .int]
  staticTypes := #[(.object "com/example/parley/parley/message/AttributeType$Shape"), (.object "com/example/parley/parley/message/AttributeType$Shape"), (.object "com/example/parley/parley/message/AttributeType$Shape"), (.object "com/example/parley/parley/message/AttributeType$Shape"), (.array (.object "com/example/parley/parley/message/AttributeType$Shape"))]
  resolved := Array.replicate 60 none
  statics := some 1 }

def pool8 : Array CpInfo := pool [(1, u "java/lang/Cloneable"), (0, .class_ 1), (0, u "java/lang/Object"), (0, .class_ 3)] 3

/-- java/lang/Cloneable -/
def k8 : Class := { plain "java/lang/Cloneable" (some 0) with
  accessFlags := 1537
  interfaces := #[]
  cf := some (fileOf pool8 2 #[] #[] 1537 4 #[] #[])
  fields := #[]
  methods := #[]
  instanceTypes := #[]
  staticTypes := #[]
  resolved := Array.replicate 8 none
  statics := none }

/-- the primitive byte -/
def k9 : Class := { plain "byte" none with kind := .primitive 'B', accessFlags := 0x411 }
/-- [B -/
def k10 : Class := { plain "[B" (some 0) with kind := .array 9 .byte, interfaces := #[8, 4], accessFlags := 1041 }

/-- the primitive int -/
def k11 : Class := { plain "int" none with kind := .primitive 'I', accessFlags := 0x411 }
/-- [I -/
def k12 : Class := { plain "[I" (some 0) with kind := .array 11 .int, interfaces := #[8, 4], accessFlags := 1041 }

/-- [Lcom/example/parley/parley/message/AttributeType; -/
def k13 : Class := { plain "[Lcom/example/parley/parley/message/AttributeType;" (some 0) with kind := .array 6 (.object "com/example/parley/parley/message/AttributeType"), interfaces := #[8, 4], accessFlags := 1041 }

def heap : Heap := #[{ cls := 6, slots := #[.ref 2, .ref 3, .ref 4, .ref 5, .ref 6, .ref 7, .ref 8, .ref 9, .ref 10, .ref 11, .ref 12, .ref 13, .ref 14, .ref 15, .ref 16, .ref 17, .ref 18, .ref 19, .null], vm := .statics 6 },
  { cls := 7, slots := #[.ref 20, .ref 23, .ref 22, .ref 21, .null], vm := .statics 7 },
  { cls := 6, slots := #[.null, .int 0, .int 0, .int 0, .ref 20], vm := .none },
  { cls := 6, slots := #[.null, .int 0, .int 0, .int 0, .ref 20], vm := .none },
  { cls := 6, slots := #[.null, .int 0, .int 0, .int 0, .ref 20], vm := .none },
  { cls := 6, slots := #[.null, .int 0, .int 0, .int 0, .ref 20], vm := .none },
  { cls := 6, slots := #[.null, .int 0, .int 0, .int 0, .ref 20], vm := .none },
  { cls := 6, slots := #[.null, .int 0, .int 0, .int 0, .ref 23], vm := .none },
  { cls := 6, slots := #[.null, .int 0, .int 0, .int 0, .ref 22], vm := .none },
  { cls := 6, slots := #[.null, .int 0, .int 0, .int 0, .ref 22], vm := .none },
  { cls := 6, slots := #[.null, .int 0, .int 0, .int 0, .ref 22], vm := .none },
  { cls := 6, slots := #[.null, .int 0, .int 0, .int 0, .ref 22], vm := .none },
  { cls := 6, slots := #[.null, .int 0, .int 0, .int 0, .ref 22], vm := .none },
  { cls := 6, slots := #[.null, .int 0, .int 0, .int 0, .ref 22], vm := .none },
  { cls := 6, slots := #[.null, .int 0, .int 0, .int 0, .ref 22], vm := .none },
  { cls := 6, slots := #[.null, .int 0, .int 0, .int 0, .ref 21], vm := .none },
  { cls := 6, slots := #[.null, .int 0, .int 0, .int 0, .ref 21], vm := .none },
  { cls := 6, slots := #[.null, .int 0, .int 0, .int 0, .ref 21], vm := .none },
  { cls := 6, slots := #[.null, .int 0, .int 0, .int 0, .ref 21], vm := .none },
  { cls := 6, slots := #[.null, .int 0, .int 0, .int 0, .ref 21], vm := .none },
  { cls := 7, slots := #[.null, .int 0, .int 0], vm := .none },
  { cls := 7, slots := #[.null, .int 3, .int 0], vm := .none },
  { cls := 7, slots := #[.null, .int 2, .int 0], vm := .none },
  { cls := 7, slots := #[.null, .int 1, .int 0], vm := .none }]
def classes : Array Class := #[k0, k1, k2, k3, k4, k5, k6, k7, k8, k9, k10, k11, k12, k13]
def interned : List (Array UInt16 × Addr) := []
def slotsUsed : Nat := 126
def theMethod : MethodId := ⟨1, 1⟩
def args0 : Array Value := #[.int 5, .int 7]
def aboutOver (below : List Frame) : State where
  vm := { classes := classes, interned := interned.toArray }
  heap := heap
  slotsUsed := slotsUsed
  threads := #[{ frames := .invoking theMethod args0 :: below }]
def below0 : List Frame := [.native { method := ⟨0, 0⟩, args := #[] }]
def about1 : State := aboutOver below0
def p0 : Program := .bare "" "" ""
def e0 : Env := launch0.env 0 0 0
theorem w_frames : about1.frames = Frame.invoking theMethod args0 :: below0 := rfl
set_option maxRecDepth 65536 in
theorem w_args : argsFit about1.vm theMethod args0 = true := by decide +kernel
set_option maxRecDepth 65536 in
theorem w_heap : heapFits about1 = true := by decide +kernel
set_option maxRecDepth 65536 in
theorem w_runnable : about1.curStatus? = some .runnable := by decide +kernel
set_option maxRecDepth 65536 in
theorem w_alone : about1.alone = true := by decide +kernel
set_option maxRecDepth 65536 in
theorem w_named : about1.methodNamed? x = some theMethod := by decide +kernel
set_option maxRecDepth 65536 in
theorem w_hears : about1.hears theMethod below0 = true := by decide +kernel
set_option maxRecDepth 65536 in
theorem w_ripe : about1.ripe theMethod args0 below0 = true := by decide +kernel
theorem w_running : about1.status = .running := rfl
set_option maxRecDepth 65536 in
theorem w_room : about1.hasRoom e0.platform room_1 = true :=
  launch0.hasRoom_least _ room_1 (by decide +kernel) (by decide +kernel) (by decide +kernel) (by decide +kernel) (by decide +kernel) (by decide +kernel)
theorem allAtoms_all (ts : List Jvm.Cond) (a : Array Jvm.Value) (st : Jvm.State) : (allAtoms ts).before a st = ts.all (fun c => c.before a st) := by
  induction ts with
  | nil => rfl
  | cons c t ih =>
    show (Jvm.Cond.and c (allAtoms t)).before a st = _
    rw [Jvm.Cond.before_and, ih, List.all_cons]
def words1 : List Jvm.Cond := Jvm.Cond.code x code maxLocals ret :: tables_1
/-- a 'code' word, met by the world's own term for the bytes: nothing is compared byte by byte -/
theorem code_word {y : MethodName} {bytes : ByteArray} {mx : Nat} {rt : Option FieldType} {a : Array Value} {s : State} {m : MethodId} {meth : Method} {c : Code} (h1 : s.methodNamed? y = some m) (h2 : s.vm.method? m = some meth) (h3 : meth.code = some c) (h4 : c.code = bytes)
    (h5 : (c.maxLocals == mx && c.exceptionTable.isEmpty && decide (c.maxStack ≤ mostOperands) && decide (meth.sig.returnType = rt) && !meth.locks && decide (parseMethodDescriptor y.desc = some meth.sig)) = true) : (Jvm.Cond.code y bytes mx rt).before a s = true := by
  simp only [Bool.and_eq_true, beq_iff_eq, Bool.not_eq_true', decide_eq_true_eq] at h5
  obtain ⟨⟨⟨⟨⟨g1, g2⟩, g3⟩, g4⟩, g5⟩, g6⟩ := h5
  simp [Cond.before, Cond.holds, Cond.value, h1, h2, h3, h4, g1, g2, g3, g4, g5, g6]
def isCode : Jvm.Cond → Bool
  | .code _ _ _ _ => true
  | _ => false
theorem all_split {L : List Jvm.Cond} {P : Jvm.Cond → Bool} (h1 : L.all (fun c => isCode c || P c) = true) (h2 : ∀ c ∈ L.filter isCode, P c = true) : L.all P = true := by
  refine List.all_eq_true.mpr fun c hc => ?_
  have h := List.all_eq_true.mp h1 c hc
  rcases Bool.eq_false_or_eq_true (isCode c) with hi | hi
  · exact h2 c (List.mem_filter.mpr ⟨hc, hi⟩)
  · simpa [hi] using h
set_option maxRecDepth 65536 in
theorem w_c0 : (Jvm.Cond.code x code maxLocals ret).before args0 about1 = true := code_word (m := ⟨1, 1⟩) (meth := k1m1) (c := k1c1) (by decide +kernel) rfl rfl rfl (by decide +kernel)
set_option maxRecDepth 65536 in
theorem w_c1 : (Jvm.Cond.code ({ cls := "com/example/parley/parley/message/AttributeType", name := "accepts", desc := "(I)Z" } : Jvm.MethodName) prog_24_method_6_code (2 : Nat) (Option.some Jvm.ClassFile.FieldType.boolean)).before args0 about1 = true := code_word (m := ⟨6, 0⟩) (meth := k6m0) (c := k6c0) (by decide +kernel) rfl rfl rfl (by decide +kernel)
set_option maxRecDepth 65536 in
theorem w_c2 : (Jvm.Cond.code ({ cls := "java/lang/Enum", name := "ordinal", desc := "()I" } : Jvm.MethodName) jdk_37_method_2_code (1 : Nat) (Option.some Jvm.ClassFile.FieldType.int)).before args0 about1 = true := code_word (m := ⟨5, 0⟩) (meth := k5m0) (c := k5c0) (by decide +kernel) rfl rfl rfl (by decide +kernel)
def codes1 : List Jvm.Cond := [Jvm.Cond.code x code maxLocals ret, Jvm.Cond.code ({ cls := "com/example/parley/parley/message/AttributeType", name := "accepts", desc := "(I)Z" } : Jvm.MethodName) prog_24_method_6_code (2 : Nat) (Option.some Jvm.ClassFile.FieldType.boolean), Jvm.Cond.code ({ cls := "java/lang/Enum", name := "ordinal", desc := "()I" } : Jvm.MethodName) jdk_37_method_2_code (1 : Nat) (Option.some Jvm.ClassFile.FieldType.int)]
set_option maxRecDepth 65536 in
theorem codes_eq : words1.filter isCode = codes1 := rfl
theorem w_codes : ∀ c ∈ words1.filter isCode, c.before args0 about1 = true := by
  rw [codes_eq]
  intro c hc
  simp only [codes1, List.mem_cons, List.not_mem_nil, or_false] at hc
  rcases hc with rfl | rfl | rfl
  · exact w_c0
  · exact w_c1
  · exact w_c2
set_option maxRecDepth 65536 in
theorem w_t1 : (words1.take 24).all (fun c => isCode c || c.before args0 about1) = true := by decide +kernel
set_option maxRecDepth 65536 in
theorem w_t2 : ((words1.drop 24).take 24).all (fun c => isCode c || c.before args0 about1) = true := by decide +kernel
set_option maxRecDepth 65536 in
theorem w_t3 : ((words1.drop 24).drop 24).all (fun c => isCode c || c.before args0 about1) = true := by decide +kernel
theorem w_tables : (allAtoms (Jvm.Cond.code x code maxLocals ret :: tables_1)).before args0 about1 = true := by
  rw [allAtoms_all]
  show words1.all (fun c => c.before args0 about1) = true
  refine all_split ?_ w_codes
  rw [← List.take_append_drop 24 words1, List.all_append, w_t1, ← List.take_append_drop 24 (words1.drop 24), List.all_append, w_t2, w_t3]
  rfl
set_option maxRecDepth 65536 in
theorem w_case : (Jvm.Cond.and given_1 narrow_1).before args0 about1 = true := by decide +kernel
theorem w_applies : (headSpec (Jvm.Cond.code x code maxLocals ret :: tables_1) room_1).applies x e0.platform about1 = true :=
  (Spec.applies_iff w_frames).mpr ⟨w_running, w_runnable, w_alone, w_named, w_hears, w_ripe, w_room, w_tables⟩
theorem atStart : AtStart classFile x code maxLocals ret World_1 tables_1 room_1 Calls_1 rest_1 Pre_1 launch0 p0 e0 about1 theMethod args0 below0 :=
  ⟨lists_1, trivial, launch0.admits_env _ _ _, launch0.least_env, fairChoices_fair.cas, fairChoices_fair.clock, w_frames, w_args, w_heap, w_applies, trivial, trivial, w_case⟩
end start1
theorem witness_1 : WitnessClaimed_1 := ⟨start1.p0, start1.e0, start1.about1, start1.theMethod, start1.args0, start1.below0, start1.atStart⟩
end Jvm.Pilot.@@N@@
